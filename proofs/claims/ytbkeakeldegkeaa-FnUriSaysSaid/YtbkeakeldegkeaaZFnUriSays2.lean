/- FnUriSays: the law's function, called with any arguments, returns true and leaves its arguments as they were: every input, no condition. Part 3 of 16. -/
import Derived.Test.YtbkeakeldegkeaaZFnUriSays1
import Derived.Test.YtbkeakeldegkeaaZFnUriSays0
import Derived.Lib.BytesEntry
set_option linter.unusedVariables false
set_option linter.unusedSimpArgs false
section
namespace Go.Proofs.Ytbkeakeldegkeaa.Q
open Go.RowKit Go.Proofs.YtbkeakeldegkeaaW.PrintWords Go.Proofs.YtbkeakeldegkeaaW.PrintLast Go.Proofs.YtbkeakeldegkeaaW.PrintMore
attribute [local go_sem] max2_int min2_int max_two min_two max_three min_three max_four min_four
mutual
def hertzconv_AppendQuotedPath.j0 : Nat → List Int → List Int → Bool → Option (List Int)
 | 0,_,_,_ => none
 | k + 1,x0,x1,x15 => if x15 = true then (if x0.length < 140737488355328 then (some (x0 ++ [42])) else (none)) else (hertzconv_AppendQuotedPath.l0 k x0 x1 (x1.length : Int) 0)
def hertzconv_AppendQuotedPath.l0 : Nat → List Int → List Int → Int → Int → Option (List Int)
 | 0,_,_,_,_ => none
 | k + 1,x0,x19,x20,x21 => if x21 < x20 then (if 0 ≤ x21 then (if x21 < (x19.length : Int) then (if 0 ≤ (wrap64 (rd x19 x21)) then (if (wrap64 (rd x19 x21)) < (tab2.size : Int) then (if (bt tab2 (wrap64 (rd x19 x21))) = 0 then (if x0.length < 140737488355328 then (hertzconv_AppendQuotedPath.l0 k (x0 ++ [rd x19 x21]) x19 x20 (wrap64 (x21 + 1))) else (none)) else (if 0 ≤ ((rd x19 x21) / 16) then (if ((rd x19 x21) / 16) < 16 then (if 0 ≤ (Go.bits .and .u8 (rd x19 x21) 15) then (if (Go.bits .and .u8 (rd x19 x21) 15) < 16 then ((some (([37,bt ⟨#[48,49,50,51,52,53,54,55,56,57,65,66,67,68,69,70]⟩ ((rd x19 x21) / 16),bt ⟨#[48,49,50,51,52,53,54,55,56,57,65,66,67,68,69,70]⟩ (Go.bits .and .u8 (rd x19 x21) 15)] : List Int) : List Int)).bind fun y237 => (if x0.length + y237.length < 140737488355328 then (hertzconv_AppendQuotedPath.l0 k (x0 ++ y237) x19 x20 (wrap64 (x21 + 1))) else (none))) else (none)) else (none)) else (none)) else (none))) else (none)) else (none)) else (none)) else (none)) else (some x0)
end
def hertzconv_AppendQuotedPath.f (k : Nat) (l0 : List Int) (l1 : List Int) : Option (List Int) := if (l1.length : Int) = 1 then (if 0 < (l1.length : Int) then (hertzconv_AppendQuotedPath.j0 k l0 l1 ((rd l1 0) == 42)) else (none)) else (hertzconv_AppendQuotedPath.j0 k l0 l1 false)
def hertzconv_AppendQuotedPath.T7 : Bool × List (List Nat × List Nat) := (true,[([],[]),([],[]),([1],[1]),([2],[2]),([],[]),([4],[4]),([5],[5]),([3,6],[3,6]),([0,7],[0,7]),([8,8,0,1,2,3,4,5,6,7,8],[0,8])])
def hertzconv_AppendQuotedPath.B7 : List Nat := [0,0,2,6,0,16,48,126,255,511]
theorem hertzconv_AppendQuotedPath.tab7 : rtab .any (opsOf Try.f32 7) = hertzconv_AppendQuotedPath.T7 := by kernel_rfl
theorem hertzconv_AppendQuotedPath.bits7 : waitsOk hertzconv_AppendQuotedPath.T7.2 hertzconv_AppendQuotedPath.B7 = true := by kernel_rfl
set_option maxHeartbeats 8000000 in
set_option maxRecDepth 100000 in
theorem hertzconv_AppendQuotedPath.calls (k : Nat) (P0_ : Nat → Prop) (u9000_ : Value) (l0 : List Int) (A1 : Option Addr) (c1 : Nat) (l1 : List Int) (r : List Int) (w0 w : World) (hB : Below w0.heap.size w0 w) (ho0 : Kd.R (Kd.int .u8) 5 w w0.heap.size P0_ u9000_ l0) (hr1 : ∀ W_,Kept w W_ (fun k_ => P0_ k_) → Kd.C (Kd.int .u8) W_ A1 l1.length l1) (hc1 : l1.length ≤ c1) (h : hertzconv_AppendQuotedPath.f k l0 l1 = some r) :
  Calls Try.prog 32 #[u9000_,.slice A1 l1.length c1] w fun e w' => ∃ v0_ : Value,e = .returned (v0_) ∧ Kd.R (Kd.int .u8) 5 w' w0.heap.size (fun k_ => (P0_ k_ ∨ w.heap.size ≤ k_)) v0_ r ∧ Below w0.heap.size w0 w' ∧ Kept w w' (fun k_ => P0_ k_) := by
 have HO0 := Aside0.mk (show Kd.R (Kd.int .u8) 5 w w0.heap.size (fun k_ => (P0_ k_ ∨ w.heap.size ≤ k_)) u9000_ l0 from Kd.R_mono ho0 (fun k_ hk => (.inl hk)))
 have HR1 := Aside0.mk hr1
 have HC1 := Aside0.mk hc1
 clear hr1 hc1
 have HK := Aside0.mk (Kept.refl w (fun k_ => P0_ k_))
 have HW0 := Aside0.mk hB.size
 have HB := Aside0.mk hB
 clear hB
 have H : (if (l1.length : Int) = 1 then (if 0 < (l1.length : Int) then (hertzconv_AppendQuotedPath.j0 k l0 l1 ((rd l1 0) == 42)) else (none)) else (hertzconv_AppendQuotedPath.j0 k l0 l1 false)) = some r := h
 clear h
 have HC3 := Aside0.mk H
 clear H
 go_enter Try.func32,Try.ntmps32
 go_upto_region 1 with (fail)
 go_cut [15] (fun v15 wc => ∃ (kq : Nat) (x15_2 : Bool),v15 = .bool x15_2 ∧ Aside0 (hertzconv_AppendQuotedPath.j0 kq l0 l1 x15_2 = some r) ∧ Aside0 (kq ≤ k) ∧ Aside0 (Kd.R (Kd.int .u8) 5 wc w0.heap.size (fun k_ => (P0_ k_ ∨ w.heap.size ≤ k_)) u9000_ l0) ∧ Aside0 (Kept w wc (fun k_ => P0_ k_)) ∧ Aside0 (Below w0.heap.size w0 wc))
 case first =>
  have H := HC3.out
  clear HC3
  by_cases c4 : (l1.length : Int) = 1
  ·
   rw [if_pos c4] at H
   have c4b0 : ((l1.length : Int) == 1) = true := beq_iff_eq.mpr c4
   have c4b1 : ((l1.length : Int) != 1) = false := bne_eq_false_iff_eq.mpr c4
   clear c4
   (first|rw [c4b0]|(simp only [i64_w,i32_w];rw [c4b0])|(rw [YtbkeakeldegkeaaX.isEmpty_eq];rw [c4b0])|skip)
   by_cases c5 : 0 < (l1.length : Int)
   ·
    rw [if_pos c5] at H
    have c5b0 : decide (0 < (l1.length : Int)) = true := decide_eq_true c5
    have c5b1 : decide (0 < l1.length) = true := decide_eq_true (by omega)
    clear c5
    have H' := Aside0.mk H
    clear H
    have p229 : 0 ≤ (0 : Int) := (by omega)
    have q229 : 0 < (l1.length : Int) := odt_
    obtain ⟨ad229,e229,hx229_0⟩ := Kd.at_int (Kd.C_kept_now HR1.out HK.out) 0 p229 q229
    cases e229
    have qi229 : (0 < l1.length) = True := eq_true (by omega)
    (try rw [show ((0 : Int)).toNat = 0 from rfl] at hx229_0)
    (try rw [Addr.add_zero'] at hx229_0)
    replace p229 := eq_true p229
    replace q229 := eq_true q229
    go_wp2
    go_meet
    case rel => exact ⟨_,(((rd l1 0) == 42)),(rs_),H',⟨by first|omega|exact Nat.le_refl _⟩,⟨by (with_reducible repeat (first|apply Kd.R_alloc|apply Kd.R_drewN|apply Kd.R_drew));exact HO0.out⟩,⟨by repeat (first|(with_reducible first|exact HK.out|apply Kept.alloc|apply Kept.drewN|apply Kept.drew)|exact HK.out)⟩,⟨bl_ HB.out⟩⟩
   rw [if_neg c5] at H
   exact absurd H (by simp)
  rw [if_neg c4] at H
  have c4b0 : ((l1.length : Int) == 1) = false := beq_eq_false_iff_ne.mpr c4
  have c4b1 : ((l1.length : Int) != 1) = true := bne_iff_ne.mpr c4
  (first|rw [c4b0]|(simp only [i64_w,i32_w];rw [c4b0])|(rw [YtbkeakeldegkeaaX.isEmpty_eq];rw [c4b0])|skip)
  have H' := Aside0.mk H
  clear H
  go_wp2
  go_meet
  case rel => exact ⟨_,(false),(rs_),H',⟨by first|omega|exact Nat.le_refl _⟩,⟨by (with_reducible repeat (first|apply Kd.R_alloc|apply Kd.R_drewN|apply Kd.R_drew));exact HO0.out⟩,⟨by repeat (first|(with_reducible first|exact HK.out|apply Kept.alloc|apply Kept.drewN|apply Kept.drew)|exact HK.out)⟩,⟨bl_ HB.out⟩⟩
 case rest =>
  clear HC3
  try clear c1
  try clear p2
  try clear q2
  try clear hx2
  try clear qi2
  try clear c3
  try clear c4
  try clear c4b0
  try clear c4b1
  try clear c5
  try clear c5b0
  try clear c5b1
  try clear hx229_0
  try clear p229
  try clear q229
  obtain ⟨kq,x15_2,rfl,HA,HJ2,HO_0,HK,HB⟩ := hcut
  cases kq with
  | zero => exact absurd HA.out (by simp [hertzconv_AppendQuotedPath.j0])
  | succ kj2 =>
   have H := HA.out
   clear HA
   simp only [hertzconv_AppendQuotedPath.j0] at H
   by_cases c6 : x15_2 = true
   ·
    subst c6
    have H1 : (if l0.length < 140737488355328 then (some (l0 ++ [42])) else (none)) = some r := by rw [if_pos rfl] at H;exact H
    clear H
    have H := H1
    clear H1
    by_cases c7 : l0.length < 140737488355328
    ·
     rw [if_pos c7] at H
     have LMc7 := Aside0.mk c7
     clear c7
     obtain ⟨y230,hy230⟩ : ∃ y_ : List Int,y_ = (l0 ++ [42]) := ⟨_,rfl⟩
     replace H : (some y230) = some r := by first|(rw [hy230];with_reducible exact H)|(have H2_ := (Option.bind_some _ _).symm.trans H;rw [hy230];with_reducible exact H2_)|(have H2_ := (Option.bind_some _ _).symm.trans H;with_reducible exact H2_)|with_reducible exact H|(rw [hy230];exact H)|exact H
     have Ny230 := Aside0.mk hy230
     clear hy230
     obtain rfl := Option.some.inj H
     go_wp2_with (first|((with_reducible refine gate_builtin (b := .append) (xs := #[.tmp 16,.tmp 17]) rfl ?_);at_builtin;refine Kd.R_append (Kd.int .u8) (w0 := w0) w0.heap.size rfl (.tmp 16) (.tmp 17) 49 5 (.int .u8 0) 1 rfl Try.underlying49 info5 rfl (by decide) (by omega) u9000_ l0 42 [.int .u8 42] (fun k_ => (P0_ k_ ∨ w.heap.size ≤ k_)) (fun _ => False) rfl rfl ?aP (fun _ hk => hk.elim) ?aF ?aO ?aB ?aS ?aL ?_;(case aP => exact rfl);(case aB => exact (bl_ HB.out));(case aF => exact (fun k_ hk => (.inr (Nat.le_trans (by first|exact HK.out.1|exact (show Kept w _ (fun k_ => P0_ k_) from by repeat (first|(with_reducible first|exact HK.out|apply Kept.alloc|apply Kept.drewN|apply Kept.drew)|exact HK.out)).1) hk))));(case aO => exact (by (with_reducible repeat (first|apply Kd.R_alloc|apply Kd.R_drewN|apply Kd.R_drew));exact HO_0.out));(case aS => exact (below_size (bl_ HB.out)));(case aL => have := LMc7.out;omega);intro v231 w8 ho hb hg hat;rw [← Ny230.out] at ho;have n0_ := Aside0.mk (hb);have n1_ := Aside0.mk (Kept.of_grown (S := (fun k_ => P0_ k_)) hg (by repeat (first|(with_reducible first|exact HK.out|apply Kept.alloc|apply Kept.drewN|apply Kept.drew)|exact HK.out)) (fun k_ e_ => (HO_0.out.1 k_ e_)));have n2_ := Aside0.mk (ho);clear HB;clear HK;clear HO_0;have HB := n0_;have HK := n1_;have HO232 := n2_;clear n0_ n1_ n2_;clear ho hb hg hat))
     go_ret
     exact ⟨_,by first|rfl|(simp [errW_none,errW_some] <;> rfl)|(simp [*,errW_none,errW_some] <;> rfl),by (with_reducible repeat (first|apply Kd.R_alloc|apply Kd.R_drewN|apply Kd.R_drew));exact HO232.out,bl_ HB.out,by repeat (first|(with_reducible first|exact HK.out|apply Kept.alloc|apply Kept.drewN|apply Kept.drew)|exact HK.out)⟩
    rw [if_neg c7] at H
    exact absurd H (by simp)
   replace c6 := Bool.eq_false_iff.mpr c6
   subst c6
   have H1 : (hertzconv_AppendQuotedPath.l0 kj2 l0 l1 (l1.length : Int) 0) = some r := by rw [if_neg (show ¬ (false = true) by decide)] at H;exact H
   clear H
   have H := H1
   clear H1
   have H' := Aside0.mk H
   clear H
   go_wp2
   go_loopg [0,21] kj2 (fun kq v0 v21 w' => ∃ (x0_2 : List Int) (x21_2 : Int),v21 = .int .i64 x21_2 ∧ Aside0 (hertzconv_AppendQuotedPath.l0 kq x0_2 l1 (l1.length : Int) x21_2 = some r) ∧ Aside0 (kq ≤ kj2) ∧ Aside0 (Kd.R (Kd.int .u8) 5 w' w0.heap.size (fun k_ => (P0_ k_ ∨ w.heap.size ≤ k_)) v0 x0_2) ∧ Aside0 (Kept w w' (fun k_ => P0_ k_)) ∧ Aside0 (Below w0.heap.size w0 w'))
   case atStart => exact ⟨(l0),(0),(rs_),H',⟨Nat.le_refl _⟩,⟨by (with_reducible repeat (first|apply Kd.R_alloc|apply Kd.R_drewN|apply Kd.R_drew));exact HO_0.out⟩,⟨by repeat (first|(with_reducible first|exact HK.out|apply Kept.alloc|apply Kept.drewN|apply Kept.drew)|exact HK.out)⟩,⟨bl_ HB.out⟩⟩
   case round =>
    clear H'
    try clear c1
    try clear p2
    try clear q2
    try clear hx2
    try clear qi2
    try clear c3
    try clear c4
    try clear c4b0
    try clear c4b1
    try clear c5
    try clear c5b0
    try clear c5b1
    try clear c6
    try clear c7
    try clear hx229_0
    try clear p2
    try clear p229
    try clear q2
    try clear q229
    obtain ⟨x0_2,x21_2,rfl,HA,HK2,HO_0,HK,HB⟩ := hrel
    cases gk with
    | zero => exact absurd HA.out (by simp [hertzconv_AppendQuotedPath.l0])
    | succ k2 =>
     have H := HA.out
     clear HA
     simp only [hertzconv_AppendQuotedPath.l0] at H
     by_cases c9 : x21_2 < (l1.length : Int)
     ·
      rw [if_pos c9] at H
      have c9b0 : decide (x21_2 < (l1.length : Int)) = true := decide_eq_true c9
      clear c9
      by_cases c10 : 0 ≤ x21_2
      ·
       rw [if_pos c10] at H
       have c10b0 : decide (0 ≤ x21_2) = true := decide_eq_true c10
       clear c10
       by_cases c11 : x21_2 < (l1.length : Int)
       ·
        rw [if_pos c11] at H
        have c11b0 : decide (x21_2 < (l1.length : Int)) = true := decide_eq_true c11
        clear c11
        obtain ⟨ji12,hji12⟩ : ∃ j_ : Int,(wrap64 (rd l1 x21_2)) = j_ := ⟨_,rfl⟩
        replace H : (if 0 ≤ (ji12) then (if (ji12) < (tab2.size : Int) then (if (bt tab2 (ji12)) = 0 then (if x0_2.length < 140737488355328 then (hertzconv_AppendQuotedPath.l0 k2 (x0_2 ++ [rd l1 x21_2]) l1 (l1.length : Int) (wrap64 (x21_2 + 1))) else (none)) else (if 0 ≤ ((rd l1 x21_2) / 16) then (if ((rd l1 x21_2) / 16) < 16 then (if 0 ≤ (Go.bits .and .u8 (rd l1 x21_2) 15) then (if (Go.bits .and .u8 (rd l1 x21_2) 15) < 16 then ((some (([37,bt ⟨#[48,49,50,51,52,53,54,55,56,57,65,66,67,68,69,70]⟩ ((rd l1 x21_2) / 16),bt ⟨#[48,49,50,51,52,53,54,55,56,57,65,66,67,68,69,70]⟩ (Go.bits .and .u8 (rd l1 x21_2) 15)] : List Int) : List Int)).bind fun y237 => (if x0_2.length + y237.length < 140737488355328 then (hertzconv_AppendQuotedPath.l0 k2 (x0_2 ++ y237) l1 (l1.length : Int) (wrap64 (x21_2 + 1))) else (none))) else (none)) else (none)) else (none)) else (none))) else (none)) else (none)) = some r := by first|(rw [hji12] at H;exact H)|(simp only [hji12] at H ⊢;exact H)
        have hji12w : (IntKind.i64.wrap (rd l1 x21_2)) = ji12 := (i64_w _).trans hji12
        by_cases c13 : 0 ≤ (ji12)
        ·
         rw [if_pos c13] at H
         have c13b0 : decide (0 ≤ (ji12)) = true := decide_eq_true c13
         clear c13
         by_cases c14 : (ji12) < (tab2.size : Int)
         ·
          rw [if_pos c14] at H
          have c14b0 : decide ((ji12) < (tab2.size : Int)) = true := decide_eq_true c14
          clear c14
          by_cases c16 : (bt tab2 (ji12)) = 0
          ·
           rw [if_pos c16] at H
           have c16b0 : ((bt tab2 (ji12)) == 0) = true := beq_iff_eq.mpr c16
           have c16b1 : ((bt tab2 (ji12)) != 0) = false := bne_eq_false_iff_eq.mpr c16
           clear c16
           by_cases c17 : x0_2.length < 140737488355328
           ·
            rw [if_pos c17] at H
            have LMc17 := Aside0.mk c17
            clear c17
            obtain ⟨y234,hy234⟩ : ∃ y_ : List Int,y_ = (x0_2 ++ [rd l1 x21_2]) := ⟨_,rfl⟩
            replace H : (hertzconv_AppendQuotedPath.l0 k2 y234 l1 (l1.length : Int) (wrap64 (x21_2 + 1))) = some r := by first|(rw [hy234];with_reducible exact H)|(have H2_ := (Option.bind_some _ _).symm.trans H;rw [hy234];with_reducible exact H2_)|(have H2_ := (Option.bind_some _ _).symm.trans H;with_reducible exact H2_)|with_reducible exact H|(rw [hy234];exact H)|exact H
            have Ny234 := Aside0.mk hy234
            clear hy234
            have H' := Aside0.mk H
            clear H
            have p233 : 0 ≤ (x21_2 : Int) := odt_
            have q233 : x21_2 < (l1.length : Int) := odt_
            obtain ⟨ad233,e233,hx233_0⟩ := Kd.at_int (Kd.C_kept_now HR1.out HK.out) x21_2 p233 q233
            cases e233
            replace p233 := eq_true p233
            replace q233 := eq_true q233
            go_wp2_with (first|((with_reducible refine gate_dst (N := 27) rfl ?_);refine YtbkeakeldegkeaaX.index_tab (some 27) rfl rfl 9 _ _ rfl Try.underlying9 tab2 (by kernel_rfl) .i64 (ji12) rfl (by first|exact odt_|exact (bt_range _ _).1|omega) (odt_) ?_)|((with_reducible refine gate_builtin (b := .append) (xs := #[.tmp 38,.tmp 40]) rfl ?_);at_builtin;refine Kd.R_append (Kd.int .u8) (w0 := w0) w0.heap.size rfl (.tmp 38) (.tmp 40) 49 5 (.int .u8 0) 1 rfl Try.underlying49 info5 rfl (by decide) (by omega) u0 x0_2 (rd l1 x21_2) [.int .u8 (rd l1 x21_2)] (fun k_ => (P0_ k_ ∨ w.heap.size ≤ k_)) (fun _ => False) rfl rfl ?aP (fun _ hk => hk.elim) ?aF ?aO ?aB ?aS ?aL ?_;(case aP => exact rfl);(case aB => exact (bl_ HB.out));(case aF => exact (fun k_ hk => (.inr (Nat.le_trans (by first|exact HK.out.1|exact (show Kept w _ (fun k_ => P0_ k_) from by repeat (first|(with_reducible first|exact HK.out|apply Kept.alloc|apply Kept.drewN|apply Kept.drew)|exact HK.out)).1) hk))));(case aO => exact (by (with_reducible repeat (first|apply Kd.R_alloc|apply Kd.R_drewN|apply Kd.R_drew));exact HO_0.out));(case aS => exact (below_size (bl_ HB.out)));(case aL => have := LMc17.out;omega);intro v235 w18 ho hb hg hat;rw [← Ny234.out] at ho;have n0_ := Aside0.mk (hb);have n1_ := Aside0.mk (Kept.of_grown (S := (fun k_ => P0_ k_)) hg (by repeat (first|(with_reducible first|exact HK.out|apply Kept.alloc|apply Kept.drewN|apply Kept.drew)|exact HK.out)) (fun k_ e_ => (HO_0.out.1 k_ e_)));have n2_ := Aside0.mk (ho);clear HB;clear HK;clear HO_0;have HB := n0_;have HK := n1_;have HO236 := n2_;clear n0_ n1_ n2_;clear ho hb hg hat))
            go_roundg k2
            case measure => have := HJ2.out;have := HK2.out;omega
            case rel => exact ⟨(y234),(wrap64 (x21_2 + 1)),(rs_),H',⟨by have := HJ2.out;have := HK2.out;omega⟩,⟨by (with_reducible repeat (first|apply Kd.R_alloc|apply Kd.R_drewN|apply Kd.R_drew));exact HO236.out⟩,⟨by repeat (first|(with_reducible first|exact HK.out|apply Kept.alloc|apply Kept.drewN|apply Kept.drew)|exact HK.out)⟩,⟨bl_ HB.out⟩⟩
           rw [if_neg c17] at H
           exact absurd H (by simp)
          rw [if_neg c16] at H
          have c16b0 : ((bt tab2 (ji12)) == 0) = false := beq_eq_false_iff_ne.mpr c16
          have c16b1 : ((bt tab2 (ji12)) != 0) = true := bne_iff_ne.mpr c16
          obtain ⟨ji19,hji19⟩ : ∃ j_ : Int,((rd l1 x21_2) / 16) = j_ := ⟨_,rfl⟩
          replace H : (if 0 ≤ (ji19) then (if (ji19) < 16 then (if 0 ≤ (Go.bits .and .u8 (rd l1 x21_2) 15) then (if (Go.bits .and .u8 (rd l1 x21_2) 15) < 16 then ((some (([37,bt ⟨#[48,49,50,51,52,53,54,55,56,57,65,66,67,68,69,70]⟩ (ji19),bt ⟨#[48,49,50,51,52,53,54,55,56,57,65,66,67,68,69,70]⟩ (Go.bits .and .u8 (rd l1 x21_2) 15)] : List Int) : List Int)).bind fun y237 => (if x0_2.length + y237.length < 140737488355328 then (hertzconv_AppendQuotedPath.l0 k2 (x0_2 ++ y237) l1 (l1.length : Int) (wrap64 (x21_2 + 1))) else (none))) else (none)) else (none)) else (none)) else (none)) = some r := by first|(rw [hji19] at H;exact H)|(simp only [hji19] at H ⊢;exact H)
          by_cases c20 : 0 ≤ (ji19)
          ·
           rw [if_pos c20] at H
           have c20b0 : decide (0 ≤ (ji19)) = true := decide_eq_true c20
           clear c20
           by_cases c21 : (ji19) < 16
           ·
            rw [if_pos c21] at H
            have c21b0 : decide ((ji19) < 16) = true := decide_eq_true c21
            clear c21
            by_cases c23 : 0 ≤ (Go.bits .and .u8 (rd l1 x21_2) 15)
            ·
             rw [if_pos c23] at H
             have c23b0 : decide (0 ≤ (Go.bits .and .u8 (rd l1 x21_2) 15)) = true := decide_eq_true c23
             clear c23
             by_cases c24 : (Go.bits .and .u8 (rd l1 x21_2) 15) < 16
             ·
              rw [if_pos c24] at H
              have c24b0 : decide ((Go.bits .and .u8 (rd l1 x21_2) 15) < 16) = true := decide_eq_true c24
              clear c24
              obtain ⟨y237,hy237⟩ : ∃ y_ : List Int,y_ = (([37,bt ⟨#[48,49,50,51,52,53,54,55,56,57,65,66,67,68,69,70]⟩ (ji19),bt ⟨#[48,49,50,51,52,53,54,55,56,57,65,66,67,68,69,70]⟩ (Go.bits .and .u8 (rd l1 x21_2) 15)] : List Int)) := ⟨_,rfl⟩
              replace H : (if x0_2.length + y237.length < 140737488355328 then (hertzconv_AppendQuotedPath.l0 k2 (x0_2 ++ y237) l1 (l1.length : Int) (wrap64 (x21_2 + 1))) else (none)) = some r := by first|(rw [hy237];with_reducible exact H)|(have H2_ := (Option.bind_some _ _).symm.trans H;rw [hy237];with_reducible exact H2_)|(have H2_ := (Option.bind_some _ _).symm.trans H;with_reducible exact H2_)|with_reducible exact H|(rw [hy237];exact H)|exact H
              have Ny237 := Aside0.mk hy237
              clear hy237
              by_cases c26 : x0_2.length + y237.length < 140737488355328
              ·
               rw [if_pos c26] at H
               have LMc26 := Aside0.mk c26
               clear c26
               obtain ⟨y240,hy240⟩ : ∃ y_ : List Int,y_ = (x0_2 ++ y237) := ⟨_,rfl⟩
               replace H : (hertzconv_AppendQuotedPath.l0 k2 y240 l1 (l1.length : Int) (wrap64 (x21_2 + 1))) = some r := by first|(rw [hy240];with_reducible exact H)|(have H2_ := (Option.bind_some _ _).symm.trans H;rw [hy240];with_reducible exact H2_)|(have H2_ := (Option.bind_some _ _).symm.trans H;with_reducible exact H2_)|with_reducible exact H|(rw [hy240];exact H)|exact H
               have Ny240 := Aside0.mk hy240
               clear hy240
               have H' := Aside0.mk H
               clear H
               have p233 : 0 ≤ (x21_2 : Int) := odt_
               have q233 : x21_2 < (l1.length : Int) := odt_
               obtain ⟨ad233,e233,hx233_0⟩ := Kd.at_int (Kd.C_kept_now HR1.out HK.out) x21_2 p233 q233
               cases e233
               replace p233 := eq_true p233
               replace q233 := eq_true q233
               try go_wp2_with (first|((with_reducible refine gate_dst (N := 27) rfl ?_);refine YtbkeakeldegkeaaX.index_tab (some 27) rfl rfl 9 _ _ rfl Try.underlying9 tab2 (by kernel_rfl) .i64 (ji12) rfl (by first|exact odt_|exact (bt_range _ _).1|omega) (odt_) ?_))
               have n0_ := Aside0.mk (Kd.R_drew HO_0.out)
               have n1_ := Aside0.mk (Kept.drew HK.out)
               have n2_ := Aside0.mk (below_drew1 HB.out)
               clear HO_0
               clear HK
               clear HB
               have HO_0 := n0_
               have HK := n1_
               have HB := n2_
               clear n0_ n1_ n2_
               have p22 : 0 ≤ ((ji19) : Int) := odt_
               have q22 : (ji19) < (16 : Int) := odt_
               have hx22 := bt_at ⟨#[48,49,50,51,52,53,54,55,56,57,65,66,67,68,69,70]⟩ (ji19)
               replace p22 := eq_true p22
               replace q22 := eq_true q22
               have p25 : 0 ≤ ((Go.bits .and .u8 (rd l1 x21_2) 15) : Int) := odt_
               have q25 : (Go.bits .and .u8 (rd l1 x21_2) 15) < (16 : Int) := odt_
               have hx25 := bt_at ⟨#[48,49,50,51,52,53,54,55,56,57,65,66,67,68,69,70]⟩ (Go.bits .and .u8 (rd l1 x21_2) 15)
               replace p25 := eq_true p25
               replace q25 := eq_true q25
               refine start_ (n := 10) (S := fun w' => True) (ds := []) #[false,false,false,false,false,false,false,false,false,false] (by kernel_rfl) rfl rfl trivial (fun hHeld => ?_);refine with_tabW hertzconv_AppendQuotedPath.tab7 hertzconv_AppendQuotedPath.bits7 (fun HT_ HW_ => ?_)
               generalize wr.drew = w27 at HO_0 HK HB hHeld ⊢
               refine pure_ (i := 0) (N := some 29) (v := ?_) (a' := ?_) #[true,false,false,false,false,false,false,false,false,false] rfl rfl (any_of HT_.out (by kernel_rfl)) (fun _ _ _ h => h) (Or.inl ⟨by rfl,?_⟩) ?_ ?_
               rotate_left
               ·
                intro w'
                go_simp
                with_reducible rfl
               rotate_left
               ·
                simp only [Act.put,List.setIfInBounds_toArray,List.set_cons_zero,List.set_cons_succ,i64_w,i32_w]
                rfl
               refine pure_ (i := 1) (N := some 30) (v := ?_) (a' := ?_) #[true,true,false,false,false,false,false,false,false,false] rfl rfl (any_of HT_.out (by kernel_rfl)) (fun _ _ _ h => h) (Or.inl ⟨by rfl,?_⟩) ?_ ?_
               rotate_left
               ·
                intro w'
                go_simp
                with_reducible rfl
               rotate_left
               ·
                simp only [Act.put,List.setIfInBounds_toArray,List.set_cons_zero,List.set_cons_succ,i64_w,i32_w]
                rfl
               refine pure_ (i := 2) (N := some 31) (v := ?_) (a' := ?_) #[true,true,true,false,false,false,false,false,false,false] rfl rfl (any_of HT_.out (by kernel_rfl)) (fun _ _ _ h => h) (Or.inl ⟨by rfl,?_⟩) ?_ ?_
               rotate_left
               ·
                intro w'
                go_simp
                with_reducible rfl
               rotate_left
               ·
                simp only [Act.put,List.setIfInBounds_toArray,List.set_cons_zero,List.set_cons_succ,i64_w,i32_w]
                rfl
               refine pure_ (i := 4) (N := some 33) (v := ?_) (a' := ?_) #[true,true,true,false,true,false,false,false,false,false] rfl rfl (any_of HT_.out (by kernel_rfl)) (fun _ _ _ h => h) (Or.inl ⟨by rfl,?_⟩) ?_ ?_
               rotate_left
               ·
                intro w'
                go_simp
                with_reducible rfl
               rotate_left
               ·
                simp only [Act.put,List.setIfInBounds_toArray,List.set_cons_zero,List.set_cons_succ,i64_w,i32_w]
                rfl
               refine pure_ (i := 5) (N := some 34) (v := ?_) (a' := ?_) #[true,true,true,false,true,true,false,false,false,false] rfl rfl (any_of HT_.out (by kernel_rfl)) (fun _ _ _ h => h) (Or.inl ⟨by rfl,?_⟩) ?_ ?_
               rotate_left
               ·
                intro w'
                go_simp
                with_reducible rfl
               rotate_left
               ·
                simp only [Act.put,List.setIfInBounds_toArray,List.set_cons_zero,List.set_cons_succ,i64_w,i32_w]
                rfl
               refine take_ (i := 3) (N := some 32) (v := ?_) (a' := ?_) #[true,true,true,true,true,true,false,false,false,false] rfl rfl (take_ofW HT_.out HW_.out (by kernel_rfl)) (fun _ _ _ h => h) (Or.inl ⟨by rfl,?_⟩) hHeld ?_ ?_
               rotate_left
               ·
                intro w' _
                go_simp
                with_reducible rfl
               rotate_left
               ·
                simp only [Act.put,List.setIfInBounds_toArray,List.set_cons_zero,List.set_cons_succ,i64_w,i32_w]
                rfl
               refine take_ (i := 6) (N := some 35) (v := ?_) (a' := ?_) #[true,true,true,true,true,true,true,false,false,false] rfl rfl (take_ofW HT_.out HW_.out (by kernel_rfl)) (fun _ _ _ h => h) (Or.inl ⟨by rfl,?_⟩) hHeld ?_ ?_
               rotate_left
               ·
                intro w' _
                go_simp
                with_reducible rfl
               rotate_left
               ·
                simp only [Act.put,List.setIfInBounds_toArray,List.set_cons_zero,List.set_cons_succ,i64_w,i32_w]
                rfl
               refine one_ (i := 7) (N := some 36) #[true,true,true,true,true,true,true,true,false,false] rfl rfl (one_of HT_.out (by kernel_rfl)) (by decide) (fun K hK => ?_)
               refine Kd.R_lit_step (Kd.int .u8) _ 5 ?hg (N := 36) ?hd (xs := ([37,bt ⟨#[48,49,50,51,52,53,54,55,56,57,65,66,67,68,69,70]⟩ (ji19),bt ⟨#[48,49,50,51,52,53,54,55,56,57,65,66,67,68,69,70]⟩ (Go.bits .and .u8 (rd l1 x21_2) 15)] : List Int)) (inner := [.int .u8 37,.int .u8 (bt ⟨#[48,49,50,51,52,53,54,55,56,57,65,66,67,68,69,70]⟩ (ji19)),.int .u8 (bt ⟨#[48,49,50,51,52,53,54,55,56,57,65,66,67,68,69,70]⟩ (Go.bits .and .u8 (rd l1 x21_2) 15))]) (ok := fun _ => True) (okp := fun _ => True) ?hr ?hp (fun _ hk => hk) trivial (Below.refl _ _) (Nat.le_refl _) (by simp) ?_;(case hd => rfl);(case hg => rfl);(case hr => first|(go_simp;done)|(go_simp;rfl));(case hp => exact (Reps.one (show Kd.M (Kd.int .u8) _ _ _ 37 [.int .u8 37] from rfl) (Reps.one (show Kd.M (Kd.int .u8) _ _ _ (bt ⟨#[48,49,50,51,52,53,54,55,56,57,65,66,67,68,69,70]⟩ (ji19)) [.int .u8 (bt ⟨#[48,49,50,51,52,53,54,55,56,57,65,66,67,68,69,70]⟩ (ji19))] from rfl) (Reps.one (show Kd.M (Kd.int .u8) _ _ _ (bt ⟨#[48,49,50,51,52,53,54,55,56,57,65,66,67,68,69,70]⟩ (Go.bits .and .u8 (rd l1 x21_2) 15)) [.int .u8 (bt ⟨#[48,49,50,51,52,53,54,55,56,57,65,66,67,68,69,70]⟩ (Go.bits .and .u8 (rd l1 x21_2) 15))] from rfl) (Reps.none _ _)))))
               intro v238 w28 ho29 hb hg_ hnew_
               clear hg_ hnew_
               (first|rw [← Ny237.out] at ho29|(simp only [Int.reduceToNat] at ho29;rw [← Ny237.out] at ho29))
               have n0_ := Aside0.mk (Kd.R_elder' (by (with_reducible repeat (first|apply Kd.R_alloc|apply Kd.R_drewN|apply Kd.R_drew));exact HO_0.out) (Kd.R_base ho29) hb)
               have n1_ := Aside0.mk (Kd.R_lower (Kd.R_new' (Kd.R_newM (M := fun k_ => (P0_ k_ ∨ w.heap.size ≤ k_)) ho29 (by first|exact HK.out.1|exact (show Kept w _ (fun k_ => P0_ k_) from by repeat (first|(with_reducible first|exact HK.out|apply Kept.alloc|apply Kept.drewN|apply Kept.drew)|exact HK.out)).1) (fun k_ h_ => .inr h_)) (Kd.R_lt (by (with_reducible repeat (first|apply Kd.R_alloc|apply Kd.R_drewN|apply Kd.R_drew));exact HO_0.out))) (below_size (bl_ HB.out)))
               have n2_ := Aside0.mk (Kept.below (S := (fun k_ => P0_ k_)) (by repeat (first|(with_reducible first|exact HK.out|apply Kept.alloc|apply Kept.drewN|apply Kept.drew)|exact HK.out)) hb)
               have n3_ := Aside0.mk (below_step (bl_ HB.out) hb)
               clear HO_0
               clear HK
               clear HB
               have HO_0 := n0_
               have HO239 := n1_
               have HK := n2_
               have HB := n3_
               clear n0_ n1_ n2_ n3_
               clear hb ho29
               obtain ⟨Ao31,co31,eo31⟩ := Kd.R_slice HO239.out
               (first|subst eo31|(injection eo31 with f1_ f2_ f3_;have f4_ := f1_.symm;have f5_ := f3_.symm;clear f1_ f2_ f3_;subst f4_;subst f5_))
               refine hK.out _ _ trivial (fun hHeld => ?_)
               clear hK K
               refine norm_ (a' := ?_) ?_ ?_
               rotate_left
               ·
                show Act.put _ (some 36) _ = _
                simp only [Act.put,List.setIfInBounds_toArray,List.set_cons_zero,List.set_cons_succ,i64_w,i32_w]
                rfl
               refine one_ (i := 8) (N := some 37) #[true,true,true,true,true,true,true,true,true,false] rfl rfl (one_of HT_.out (by kernel_rfl)) (by decide) (fun K hK => ?_)
               refine Kd.R_append_rows_step (Kd.int .u8) (w0 := w0) w0.heap.size (by rfl) (.tmp 29) (.tmp 36) 49 5 (.int .u8 0) 1 rfl Try.underlying49 info5 rfl (by decide) (by omega) u0 x0_2 y237 _ _ _ (fun k_ => (P0_ k_ ∨ w.heap.size ≤ k_) ∧ some k_ ≠ (.slice Ao31 y237.length co31 : Value).ownBlock) (fun _ => False) rfl rfl ?aO ?aR (fun _ _ h => h) (fun _ h => h.elim) ?aF ?aB ?aS ?aL ?_
               (case aR => repeat (first|exact (Kd.R_reads' HO239.out).2.2|(with_reducible refine Kd.C_alloc ?_ _)|(with_reducible refine Kd.C_drewN ?_ _)|(with_reducible refine Kd.C_drew ?_)))
               (case aB => exact (bl_ HB.out))
               (case aF => exact (fun k_ hk => ⟨(.inr (Nat.le_trans (by first|exact HK.out.1|exact (show Kept w _ (fun k_ => P0_ k_) from by repeat (first|(with_reducible first|exact HK.out|apply Kept.alloc|apply Kept.drewN|apply Kept.drew)|exact HK.out)).1) hk)),Kd.fresh' (Kd.R_lt (by (with_reducible repeat (first|apply Kd.R_alloc|apply Kd.R_drewN|apply Kd.R_drew));exact HO239.out)) k_ hk⟩))
               (case aO => exact (by (with_reducible repeat (first|apply Kd.R_alloc|apply Kd.R_drewN|apply Kd.R_drew));exact HO_0.out))
               (case aS => exact (below_size (bl_ HB.out)))
               (case aL => have := LMc26.out;omega)
               intro v241 w30 ho hb hg hat
               rw [← Ny240.out] at ho
               have n0_ := Aside0.mk (Kd.R_after (ok := (fun k_ => (P0_ k_ ∨ w.heap.size ≤ k_))) (by (with_reducible repeat (first|apply Kd.R_alloc|apply Kd.R_drewN|apply Kd.R_drew));exact Kd.R_mono HO239.out (fun _ hk => ⟨hk.1.1,hk.2⟩)) hg hat)
               have n1_ := Aside0.mk (hb)
               have n2_ := Aside0.mk (Kept.of_grown (S := (fun k_ => P0_ k_)) hg (by repeat (first|(with_reducible first|exact HK.out|apply Kept.alloc|apply Kept.drewN|apply Kept.drew)|exact HK.out)) (fun k_ e_ => (HO_0.out.1 k_ e_).1))
               have n3_ := Aside0.mk (ho)
               clear HO239
               clear HB
               clear HK
               clear HO_0
               have HO239 := n0_
               have HB := n1_
               have HK := n2_
               have HO242 := n3_
               clear n0_ n1_ n2_ n3_
               clear ho hb hg hat
               refine hK.out _ _ trivial (fun hHeld => ?_)
               clear hK K
               refine norm_ (a' := ?_) ?_ ?_
               rotate_left
               ·
                show Act.put _ (some 37) _ = _
                simp only [Act.put,List.setIfInBounds_toArray,List.set_cons_zero,List.set_cons_succ,i64_w,i32_w]
                rfl
               refine pure_ (i := 9) (N := some 0) (v := ?_) (a' := ?_) #[true,true,true,true,true,true,true,true,true,true] rfl rfl (any_of HT_.out (by kernel_rfl)) (fun _ _ _ h => h) (Or.inl ⟨by rfl,?_⟩) ?_ ?_
               rotate_left
               ·
                intro w'
                go_simp
                with_reducible rfl
               rotate_left
               ·
                simp only [Act.put,List.setIfInBounds_toArray,List.set_cons_zero,List.set_cons_succ,i64_w,i32_w]
                rfl
               refine done_ (done_of HT_.out (by kernel_rfl)) ?_
               try go_wp2
               go_roundg k2
               case measure => have := HJ2.out;have := HK2.out;omega
               case rel => exact ⟨(y240),(wrap64 (x21_2 + 1)),(rs_),H',⟨by have := HJ2.out;have := HK2.out;omega⟩,⟨by (with_reducible repeat (first|apply Kd.R_alloc|apply Kd.R_drewN|apply Kd.R_drew));exact Kd.R_mono HO242.out (fun _ hk => hk.1)⟩,⟨by repeat (first|(with_reducible first|exact HK.out|apply Kept.alloc|apply Kept.drewN|apply Kept.drew)|exact HK.out)⟩,⟨bl_ HB.out⟩⟩
              rw [if_neg c26] at H
              exact absurd H (by simp)
             rw [if_neg c24] at H
             exact absurd H (by simp)
            rw [if_neg c23] at H
            exact absurd H (by simp)
           rw [if_neg c21] at H
           exact absurd H (by simp)
          rw [if_neg c20] at H
          exact absurd H (by simp)
         rw [if_neg c14] at H
         exact absurd H (by simp)
        rw [if_neg c13] at H
        exact absurd H (by simp)
       rw [if_neg c11] at H
       exact absurd H (by simp)
      rw [if_neg c10] at H
      exact absurd H (by simp)
     rw [if_neg c9] at H
     have c9b0 : decide (x21_2 < (l1.length : Int)) = false := decide_eq_false c9
     clear c9
     obtain rfl := Option.some.inj H
     go_wp2
     go_ret
     exact ⟨_,by first|rfl|(simp [errW_none,errW_some] <;> rfl)|(simp [*,errW_none,errW_some] <;> rfl),by (with_reducible repeat (first|apply Kd.R_alloc|apply Kd.R_drewN|apply Kd.R_drew));exact HO_0.out,bl_ HB.out,by repeat (first|(with_reducible first|exact HK.out|apply Kept.alloc|apply Kept.drewN|apply Kept.drew)|exact HK.out)⟩
end Go.Proofs.Ytbkeakeldegkeaa.Q
namespace Go.Proofs.Ytbkeakeldegkeaa.Q
open Go.RowKit Go.Proofs.YtbkeakeldegkeaaW.PrintWords Go.Proofs.YtbkeakeldegkeaaW.PrintLast Go.Proofs.YtbkeakeldegkeaaW.PrintMore
attribute [local go_sem] max2_int min2_int max_two min_two max_three min_three max_four min_four
end Go.Proofs.Ytbkeakeldegkeaa.Q
end
section
namespace Go.Proofs.YtbkeakeldegkeaaX
open Go.RowKit Go.Proofs.YtbkeakeldegkeaaW.PrintWords
theorem run_idxb {P : Program} {w : World} (A : Option Addr) (c : Nat) (xs : List Int) (h : Kd.C (Kd.int .u8) w A xs.length xs) (cv : Int) :
  (Extern.BytealgIndexByte.indexByte #[.slice A xs.length c,.int .u8 cv]).run P w = .ok (.int .i64 (Lib.indexByte (Lib.bytesOf xs) cv.toNat.toUInt8)) w := by
 cases A with
 | none =>
  have hx : xs = [] := by
   cases xs with
   | nil => rfl
   | cons y t => obtain ⟨ad,e,_⟩ := Kd.at_int h 0 (Int.le_refl _) (by simp);cases e
  subst hx
  exact Lib.run_indexByteNil w _ _ _
 | some ad =>
  obtain ⟨b,off,spot⟩ := ad
  cases spot with
  | none =>
   refine Lib.run_indexByteSlice w b off xs.length c xs rfl (fun i hi => ?_) cv
   obtain ⟨ad,e,hc⟩ := Kd.at_int h (i : Int) (by omega) (by omega)
   cases e
   rw [show (⟨b,off,none⟩ : Addr).add (i : Int).toNat = ⟨b,off + i,none⟩ by unfold Addr.add;by_cases hj0 : i = 0 <;> simp [hj0]] at hc
   exact hc
  | some sp =>
   have hx : xs = [] := by
    cases xs with
    | nil => rfl
    | cons y t =>
     obtain ⟨ad,e,hc⟩ := Kd.at_int h 0 (Int.le_refl _) (by simp)
     cases e
     have : w.cell? ⟨b,off,some sp⟩ = none := by unfold World.cell?;cases w.heap[b]? with|none => rfl|some o => cases o <;> rfl
     rw [show (⟨b,off,some sp⟩ : Addr).add (0 : Int).toNat = ⟨b,off,some sp⟩ from rfl,this] at hc
     cases hc
   subst hx
   exact Lib.run_indexByteSlice (P := P) w 0 0 0 c [] rfl (fun i hi => absurd hi (by omega)) cv
end Go.Proofs.YtbkeakeldegkeaaX
end
section
namespace Go.Proofs.Ytbkeakeldegkeaa.Q
open Go.RowKit Go.Proofs.YtbkeakeldegkeaaW.PrintWords Go.Proofs.YtbkeakeldegkeaaW.PrintLast Go.Proofs.YtbkeakeldegkeaaW.PrintMore
attribute [local go_sem] max2_int min2_int max_two min_two max_three min_three max_four min_four
def hertzproto_addLeadingSlash.f (l0 : List Int) (l1 : List Int) : Option (List Int) := if (l1.length : Int) = 0 then (if l0.length < 140737488355328 then (some (l0 ++ [47])) else (none)) else (if 0 < (l1.length : Int) then (if (rd l1 0) = 47 then (some l0) else (if l0.length < 140737488355328 then (some (l0 ++ [47])) else (none))) else (none))
set_option maxHeartbeats 8000000 in
set_option maxRecDepth 100000 in
theorem hertzproto_addLeadingSlash.calls (P0_ : Nat → Prop) (u9000_ : Value) (l0 : List Int) (A1 : Option Addr) (c1 : Nat) (l1 : List Int) (r : List Int) (w0 w : World) (hB : Below w0.heap.size w0 w) (ho0 : Kd.R (Kd.int .u8) 5 w w0.heap.size P0_ u9000_ l0) (hr1 : ∀ W_,Kept w W_ (fun k_ => P0_ k_) → Kd.C (Kd.int .u8) W_ A1 l1.length l1) (hc1 : l1.length ≤ c1) (h : hertzproto_addLeadingSlash.f l0 l1 = some r) :
  Calls Try.prog 92 #[u9000_,.slice A1 l1.length c1] w fun e w' => ∃ v0_ : Value,e = .returned (v0_) ∧ Kd.R (Kd.int .u8) 5 w' w0.heap.size (fun k_ => (P0_ k_ ∨ w.heap.size ≤ k_)) v0_ r ∧ Below w0.heap.size w0 w' ∧ Kept w w' (fun k_ => P0_ k_) := by
 have HO0 := Aside0.mk (show Kd.R (Kd.int .u8) 5 w w0.heap.size (fun k_ => (P0_ k_ ∨ w.heap.size ≤ k_)) u9000_ l0 from Kd.R_mono ho0 (fun k_ hk => (.inl hk)))
 have HR1 := Aside0.mk hr1
 have HC1 := Aside0.mk hc1
 clear hr1 hc1
 have HK := Aside0.mk (Kept.refl w (fun k_ => P0_ k_))
 have HW0 := Aside0.mk hB.size
 have HB := Aside0.mk hB
 clear hB
 have H : (if (l1.length : Int) = 0 then (if l0.length < 140737488355328 then (some (l0 ++ [47])) else (none)) else (if 0 < (l1.length : Int) then (if (rd l1 0) = 47 then (some l0) else (if l0.length < 140737488355328 then (some (l0 ++ [47])) else (none))) else (none))) = some r := h
 clear h
 by_cases c3 : (l1.length : Int) = 0
 ·
  rw [if_pos c3] at H
  have c3b0 : ((l1.length : Int) == 0) = true := beq_iff_eq.mpr c3
  have c3b1 : ((l1.length : Int) != 0) = false := bne_eq_false_iff_eq.mpr c3
  clear c3
  by_cases c4 : l0.length < 140737488355328
  ·
   rw [if_pos c4] at H
   have LMc4 := Aside0.mk c4
   clear c4
   obtain ⟨y105,hy105⟩ : ∃ y_ : List Int,y_ = (l0 ++ [47]) := ⟨_,rfl⟩
   replace H : (some y105) = some r := by first|(rw [hy105];with_reducible exact H)|(have H2_ := (Option.bind_some _ _).symm.trans H;rw [hy105];with_reducible exact H2_)|(have H2_ := (Option.bind_some _ _).symm.trans H;with_reducible exact H2_)|with_reducible exact H|(rw [hy105];exact H)|exact H
   have Ny105 := Aside0.mk hy105
   clear hy105
   obtain rfl := Option.some.inj H
   go_enter Try.func92,Try.ntmps92
   go_wp2_with (first|((with_reducible refine gate_builtin (b := .append) (xs := #[.tmp 14,.tmp 15]) rfl ?_);at_builtin;refine Kd.R_append (Kd.int .u8) (w0 := w0) w0.heap.size rfl (.tmp 14) (.tmp 15) 49 5 (.int .u8 0) 1 rfl Try.underlying49 info5 rfl (by decide) (by omega) u9000_ l0 47 [.int .u8 47] (fun k_ => (P0_ k_ ∨ w.heap.size ≤ k_)) (fun _ => False) rfl rfl ?aP (fun _ hk => hk.elim) ?aF ?aO ?aB ?aS ?aL ?_;(case aP => exact rfl);(case aB => exact (bl_ HB.out));(case aF => exact (fun k_ hk => (.inr (Nat.le_trans (by first|exact HK.out.1|exact (show Kept w _ (fun k_ => P0_ k_) from by repeat (first|(with_reducible first|exact HK.out|apply Kept.alloc|apply Kept.drewN|apply Kept.drew)|exact HK.out)).1) hk))));(case aO => exact (by (with_reducible repeat (first|apply Kd.R_alloc|apply Kd.R_drewN|apply Kd.R_drew));exact HO0.out));(case aS => exact (below_size (bl_ HB.out)));(case aL => have := LMc4.out;omega);intro v106 w5 ho hb hg hat;rw [← Ny105.out] at ho;have n0_ := Aside0.mk (hb);have n1_ := Aside0.mk (Kept.of_grown (S := (fun k_ => P0_ k_)) hg (by repeat (first|(with_reducible first|exact HK.out|apply Kept.alloc|apply Kept.drewN|apply Kept.drew)|exact HK.out)) (fun k_ e_ => (HO0.out.1 k_ e_)));have n2_ := Aside0.mk (ho);clear HB;clear HK;clear HO0;have HB := n0_;have HK := n1_;have HO107 := n2_;clear n0_ n1_ n2_;clear ho hb hg hat))
   go_ret
   exact ⟨_,by first|rfl|(simp [errW_none,errW_some] <;> rfl)|(simp [*,errW_none,errW_some] <;> rfl),by (with_reducible repeat (first|apply Kd.R_alloc|apply Kd.R_drewN|apply Kd.R_drew));exact HO107.out,bl_ HB.out,by repeat (first|(with_reducible first|exact HK.out|apply Kept.alloc|apply Kept.drewN|apply Kept.drew)|exact HK.out)⟩
  rw [if_neg c4] at H
  exact absurd H (by simp)
 rw [if_neg c3] at H
 have c3b0 : ((l1.length : Int) == 0) = false := beq_eq_false_iff_ne.mpr c3
 have c3b1 : ((l1.length : Int) != 0) = true := bne_iff_ne.mpr c3
 have c3b2 : ¬ (l1 = []) := fun h_ => c3 (by rw [h_];rfl)
 by_cases c6 : 0 < (l1.length : Int)
 ·
  rw [if_pos c6] at H
  have c6b0 : decide (0 < (l1.length : Int)) = true := decide_eq_true c6
  have c6b1 : decide (0 < l1.length) = true := decide_eq_true (by omega)
  clear c6
  by_cases c7 : (rd l1 0) = 47
  ·
   rw [if_pos c7] at H
   have c7b0 : ((rd l1 0) == 47) = true := beq_iff_eq.mpr c7
   have c7b1 : ((rd l1 0) != 47) = false := bne_eq_false_iff_eq.mpr c7
   clear c7
   obtain rfl := Option.some.inj H
   have p108 : 0 ≤ (0 : Int) := (by omega)
   have q108 : 0 < (l1.length : Int) := odt_
   obtain ⟨ad108,e108,hx108_0⟩ := Kd.at_int (Kd.C_kept_now HR1.out HK.out) 0 p108 q108
   cases e108
   have qi108 : (0 < l1.length) = True := eq_true (by omega)
   (try rw [show ((0 : Int)).toNat = 0 from rfl] at hx108_0)
   (try rw [Addr.add_zero'] at hx108_0)
   replace p108 := eq_true p108
   replace q108 := eq_true q108
   go_enter Try.func92,Try.ntmps92
   go_wp2
   go_ret
   exact ⟨_,by first|rfl|(simp [errW_none,errW_some] <;> rfl)|(simp [*,errW_none,errW_some] <;> rfl),by (with_reducible repeat (first|apply Kd.R_alloc|apply Kd.R_drewN|apply Kd.R_drew));exact HO0.out,bl_ HB.out,by repeat (first|(with_reducible first|exact HK.out|apply Kept.alloc|apply Kept.drewN|apply Kept.drew)|exact HK.out)⟩
  rw [if_neg c7] at H
  have c7b0 : ((rd l1 0) == 47) = false := beq_eq_false_iff_ne.mpr c7
  have c7b1 : ((rd l1 0) != 47) = true := bne_iff_ne.mpr c7
  by_cases c8 : l0.length < 140737488355328
  ·
   rw [if_pos c8] at H
   have LMc8 := Aside0.mk c8
   clear c8
   obtain ⟨y109,hy109⟩ : ∃ y_ : List Int,y_ = (l0 ++ [47]) := ⟨_,rfl⟩
   replace H : (some y109) = some r := by first|(rw [hy109];with_reducible exact H)|(have H2_ := (Option.bind_some _ _).symm.trans H;rw [hy109];with_reducible exact H2_)|(have H2_ := (Option.bind_some _ _).symm.trans H;with_reducible exact H2_)|with_reducible exact H|(rw [hy109];exact H)|exact H
   have Ny109 := Aside0.mk hy109
   clear hy109
   obtain rfl := Option.some.inj H
   have p108 : 0 ≤ (0 : Int) := (by omega)
   have q108 : 0 < (l1.length : Int) := odt_
   obtain ⟨ad108,e108,hx108_0⟩ := Kd.at_int (Kd.C_kept_now HR1.out HK.out) 0 p108 q108
   cases e108
   have qi108 : (0 < l1.length) = True := eq_true (by omega)
   (try rw [show ((0 : Int)).toNat = 0 from rfl] at hx108_0)
   (try rw [Addr.add_zero'] at hx108_0)
   replace p108 := eq_true p108
   replace q108 := eq_true q108
   go_enter Try.func92,Try.ntmps92
   go_wp2_with (first|((with_reducible refine gate_builtin (b := .append) (xs := #[.tmp 14,.tmp 15]) rfl ?_);at_builtin;refine Kd.R_append (Kd.int .u8) (w0 := w0) w0.heap.size rfl (.tmp 14) (.tmp 15) 49 5 (.int .u8 0) 1 rfl Try.underlying49 info5 rfl (by decide) (by omega) u9000_ l0 47 [.int .u8 47] (fun k_ => (P0_ k_ ∨ w.heap.size ≤ k_)) (fun _ => False) rfl rfl ?aP (fun _ hk => hk.elim) ?aF ?aO ?aB ?aS ?aL ?_;(case aP => exact rfl);(case aB => exact (bl_ HB.out));(case aF => exact (fun k_ hk => (.inr (Nat.le_trans (by first|exact HK.out.1|exact (show Kept w _ (fun k_ => P0_ k_) from by repeat (first|(with_reducible first|exact HK.out|apply Kept.alloc|apply Kept.drewN|apply Kept.drew)|exact HK.out)).1) hk))));(case aO => exact (by (with_reducible repeat (first|apply Kd.R_alloc|apply Kd.R_drewN|apply Kd.R_drew));exact HO0.out));(case aS => exact (below_size (bl_ HB.out)));(case aL => have := LMc8.out;omega);intro v110 w9 ho hb hg hat;rw [← Ny109.out] at ho;have n0_ := Aside0.mk (hb);have n1_ := Aside0.mk (Kept.of_grown (S := (fun k_ => P0_ k_)) hg (by repeat (first|(with_reducible first|exact HK.out|apply Kept.alloc|apply Kept.drewN|apply Kept.drew)|exact HK.out)) (fun k_ e_ => (HO0.out.1 k_ e_)));have n2_ := Aside0.mk (ho);clear HB;clear HK;clear HO0;have HB := n0_;have HK := n1_;have HO111 := n2_;clear n0_ n1_ n2_;clear ho hb hg hat))
   go_ret
   exact ⟨_,by first|rfl|(simp [errW_none,errW_some] <;> rfl)|(simp [*,errW_none,errW_some] <;> rfl),by (with_reducible repeat (first|apply Kd.R_alloc|apply Kd.R_drewN|apply Kd.R_drew));exact HO111.out,bl_ HB.out,by repeat (first|(with_reducible first|exact HK.out|apply Kept.alloc|apply Kept.drewN|apply Kept.drew)|exact HK.out)⟩
  rw [if_neg c8] at H
  exact absurd H (by simp)
 rw [if_neg c6] at H
 exact absurd H (by simp)
def bytes_IndexByte.f (l0 : List Int) (a1 : Int) : Option (Int) := some (Lib.indexByte (Lib.bytesOf l0) a1.toNat.toUInt8)
set_option maxHeartbeats 8000000 in
set_option maxRecDepth 100000 in
theorem bytes_IndexByte.calls (A0 : Option Addr) (c0 : Nat) (l0 : List Int) (a1 : Int) (r : Int) (w : World) (hr0 : Kd.C (Kd.int .u8) w A0 l0.length l0) (hc0 : l0.length ≤ c0) (h : bytes_IndexByte.f l0 a1 = some r) :
  Calls Try.prog 86 #[.slice A0 l0.length c0,.int .u8 a1] w fun e w' => e = .returned (.int .i64 r) ∧ Drawn0 w w' := by
 obtain rfl := Option.some.inj h
 have HR := Aside0.mk hr0
 clear hr0 h
 go_enter Try.func86,Try.ntmps86
 go_wp2
 rw [run_callFunc_extern Try.func102 (by kernel_rfl) (by kernel_rfl) (by kernel_rfl) (e := Extern.BytealgIndexByte.indexByte) (by kernel_rfl),YtbkeakeldegkeaaX.run_idxb A0 c0 l0 HR.out a1]
 simp only [Result.andThen]
 rw [Oper.upon_value]
 go_wp2
 go_ret
 exact ⟨rfl,Drawn0.refl _⟩
end Go.Proofs.Ytbkeakeldegkeaa.Q
namespace Go.Proofs.Ytbkeakeldegkeaa.Q
open Go.RowKit Go.Proofs.YtbkeakeldegkeaaW.PrintWords Go.Proofs.YtbkeakeldegkeaaW.PrintLast Go.Proofs.YtbkeakeldegkeaaW.PrintMore
attribute [local go_sem] max2_int min2_int max_two min_two max_three min_three max_four min_four
def hertzproto_decodeArgAppendNoPlus.l0 : Nat → List Int → List Int → Int → Option (List Int)
 | 0,_,_,_ => none
 | k + 1,x0,x1,x5 => if x5 < (x1.length : Int) then (if 0 ≤ x5 then (if (rd x1 x5) = 37 then (if (wrap64 (x5 + 2)) ≥ (x1.length : Int) then (if x5 ≤ (x1.length : Int) then ((some (x1.drop (x5 : Int).toNat : List Int)).bind fun y117 => (if x0.length + y117.length < 140737488355328 then (some (x0 ++ y117)) else (none))) else (none)) else (if 0 ≤ (wrap64 (x5 + 2)) then (if (wrap64 (x5 + 2)) < (x1.length : Int) then (if 0 ≤ (rd x1 (wrap64 (x5 + 2))) then (if (rd x1 (wrap64 (x5 + 2))) < (tab1.size : Int) then (if 0 ≤ (wrap64 (x5 + 1)) then (if (wrap64 (x5 + 1)) < (x1.length : Int) then (if 0 ≤ (rd x1 (wrap64 (x5 + 1))) then (if (rd x1 (wrap64 (x5 + 1))) < (tab1.size : Int) then (if (bt tab1 (rd x1 (wrap64 (x5 + 1)))) = 16 then (if x0.length < 140737488355328 then (hertzproto_decodeArgAppendNoPlus.l0 k (x0 ++ [37]) x1 (wrap64 (x5 + 1))) else (none)) else (if (bt tab1 (rd x1 (wrap64 (x5 + 2)))) = 16 then (if x0.length < 140737488355328 then (hertzproto_decodeArgAppendNoPlus.l0 k (x0 ++ [37]) x1 (wrap64 (x5 + 1))) else (none)) else (if x0.length < 140737488355328 then (hertzproto_decodeArgAppendNoPlus.l0 k (x0 ++ [Go.bits .or .u8 (((bt tab1 (rd x1 (wrap64 (x5 + 1)))) * 16) % 256) (bt tab1 (rd x1 (wrap64 (x5 + 2))))]) x1 (wrap64 ((wrap64 (x5 + 2)) + 1))) else (none)))) else (none)) else (none)) else (none)) else (none)) else (none)) else (none)) else (none)) else (none))) else (if x0.length < 140737488355328 then (hertzproto_decodeArgAppendNoPlus.l0 k (x0 ++ [rd x1 x5]) x1 (wrap64 (x5 + 1))) else (none))) else (none)) else (some x0)
def hertzproto_decodeArgAppendNoPlus.f (k : Nat) (l0 : List Int) (l1 : List Int) : Option (List Int) := (bytes_IndexByte.f l1 37).bind fun t112 => (if t112 < 0 then (if l0.length + l1.length < 140737488355328 then (some (l0 ++ l1)) else (none)) else (hertzproto_decodeArgAppendNoPlus.l0 k l0 l1 0))
set_option maxHeartbeats 8000000 in
set_option maxRecDepth 100000 in
theorem hertzproto_decodeArgAppendNoPlus.calls (k : Nat) (P0_ : Nat → Prop) (u9000_ : Value) (l0 : List Int) (A1 : Option Addr) (c1 : Nat) (l1 : List Int) (r : List Int) (w0 w : World) (hB : Below w0.heap.size w0 w) (ho0 : Kd.R (Kd.int .u8) 5 w w0.heap.size P0_ u9000_ l0) (hr1 : ∀ W_,Kept w W_ (fun k_ => P0_ k_) → Kd.C (Kd.int .u8) W_ A1 l1.length l1) (hc1 : l1.length ≤ c1) (h : hertzproto_decodeArgAppendNoPlus.f k l0 l1 = some r) :
  Calls Try.prog 93 #[u9000_,.slice A1 l1.length c1] w fun e w' => ∃ v0_ : Value,e = .returned (v0_) ∧ Kd.R (Kd.int .u8) 5 w' w0.heap.size (fun k_ => (P0_ k_ ∨ w.heap.size ≤ k_)) v0_ r ∧ Below w0.heap.size w0 w' ∧ Kept w w' (fun k_ => P0_ k_) := by
 have HO0 := Aside0.mk (show Kd.R (Kd.int .u8) 5 w w0.heap.size (fun k_ => (P0_ k_ ∨ w.heap.size ≤ k_)) u9000_ l0 from Kd.R_mono ho0 (fun k_ hk => (.inl hk)))
 have HR1 := Aside0.mk hr1
 have HC1 := Aside0.mk hc1
 clear hr1 hc1
 have HK := Aside0.mk (Kept.refl w (fun k_ => P0_ k_))
 have HW0 := Aside0.mk hB.size
 have HB := Aside0.mk hB
 clear hB
 have H : ((bytes_IndexByte.f l1 37).bind fun t112 => (if t112 < 0 then (if l0.length + l1.length < 140737488355328 then (some (l0 ++ l1)) else (none)) else (hertzproto_decodeArgAppendNoPlus.l0 k l0 l1 0))) = some r := h
 clear h
 replace H := Option.bind_eq_some_iff.mp H
 obtain ⟨t112,A30,H⟩ := H
 replace H : (if t112 < 0 then (if l0.length + l1.length < 140737488355328 then (some (l0 ++ l1)) else (none)) else (hertzproto_decodeArgAppendNoPlus.l0 k l0 l1 0)) = some r := H
 have A3 := Aside0.mk A30
 clear A30
 by_cases c4 : t112 < 0
 ·
  rw [if_pos c4] at H
  have c4b0 : decide (t112 < 0) = true := decide_eq_true c4
  clear c4
  by_cases c5 : l0.length + l1.length < 140737488355328
  ·
   rw [if_pos c5] at H
   have LMc5 := Aside0.mk c5
   clear c5
   obtain ⟨y113,hy113⟩ : ∃ y_ : List Int,y_ = (l0 ++ l1) := ⟨_,rfl⟩
   replace H : (some y113) = some r := by first|(rw [hy113];with_reducible exact H)|(have H2_ := (Option.bind_some _ _).symm.trans H;rw [hy113];with_reducible exact H2_)|(have H2_ := (Option.bind_some _ _).symm.trans H;with_reducible exact H2_)|with_reducible exact H|(rw [hy113];exact H)|exact H
   have Ny113 := Aside0.mk hy113
   clear hy113
   obtain rfl := Option.some.inj H
   go_enter Try.func93,Try.ntmps93
   go_wp2_with (first|((with_reducible refine gate_callee (f := 86) rfl ?_);refine goesL_ (some 10) rfl rfl Try.func86 (by kernel_rfl) rfl #[.slice A1 l1.length c1,.int .u8 37] rfl (by (try simp only [List.map_toArray,List.map_cons,List.map_nil]);first|done|rfl|(simp only [List.length_drop,List.length_take];rfl)) ?_;(with_reducible refine (bytes_IndexByte.calls _ _ l1 37 t112 _ ?side1 ?side2 A3.out).mono ?_);(case side1 => exact Kd.C_kept_now HR1.out (by repeat (first|(with_reducible first|exact HK.out|apply Kept.alloc|apply Kept.drewN|apply Kept.drew)|exact HK.out)));(case side2 => exact HC1.out);rintro e w' ⟨rfl,⟨nd,rfl⟩⟩;refine ⟨_,rfl,?_⟩)|((with_reducible refine gate_builtin (b := .append) (xs := #[.tmp 12,.tmp 13]) rfl ?_);at_builtin;refine Kd.R_append_rows (Kd.int .u8) (w0 := w0) w0.heap.size rfl (.tmp 12) (.tmp 13) 49 5 (.int .u8 0) 1 rfl Try.underlying49 info5 rfl (by decide) (by omega) u9000_ l0 l1 _ _ _ (fun k_ => (P0_ k_ ∨ w.heap.size ≤ k_)) (fun _ => False) rfl rfl ?aO ?aR (fun _ _ h => h) (fun _ h => h.elim) ?aF ?aB ?aS ?aL ?_;(case aR => exact Kd.C_kept_now HR1.out (by repeat (first|(with_reducible first|exact HK.out|apply Kept.alloc|apply Kept.drewN|apply Kept.drew)|exact HK.out)));(case aB => exact (bl_ HB.out));(case aF => exact (fun k_ hk => (.inr (Nat.le_trans (by first|exact HK.out.1|exact (show Kept w _ (fun k_ => P0_ k_) from by repeat (first|(with_reducible first|exact HK.out|apply Kept.alloc|apply Kept.drewN|apply Kept.drew)|exact HK.out)).1) hk))));(case aO => exact (by (with_reducible repeat (first|apply Kd.R_alloc|apply Kd.R_drewN|apply Kd.R_drew));exact HO0.out));(case aS => exact (below_size (bl_ HB.out)));(case aL => have := LMc5.out;omega);intro v114 w6 ho hb hg hat;rw [← Ny113.out] at ho;have n0_ := Aside0.mk (hb);have n1_ := Aside0.mk (Kept.of_grown (S := (fun k_ => P0_ k_)) hg (by repeat (first|(with_reducible first|exact HK.out|apply Kept.alloc|apply Kept.drewN|apply Kept.drew)|exact HK.out)) (fun k_ e_ => (HO0.out.1 k_ e_)));have n2_ := Aside0.mk (ho);clear HB;clear HK;clear HO0;have HB := n0_;have HK := n1_;have HO115 := n2_;clear n0_ n1_ n2_;clear ho hb hg hat))
   go_ret
   exact ⟨_,by first|rfl|(simp [errW_none,errW_some] <;> rfl)|(simp [*,errW_none,errW_some] <;> rfl),by (with_reducible repeat (first|apply Kd.R_alloc|apply Kd.R_drewN|apply Kd.R_drew));exact HO115.out,bl_ HB.out,by repeat (first|(with_reducible first|exact HK.out|apply Kept.alloc|apply Kept.drewN|apply Kept.drew)|exact HK.out)⟩
  rw [if_neg c5] at H
  exact absurd H (by simp)
 rw [if_neg c4] at H
 have c4b0 : decide (t112 < 0) = false := decide_eq_false c4
 clear c4
 have H' := Aside0.mk H
 clear H
 go_enter Try.func93,Try.ntmps93
 go_wp2_with (first|((with_reducible refine gate_callee (f := 86) rfl ?_);refine goesL_ (some 10) rfl rfl Try.func86 (by kernel_rfl) rfl #[.slice A1 l1.length c1,.int .u8 37] rfl (by (try simp only [List.map_toArray,List.map_cons,List.map_nil]);first|done|rfl|(simp only [List.length_drop,List.length_take];rfl)) ?_;(with_reducible refine (bytes_IndexByte.calls _ _ l1 37 t112 _ ?side1 ?side2 A3.out).mono ?_);(case side1 => exact Kd.C_kept_now HR1.out (by repeat (first|(with_reducible first|exact HK.out|apply Kept.alloc|apply Kept.drewN|apply Kept.drew)|exact HK.out)));(case side2 => exact HC1.out);rintro e w' ⟨rfl,⟨nd,rfl⟩⟩;refine ⟨_,rfl,?_⟩))
 go_loopg [0,5] k (fun kq v0 v5 w' => ∃ (x0_1 : List Int) (x5_1 : Int),v5 = .int .i64 x5_1 ∧ Aside0 (hertzproto_decodeArgAppendNoPlus.l0 kq x0_1 l1 x5_1 = some r) ∧ Aside0 (kq ≤ k) ∧ Aside0 (Kd.R (Kd.int .u8) 5 w' w0.heap.size (fun k_ => (P0_ k_ ∨ w.heap.size ≤ k_)) v0 x0_1) ∧ Aside0 (Kept w w' (fun k_ => P0_ k_)) ∧ Aside0 (Below w0.heap.size w0 w'))
 case atStart => exact ⟨(l0),(0),(rs_),H',⟨Nat.le_refl _⟩,⟨by (with_reducible repeat (first|apply Kd.R_alloc|apply Kd.R_drewN|apply Kd.R_drew));exact HO0.out⟩,⟨by repeat (first|(with_reducible first|exact HK.out|apply Kept.alloc|apply Kept.drewN|apply Kept.drew)|exact HK.out)⟩,⟨bl_ HB.out⟩⟩
 case round =>
  clear H'
  try clear c1
  try clear p2
  try clear c4
  try clear c4b0
  try clear c5
  obtain ⟨x0_1,x5_1,rfl,HA,HK1,HO_0,HK,HB⟩ := hrel
  cases gk with
  | zero => exact absurd HA.out (by simp [hertzproto_decodeArgAppendNoPlus.l0])
  | succ k1 =>
   have H := HA.out
   clear HA
   simp only [hertzproto_decodeArgAppendNoPlus.l0] at H
   by_cases c7 : x5_1 < (l1.length : Int)
   ·
    rw [if_pos c7] at H
    have c7b0 : decide (x5_1 < (l1.length : Int)) = true := decide_eq_true c7
    clear c7
    by_cases c8 : 0 ≤ x5_1
    ·
     rw [if_pos c8] at H
     have c8b0 : decide (0 ≤ x5_1) = true := decide_eq_true c8
     clear c8
     by_cases c9 : (rd l1 x5_1) = 37
     ·
      rw [if_pos c9] at H
      have c9b0 : ((rd l1 x5_1) == 37) = true := beq_iff_eq.mpr c9
      have c9b1 : ((rd l1 x5_1) != 37) = false := bne_eq_false_iff_eq.mpr c9
      clear c9
      by_cases c10 : (wrap64 (x5_1 + 2)) ≥ (l1.length : Int)
      ·
       rw [if_pos c10] at H
       have c10b0 : decide ((l1.length : Int) ≤ (wrap64 (x5_1 + 2))) = true := decide_eq_true c10
       clear c10
       have c11b0 := eq_true (odt_ : 0 ≤ x5_1)
       by_cases c12 : x5_1 ≤ (l1.length : Int)
       ·
        rw [if_pos c12] at H
        have c12b0 := eq_true c12
        have c12b1 : decide (x5_1 ≤ (l1.length : Int)) = true := decide_eq_true c12
        clear c12
        obtain ⟨y117,hy117⟩ : ∃ y_ : List Int,y_ = (l1.drop (x5_1 : Int).toNat) := ⟨_,rfl⟩
        replace H : (if x0_1.length + y117.length < 140737488355328 then (some (x0_1 ++ y117)) else (none)) = some r := by first|(rw [hy117];with_reducible exact H)|(have H2_ := (Option.bind_some _ _).symm.trans H;rw [hy117];with_reducible exact H2_)|(have H2_ := (Option.bind_some _ _).symm.trans H;with_reducible exact H2_)|with_reducible exact H|(rw [hy117];exact H)|exact H
        have Ny117 := Aside0.mk hy117
        clear hy117
        by_cases c13 : x0_1.length + y117.length < 140737488355328
        ·
         rw [if_pos c13] at H
         have LMc13 := Aside0.mk c13
         clear c13
         obtain ⟨y121,hy121⟩ : ∃ y_ : List Int,y_ = (x0_1 ++ y117) := ⟨_,rfl⟩
         replace H : (some y121) = some r := by first|(rw [hy121];with_reducible exact H)|(have H2_ := (Option.bind_some _ _).symm.trans H;rw [hy121];with_reducible exact H2_)|(have H2_ := (Option.bind_some _ _).symm.trans H;with_reducible exact H2_)|with_reducible exact H|(rw [hy121];exact H)|exact H
         have Ny121 := Aside0.mk hy121
         clear hy121
         obtain rfl := Option.some.inj H
         have p116 : 0 ≤ (x5_1 : Int) := odt_
         have q116 : x5_1 < (l1.length : Int) := odt_
         obtain ⟨ad116,e116,hx116_0⟩ := Kd.at_int (Kd.C_kept_now HR1.out HK.out) x5_1 p116 q116
         cases e116
         replace p116 := eq_true p116
         replace q116 := eq_true q116
         have q14 : (x5_1 : Int) ≤ ((l1.length : Int) : Int) := odt_
         obtain ⟨i014,hi014,_,hsz14,_⟩ := info_parts info5
         have hroom14 : l1.length ≤ c1 := HC1.out
         have hC14 : Kd.C (Kd.int .u8) _ (some ad116) l1.length l1 := (Kd.C_kept_now HR1.out HK.out)
         have q014 : (0 : Int) ≤ (x5_1 : Int) := odt_
         have hcut14 := cut_from (P := Try.prog) 49 5 .i64 Try.underlying49 hi014 1 hsz14 (some ad116) l1.length c1 x5_1 q014 q14
         have hr14 := Kd.C_drop (m := (x5_1 : Int).toNat) (c := c1) hC14 (by omega) hroom14
         obtain ⟨A14,hA14⟩ : ∃ zq_,zq_ = (if c1 = (x5_1 : Int).toNat then (some ad116) else ((some ad116) : Option Addr).map (·.add ((x5_1 : Int).toNat * 1))) := ⟨_,rfl⟩
         obtain ⟨c14,hc14⟩ : ∃ zq_,zq_ = c1 - (x5_1 : Int).toNat := ⟨_,rfl⟩
         have hy14 : y117.length = l1.length - (x5_1 : Int).toNat := (by rw [Ny117.out,List.length_drop] <;> omega)
         rw [show (l1).drop (x5_1 : Int).toNat = y117 from Ny117.out.symm] at hr14
         replace hr14 : Kd.C (Kd.int .u8) _ A14 y117.length y117 := (by rw [hA14];exact hr14)
         rw [← hy14,← hA14,← hc14] at hcut14
         have HR120 := Aside0.mk hr14
         have HC120 := Aside0.mk (show y117.length ≤ c14 from by rw [hy14,hc14];exact Nat.sub_le_sub_right hroom14 _)
         clear hr14 hC14 hroom14 hi014 hsz14 hc14
         have KY14 := Aside0.mk hy14
         have KA14 := Aside0.mk hA14
         clear hy14 hA14
         have KL14 := Aside0.mk (show (x5_1 : Int).toNat ≤ l1.length from by omega)
         replace q14 := eq_true q14
         go_wp2_with (first|((with_reducible refine gate_builtin (b := .append) (xs := #[.tmp 32,.tmp 35]) rfl ?_);at_builtin;refine Kd.R_append_rows (Kd.int .u8) (w0 := w0) w0.heap.size rfl (.tmp 32) (.tmp 35) 49 5 (.int .u8 0) 1 rfl Try.underlying49 info5 rfl (by decide) (by omega) u0 x0_1 y117 _ _ _ (fun k_ => (P0_ k_ ∨ w.heap.size ≤ k_)) (fun _ => False) rfl rfl ?aO ?aR (fun _ _ h => h) (fun _ h => h.elim) ?aF ?aB ?aS ?aL ?_;(case aR => repeat (first|exact (by repeat (first|(with_reducible exact HR120.out)|(with_reducible refine Kd.C_alloc ?_ _)|(with_reducible refine Kd.C_drewN ?_ _)|(with_reducible refine Kd.C_drew ?_)|exact HR120.out))|(with_reducible refine Kd.C_alloc ?_ _)|(with_reducible refine Kd.C_drewN ?_ _)|(with_reducible refine Kd.C_drew ?_)));(case aB => exact (bl_ HB.out));(case aF => exact (fun k_ hk => (.inr (Nat.le_trans (by first|exact HK.out.1|exact (show Kept w _ (fun k_ => P0_ k_) from by repeat (first|(with_reducible first|exact HK.out|apply Kept.alloc|apply Kept.drewN|apply Kept.drew)|exact HK.out)).1) hk))));(case aO => exact (by (with_reducible repeat (first|apply Kd.R_alloc|apply Kd.R_drewN|apply Kd.R_drew));exact HO_0.out));(case aS => exact (below_size (bl_ HB.out)));(case aL => have := LMc13.out;omega);intro v122 w15 ho hb hg hat;rw [← Ny121.out] at ho;have n0_ := Aside0.mk (hb);have n1_ := Aside0.mk (Kept.of_grown (S := (fun k_ => P0_ k_)) hg (by repeat (first|(with_reducible first|exact HK.out|apply Kept.alloc|apply Kept.drewN|apply Kept.drew)|exact HK.out)) (fun k_ e_ => (HO_0.out.1 k_ e_)));have n2_ := Aside0.mk ((show Kd.C (Kd.int .u8) w15 A14 y117.length y117 from by rw [Ny117.out,KA14.out];exact Kd.C_drop (m := (x5_1 : Int).toNat) (c := c1) (Kd.C_kept_now HR1.out (show Kept w w15 (fun k_ => P0_ k_) from (Kept.of_grown (S := (fun k_ => P0_ k_)) hg (by repeat (first|(with_reducible first|exact HK.out|apply Kept.alloc|apply Kept.drewN|apply Kept.drew)|exact HK.out)) (fun k_ e_ => (HO_0.out.1 k_ e_))))) KL14.out HC1.out));have n3_ := Aside0.mk (ho);clear HB;clear HK;clear HR120;clear HO_0;have HB := n0_;have HK := n1_;have HR120 := n2_;have HO123 := n3_;clear n0_ n1_ n2_ n3_;clear ho hb hg hat))
         go_ret
         exact ⟨_,by first|rfl|(simp [errW_none,errW_some] <;> rfl)|(simp [*,errW_none,errW_some] <;> rfl),by (with_reducible repeat (first|apply Kd.R_alloc|apply Kd.R_drewN|apply Kd.R_drew));exact HO123.out,bl_ HB.out,by repeat (first|(with_reducible first|exact HK.out|apply Kept.alloc|apply Kept.drewN|apply Kept.drew)|exact HK.out)⟩
        rw [if_neg c13] at H
        exact absurd H (by simp)
       rw [if_neg c12] at H
       exact absurd H (by simp)
      rw [if_neg c10] at H
      have c10b0 : decide ((l1.length : Int) ≤ (wrap64 (x5_1 + 2))) = false := decide_eq_false c10
      clear c10
      obtain ⟨ji16,hji16⟩ : ∃ j_ : Int,(wrap64 (x5_1 + 2)) = j_ := ⟨_,rfl⟩
      replace H : (if 0 ≤ (ji16) then (if (ji16) < (l1.length : Int) then (if 0 ≤ (rd l1 (ji16)) then (if (rd l1 (ji16)) < (tab1.size : Int) then (if 0 ≤ (wrap64 (x5_1 + 1)) then (if (wrap64 (x5_1 + 1)) < (l1.length : Int) then (if 0 ≤ (rd l1 (wrap64 (x5_1 + 1))) then (if (rd l1 (wrap64 (x5_1 + 1))) < (tab1.size : Int) then (if (bt tab1 (rd l1 (wrap64 (x5_1 + 1)))) = 16 then (if x0_1.length < 140737488355328 then (hertzproto_decodeArgAppendNoPlus.l0 k1 (x0_1 ++ [37]) l1 (wrap64 (x5_1 + 1))) else (none)) else (if (bt tab1 (rd l1 (ji16))) = 16 then (if x0_1.length < 140737488355328 then (hertzproto_decodeArgAppendNoPlus.l0 k1 (x0_1 ++ [37]) l1 (wrap64 (x5_1 + 1))) else (none)) else (if x0_1.length < 140737488355328 then (hertzproto_decodeArgAppendNoPlus.l0 k1 (x0_1 ++ [Go.bits .or .u8 (((bt tab1 (rd l1 (wrap64 (x5_1 + 1)))) * 16) % 256) (bt tab1 (rd l1 (ji16)))]) l1 (wrap64 ((ji16) + 1))) else (none)))) else (none)) else (none)) else (none)) else (none)) else (none)) else (none)) else (none)) else (none)) = some r := by first|(rw [hji16] at H;exact H)|(simp only [hji16] at H ⊢;exact H)
      (try rw [hji16] at c10b0)
      have hji16w : (IntKind.i64.wrap (x5_1 + 2)) = ji16 := (i64_w _).trans hji16
      by_cases c17 : 0 ≤ (ji16)
      ·
       rw [if_pos c17] at H
       have c17b0 : decide (0 ≤ (ji16)) = true := decide_eq_true c17
       clear c17
       by_cases c18 : (ji16) < (l1.length : Int)
       ·
        rw [if_pos c18] at H
        have c18b0 : decide ((ji16) < (l1.length : Int)) = true := decide_eq_true c18
        clear c18
        by_cases c19 : 0 ≤ (rd l1 (ji16))
        ·
         rw [if_pos c19] at H
         have c19b0 : decide (0 ≤ (rd l1 (ji16))) = true := decide_eq_true c19
         clear c19
         by_cases c20 : (rd l1 (ji16)) < (tab1.size : Int)
         ·
          rw [if_pos c20] at H
          have c20b0 : decide ((rd l1 (ji16)) < (tab1.size : Int)) = true := decide_eq_true c20
          clear c20
          obtain ⟨ji22,hji22⟩ : ∃ j_ : Int,(wrap64 (x5_1 + 1)) = j_ := ⟨_,rfl⟩
          replace H : (if 0 ≤ (ji22) then (if (ji22) < (l1.length : Int) then (if 0 ≤ (rd l1 (ji22)) then (if (rd l1 (ji22)) < (tab1.size : Int) then (if (bt tab1 (rd l1 (ji22))) = 16 then (if x0_1.length < 140737488355328 then (hertzproto_decodeArgAppendNoPlus.l0 k1 (x0_1 ++ [37]) l1 ji22) else (none)) else (if (bt tab1 (rd l1 (ji16))) = 16 then (if x0_1.length < 140737488355328 then (hertzproto_decodeArgAppendNoPlus.l0 k1 (x0_1 ++ [37]) l1 ji22) else (none)) else (if x0_1.length < 140737488355328 then (hertzproto_decodeArgAppendNoPlus.l0 k1 (x0_1 ++ [Go.bits .or .u8 (((bt tab1 (rd l1 (ji22))) * 16) % 256) (bt tab1 (rd l1 (ji16)))]) l1 (wrap64 ((ji16) + 1))) else (none)))) else (none)) else (none)) else (none)) else (none)) = some r := by first|(rw [hji22] at H;exact H)|(simp only [hji22] at H ⊢;exact H)
          have hji22w : (IntKind.i64.wrap (x5_1 + 1)) = ji22 := (i64_w _).trans hji22
          by_cases c23 : 0 ≤ (ji22)
          ·
           rw [if_pos c23] at H
           have c23b0 : decide (0 ≤ (ji22)) = true := decide_eq_true c23
           clear c23
           by_cases c24 : (ji22) < (l1.length : Int)
           ·
            rw [if_pos c24] at H
            have c24b0 : decide ((ji22) < (l1.length : Int)) = true := decide_eq_true c24
            clear c24
            by_cases c25 : 0 ≤ (rd l1 (ji22))
            ·
             rw [if_pos c25] at H
             have c25b0 : decide (0 ≤ (rd l1 (ji22))) = true := decide_eq_true c25
             clear c25
             by_cases c26 : (rd l1 (ji22)) < (tab1.size : Int)
             ·
              rw [if_pos c26] at H
              have c26b0 : decide ((rd l1 (ji22)) < (tab1.size : Int)) = true := decide_eq_true c26
              clear c26
              by_cases c28 : (bt tab1 (rd l1 (ji22))) = 16
              ·
               rw [if_pos c28] at H
               have c28b0 : ((bt tab1 (rd l1 (ji22))) == 16) = true := beq_iff_eq.mpr c28
               have c28b1 : ((bt tab1 (rd l1 (ji22))) != 16) = false := bne_eq_false_iff_eq.mpr c28
               clear c28
               by_cases c29 : x0_1.length < 140737488355328
               ·
                rw [if_pos c29] at H
                have LMc29 := Aside0.mk c29
                clear c29
                obtain ⟨y126,hy126⟩ : ∃ y_ : List Int,y_ = (x0_1 ++ [37]) := ⟨_,rfl⟩
                replace H : (hertzproto_decodeArgAppendNoPlus.l0 k1 y126 l1 ji22) = some r := by first|(rw [hy126];with_reducible exact H)|(have H2_ := (Option.bind_some _ _).symm.trans H;rw [hy126];with_reducible exact H2_)|(have H2_ := (Option.bind_some _ _).symm.trans H;with_reducible exact H2_)|with_reducible exact H|(rw [hy126];exact H)|exact H
                have Ny126 := Aside0.mk hy126
                clear hy126
                have H' := Aside0.mk H
                clear H
                have p116 : 0 ≤ (x5_1 : Int) := odt_
                have q116 : x5_1 < (l1.length : Int) := odt_
                obtain ⟨ad116,e116,hx116_0⟩ := Kd.at_int (Kd.C_kept_now HR1.out HK.out) x5_1 p116 q116
                cases e116
                replace p116 := eq_true p116
                replace q116 := eq_true q116
                have p124 : 0 ≤ ((ji16) : Int) := odt_
                have q124 : (ji16) < (l1.length : Int) := odt_
                obtain ⟨ad124,e124,hx124_0⟩ := Kd.at_int (Kd.C_kept_now HR1.out HK.out) (ji16) p124 q124
                obtain rfl : ad116 = ad124 := (by injection e124)
                replace p124 := eq_true p124
                replace q124 := eq_true q124
                have p125 : 0 ≤ ((ji22) : Int) := odt_
                have q125 : (ji22) < (l1.length : Int) := odt_
                obtain ⟨ad125,e125,hx125_0⟩ := Kd.at_int (Kd.C_kept_now HR1.out HK.out) (ji22) p125 q125
                obtain rfl : ad116 = ad125 := (by injection e125)
                replace p125 := eq_true p125
                replace q125 := eq_true q125
                go_wp2_with (first|((with_reducible refine gate_dst (N := 42) rfl ?_);refine YtbkeakeldegkeaaX.index_tab (some 42) rfl rfl 9 _ _ rfl Try.underlying9 tab1 (by kernel_rfl) .u8 (rd l1 (ji16)) rfl (by first|exact odt_|exact (bt_range _ _).1|omega) (odt_) ?_)|((with_reducible refine gate_dst (N := 48) rfl ?_);refine YtbkeakeldegkeaaX.index_tab (some 48) rfl rfl 9 _ _ rfl Try.underlying9 tab1 (by kernel_rfl) .u8 (rd l1 (ji22)) rfl (by first|exact odt_|exact (bt_range _ _).1|omega) (odt_) ?_)|((with_reducible refine gate_builtin (b := .append) (xs := #[.tmp 55,.tmp 56]) rfl ?_);at_builtin;refine Kd.R_append (Kd.int .u8) (w0 := w0) w0.heap.size rfl (.tmp 55) (.tmp 56) 49 5 (.int .u8 0) 1 rfl Try.underlying49 info5 rfl (by decide) (by omega) u0 x0_1 37 [.int .u8 37] (fun k_ => (P0_ k_ ∨ w.heap.size ≤ k_)) (fun _ => False) rfl rfl ?aP (fun _ hk => hk.elim) ?aF ?aO ?aB ?aS ?aL ?_;(case aP => exact rfl);(case aB => exact (bl_ HB.out));(case aF => exact (fun k_ hk => (.inr (Nat.le_trans (by first|exact HK.out.1|exact (show Kept w _ (fun k_ => P0_ k_) from by repeat (first|(with_reducible first|exact HK.out|apply Kept.alloc|apply Kept.drewN|apply Kept.drew)|exact HK.out)).1) hk))));(case aO => exact (by (with_reducible repeat (first|apply Kd.R_alloc|apply Kd.R_drewN|apply Kd.R_drew));exact HO_0.out));(case aS => exact (below_size (bl_ HB.out)));(case aL => have := LMc29.out;omega);intro v127 w30 ho hb hg hat;rw [← Ny126.out] at ho;have n0_ := Aside0.mk (hb);have n1_ := Aside0.mk (Kept.of_grown (S := (fun k_ => P0_ k_)) hg (by repeat (first|(with_reducible first|exact HK.out|apply Kept.alloc|apply Kept.drewN|apply Kept.drew)|exact HK.out)) (fun k_ e_ => (HO_0.out.1 k_ e_)));have n2_ := Aside0.mk (ho);clear HB;clear HK;clear HO_0;have HB := n0_;have HK := n1_;have HO128 := n2_;clear n0_ n1_ n2_;clear ho hb hg hat))
                go_roundg k1
                case measure => have := HK1.out;omega
                case rel => exact ⟨(y126),(ji22),(by first|rfl|(simp;done)|(simp only [← hji22] <;> (first|rfl|simp))|(simp [*];done)|(simp [YtbkeakeldegkeaaX.isEmpty_ne];done)),H',⟨by have := HK1.out;omega⟩,⟨by (with_reducible repeat (first|apply Kd.R_alloc|apply Kd.R_drewN|apply Kd.R_drew));exact HO128.out⟩,⟨by repeat (first|(with_reducible first|exact HK.out|apply Kept.alloc|apply Kept.drewN|apply Kept.drew)|exact HK.out)⟩,⟨bl_ HB.out⟩⟩
               rw [if_neg c29] at H
               exact absurd H (by simp)
              rw [if_neg c28] at H
              have c28b0 : ((bt tab1 (rd l1 (ji22))) == 16) = false := beq_eq_false_iff_ne.mpr c28
              have c28b1 : ((bt tab1 (rd l1 (ji22))) != 16) = true := bne_iff_ne.mpr c28
              by_cases c31 : (bt tab1 (rd l1 (ji16))) = 16
              ·
               rw [if_pos c31] at H
               have c31b0 : ((bt tab1 (rd l1 (ji16))) == 16) = true := beq_iff_eq.mpr c31
               have c31b1 : ((bt tab1 (rd l1 (ji16))) != 16) = false := bne_eq_false_iff_eq.mpr c31
               clear c31
               by_cases c32 : x0_1.length < 140737488355328
               ·
                rw [if_pos c32] at H
                have LMc32 := Aside0.mk c32
                clear c32
                obtain ⟨y129,hy129⟩ : ∃ y_ : List Int,y_ = (x0_1 ++ [37]) := ⟨_,rfl⟩
                replace H : (hertzproto_decodeArgAppendNoPlus.l0 k1 y129 l1 ji22) = some r := by first|(rw [hy129];with_reducible exact H)|(have H2_ := (Option.bind_some _ _).symm.trans H;rw [hy129];with_reducible exact H2_)|(have H2_ := (Option.bind_some _ _).symm.trans H;with_reducible exact H2_)|with_reducible exact H|(rw [hy129];exact H)|exact H
                have Ny129 := Aside0.mk hy129
                clear hy129
                have H' := Aside0.mk H
                clear H
                have p116 : 0 ≤ (x5_1 : Int) := odt_
                have q116 : x5_1 < (l1.length : Int) := odt_
                obtain ⟨ad116,e116,hx116_0⟩ := Kd.at_int (Kd.C_kept_now HR1.out HK.out) x5_1 p116 q116
                cases e116
                replace p116 := eq_true p116
                replace q116 := eq_true q116
                have p124 : 0 ≤ ((ji16) : Int) := odt_
                have q124 : (ji16) < (l1.length : Int) := odt_
                obtain ⟨ad124,e124,hx124_0⟩ := Kd.at_int (Kd.C_kept_now HR1.out HK.out) (ji16) p124 q124
                obtain rfl : ad116 = ad124 := (by injection e124)
                replace p124 := eq_true p124
                replace q124 := eq_true q124
                have p125 : 0 ≤ ((ji22) : Int) := odt_
                have q125 : (ji22) < (l1.length : Int) := odt_
                obtain ⟨ad125,e125,hx125_0⟩ := Kd.at_int (Kd.C_kept_now HR1.out HK.out) (ji22) p125 q125
                obtain rfl : ad116 = ad125 := (by injection e125)
                replace p125 := eq_true p125
                replace q125 := eq_true q125
                go_wp2_with (first|((with_reducible refine gate_dst (N := 42) rfl ?_);refine YtbkeakeldegkeaaX.index_tab (some 42) rfl rfl 9 _ _ rfl Try.underlying9 tab1 (by kernel_rfl) .u8 (rd l1 (ji16)) rfl (by first|exact odt_|exact (bt_range _ _).1|omega) (odt_) ?_)|((with_reducible refine gate_dst (N := 48) rfl ?_);refine YtbkeakeldegkeaaX.index_tab (some 48) rfl rfl 9 _ _ rfl Try.underlying9 tab1 (by kernel_rfl) .u8 (rd l1 (ji22)) rfl (by first|exact odt_|exact (bt_range _ _).1|omega) (odt_) ?_)|((with_reducible refine gate_builtin (b := .append) (xs := #[.tmp 55,.tmp 56]) rfl ?_);at_builtin;refine Kd.R_append (Kd.int .u8) (w0 := w0) w0.heap.size rfl (.tmp 55) (.tmp 56) 49 5 (.int .u8 0) 1 rfl Try.underlying49 info5 rfl (by decide) (by omega) u0 x0_1 37 [.int .u8 37] (fun k_ => (P0_ k_ ∨ w.heap.size ≤ k_)) (fun _ => False) rfl rfl ?aP (fun _ hk => hk.elim) ?aF ?aO ?aB ?aS ?aL ?_;(case aP => exact rfl);(case aB => exact (bl_ HB.out));(case aF => exact (fun k_ hk => (.inr (Nat.le_trans (by first|exact HK.out.1|exact (show Kept w _ (fun k_ => P0_ k_) from by repeat (first|(with_reducible first|exact HK.out|apply Kept.alloc|apply Kept.drewN|apply Kept.drew)|exact HK.out)).1) hk))));(case aO => exact (by (with_reducible repeat (first|apply Kd.R_alloc|apply Kd.R_drewN|apply Kd.R_drew));exact HO_0.out));(case aS => exact (below_size (bl_ HB.out)));(case aL => have := LMc32.out;omega);intro v130 w33 ho hb hg hat;rw [← Ny129.out] at ho;have n0_ := Aside0.mk (hb);have n1_ := Aside0.mk (Kept.of_grown (S := (fun k_ => P0_ k_)) hg (by repeat (first|(with_reducible first|exact HK.out|apply Kept.alloc|apply Kept.drewN|apply Kept.drew)|exact HK.out)) (fun k_ e_ => (HO_0.out.1 k_ e_)));have n2_ := Aside0.mk (ho);clear HB;clear HK;clear HO_0;have HB := n0_;have HK := n1_;have HO131 := n2_;clear n0_ n1_ n2_;clear ho hb hg hat))
                go_roundg k1
                case measure => have := HK1.out;omega
                case rel => exact ⟨(y129),(ji22),(by first|rfl|(simp;done)|(simp only [← hji22] <;> (first|rfl|simp))|(simp [*];done)|(simp [YtbkeakeldegkeaaX.isEmpty_ne];done)),H',⟨by have := HK1.out;omega⟩,⟨by (with_reducible repeat (first|apply Kd.R_alloc|apply Kd.R_drewN|apply Kd.R_drew));exact HO131.out⟩,⟨by repeat (first|(with_reducible first|exact HK.out|apply Kept.alloc|apply Kept.drewN|apply Kept.drew)|exact HK.out)⟩,⟨bl_ HB.out⟩⟩
               rw [if_neg c32] at H
               exact absurd H (by simp)
              rw [if_neg c31] at H
              have c31b0 : ((bt tab1 (rd l1 (ji16))) == 16) = false := beq_eq_false_iff_ne.mpr c31
              have c31b1 : ((bt tab1 (rd l1 (ji16))) != 16) = true := bne_iff_ne.mpr c31
              by_cases c34 : x0_1.length < 140737488355328
              ·
               rw [if_pos c34] at H
               have LMc34 := Aside0.mk c34
               clear c34
               obtain ⟨y132,hy132⟩ : ∃ y_ : List Int,y_ = (x0_1 ++ [Go.bits .or .u8 (((bt tab1 (rd l1 (ji22))) * 16) % 256) (bt tab1 (rd l1 (ji16)))]) := ⟨_,rfl⟩
               replace H : (hertzproto_decodeArgAppendNoPlus.l0 k1 y132 l1 (wrap64 ((ji16) + 1))) = some r := by first|(rw [hy132];with_reducible exact H)|(have H2_ := (Option.bind_some _ _).symm.trans H;rw [hy132];with_reducible exact H2_)|(have H2_ := (Option.bind_some _ _).symm.trans H;with_reducible exact H2_)|with_reducible exact H|(rw [hy132];exact H)|exact H
               have Ny132 := Aside0.mk hy132
               clear hy132
               have H' := Aside0.mk H
               clear H
               have p116 : 0 ≤ (x5_1 : Int) := odt_
               have q116 : x5_1 < (l1.length : Int) := odt_
               obtain ⟨ad116,e116,hx116_0⟩ := Kd.at_int (Kd.C_kept_now HR1.out HK.out) x5_1 p116 q116
               cases e116
               replace p116 := eq_true p116
               replace q116 := eq_true q116
               have p124 : 0 ≤ ((ji16) : Int) := odt_
               have q124 : (ji16) < (l1.length : Int) := odt_
               obtain ⟨ad124,e124,hx124_0⟩ := Kd.at_int (Kd.C_kept_now HR1.out HK.out) (ji16) p124 q124
               obtain rfl : ad116 = ad124 := (by injection e124)
               replace p124 := eq_true p124
               replace q124 := eq_true q124
               have p125 : 0 ≤ ((ji22) : Int) := odt_
               have q125 : (ji22) < (l1.length : Int) := odt_
               obtain ⟨ad125,e125,hx125_0⟩ := Kd.at_int (Kd.C_kept_now HR1.out HK.out) (ji22) p125 q125
               obtain rfl : ad116 = ad125 := (by injection e125)
               replace p125 := eq_true p125
               replace q125 := eq_true q125
               go_wp2_with (first|((with_reducible refine gate_dst (N := 42) rfl ?_);refine YtbkeakeldegkeaaX.index_tab (some 42) rfl rfl 9 _ _ rfl Try.underlying9 tab1 (by kernel_rfl) .u8 (rd l1 (ji16)) rfl (by first|exact odt_|exact (bt_range _ _).1|omega) (odt_) ?_)|((with_reducible refine gate_dst (N := 48) rfl ?_);refine YtbkeakeldegkeaaX.index_tab (some 48) rfl rfl 9 _ _ rfl Try.underlying9 tab1 (by kernel_rfl) .u8 (rd l1 (ji22)) rfl (by first|exact odt_|exact (bt_range _ _).1|omega) (odt_) ?_)|((with_reducible refine gate_builtin (b := .append) (xs := #[.tmp 58,.tmp 63]) rfl ?_);at_builtin;refine Kd.R_append (Kd.int .u8) (w0 := w0) w0.heap.size rfl (.tmp 58) (.tmp 63) 49 5 (.int .u8 0) 1 rfl Try.underlying49 info5 rfl (by decide) (by omega) u0 x0_1 (Go.bits .or .u8 (((bt tab1 (rd l1 (ji22))) * 16) % 256) (bt tab1 (rd l1 (ji16)))) [.int .u8 (Go.bits .or .u8 (((bt tab1 (rd l1 (ji22))) * 16) % 256) (bt tab1 (rd l1 (ji16))))] (fun k_ => (P0_ k_ ∨ w.heap.size ≤ k_)) (fun _ => False) rfl rfl ?aP (fun _ hk => hk.elim) ?aF ?aO ?aB ?aS ?aL ?_;(case aP => exact rfl);(case aB => exact (bl_ HB.out));(case aF => exact (fun k_ hk => (.inr (Nat.le_trans (by first|exact HK.out.1|exact (show Kept w _ (fun k_ => P0_ k_) from by repeat (first|(with_reducible first|exact HK.out|apply Kept.alloc|apply Kept.drewN|apply Kept.drew)|exact HK.out)).1) hk))));(case aO => exact (by (with_reducible repeat (first|apply Kd.R_alloc|apply Kd.R_drewN|apply Kd.R_drew));exact HO_0.out));(case aS => exact (below_size (bl_ HB.out)));(case aL => have := LMc34.out;omega);intro v133 w35 ho hb hg hat;rw [← Ny132.out] at ho;have n0_ := Aside0.mk (hb);have n1_ := Aside0.mk (Kept.of_grown (S := (fun k_ => P0_ k_)) hg (by repeat (first|(with_reducible first|exact HK.out|apply Kept.alloc|apply Kept.drewN|apply Kept.drew)|exact HK.out)) (fun k_ e_ => (HO_0.out.1 k_ e_)));have n2_ := Aside0.mk (ho);clear HB;clear HK;clear HO_0;have HB := n0_;have HK := n1_;have HO134 := n2_;clear n0_ n1_ n2_;clear ho hb hg hat))
               go_roundg k1
               case measure => have := HK1.out;omega
               case rel => exact ⟨(y132),(wrap64 ((ji16) + 1)),(by first|rfl|(simp;done)|(simp only [← hji16] <;> (first|rfl|simp))|(simp [*];done)|(simp [YtbkeakeldegkeaaX.isEmpty_ne];done)),H',⟨by have := HK1.out;omega⟩,⟨by (with_reducible repeat (first|apply Kd.R_alloc|apply Kd.R_drewN|apply Kd.R_drew));exact HO134.out⟩,⟨by repeat (first|(with_reducible first|exact HK.out|apply Kept.alloc|apply Kept.drewN|apply Kept.drew)|exact HK.out)⟩,⟨bl_ HB.out⟩⟩
              rw [if_neg c34] at H
              exact absurd H (by simp)
             rw [if_neg c26] at H
             exact absurd H (by simp)
            rw [if_neg c25] at H
            exact absurd H (by simp)
           rw [if_neg c24] at H
           exact absurd H (by simp)
          rw [if_neg c23] at H
          exact absurd H (by simp)
         rw [if_neg c20] at H
         exact absurd H (by simp)
        rw [if_neg c19] at H
        exact absurd H (by simp)
       rw [if_neg c18] at H
       exact absurd H (by simp)
      rw [if_neg c17] at H
      exact absurd H (by simp)
     rw [if_neg c9] at H
     have c9b0 : ((rd l1 x5_1) == 37) = false := beq_eq_false_iff_ne.mpr c9
     have c9b1 : ((rd l1 x5_1) != 37) = true := bne_iff_ne.mpr c9
     by_cases c36 : x0_1.length < 140737488355328
     ·
      rw [if_pos c36] at H
      have LMc36 := Aside0.mk c36
      clear c36
      obtain ⟨y135,hy135⟩ : ∃ y_ : List Int,y_ = (x0_1 ++ [rd l1 x5_1]) := ⟨_,rfl⟩
      replace H : (hertzproto_decodeArgAppendNoPlus.l0 k1 y135 l1 (wrap64 (x5_1 + 1))) = some r := by first|(rw [hy135];with_reducible exact H)|(have H2_ := (Option.bind_some _ _).symm.trans H;rw [hy135];with_reducible exact H2_)|(have H2_ := (Option.bind_some _ _).symm.trans H;with_reducible exact H2_)|with_reducible exact H|(rw [hy135];exact H)|exact H
      have Ny135 := Aside0.mk hy135
      clear hy135
      have H' := Aside0.mk H
      clear H
      have p116 : 0 ≤ (x5_1 : Int) := odt_
      have q116 : x5_1 < (l1.length : Int) := odt_
      obtain ⟨ad116,e116,hx116_0⟩ := Kd.at_int (Kd.C_kept_now HR1.out HK.out) x5_1 p116 q116
      cases e116
      replace p116 := eq_true p116
      replace q116 := eq_true q116
      go_wp2_with (first|((with_reducible refine gate_builtin (b := .append) (xs := #[.tmp 67,.tmp 69]) rfl ?_);at_builtin;refine Kd.R_append (Kd.int .u8) (w0 := w0) w0.heap.size rfl (.tmp 67) (.tmp 69) 49 5 (.int .u8 0) 1 rfl Try.underlying49 info5 rfl (by decide) (by omega) u0 x0_1 (rd l1 x5_1) [.int .u8 (rd l1 x5_1)] (fun k_ => (P0_ k_ ∨ w.heap.size ≤ k_)) (fun _ => False) rfl rfl ?aP (fun _ hk => hk.elim) ?aF ?aO ?aB ?aS ?aL ?_;(case aP => exact rfl);(case aB => exact (bl_ HB.out));(case aF => exact (fun k_ hk => (.inr (Nat.le_trans (by first|exact HK.out.1|exact (show Kept w _ (fun k_ => P0_ k_) from by repeat (first|(with_reducible first|exact HK.out|apply Kept.alloc|apply Kept.drewN|apply Kept.drew)|exact HK.out)).1) hk))));(case aO => exact (by (with_reducible repeat (first|apply Kd.R_alloc|apply Kd.R_drewN|apply Kd.R_drew));exact HO_0.out));(case aS => exact (below_size (bl_ HB.out)));(case aL => have := LMc36.out;omega);intro v136 w37 ho hb hg hat;rw [← Ny135.out] at ho;have n0_ := Aside0.mk (hb);have n1_ := Aside0.mk (Kept.of_grown (S := (fun k_ => P0_ k_)) hg (by repeat (first|(with_reducible first|exact HK.out|apply Kept.alloc|apply Kept.drewN|apply Kept.drew)|exact HK.out)) (fun k_ e_ => (HO_0.out.1 k_ e_)));have n2_ := Aside0.mk (ho);clear HB;clear HK;clear HO_0;have HB := n0_;have HK := n1_;have HO137 := n2_;clear n0_ n1_ n2_;clear ho hb hg hat))
      go_roundg k1
      case measure => have := HK1.out;omega
      case rel => exact ⟨(y135),(wrap64 (x5_1 + 1)),(rs_),H',⟨by have := HK1.out;omega⟩,⟨by (with_reducible repeat (first|apply Kd.R_alloc|apply Kd.R_drewN|apply Kd.R_drew));exact HO137.out⟩,⟨by repeat (first|(with_reducible first|exact HK.out|apply Kept.alloc|apply Kept.drewN|apply Kept.drew)|exact HK.out)⟩,⟨bl_ HB.out⟩⟩
     rw [if_neg c36] at H
     exact absurd H (by simp)
    rw [if_neg c8] at H
    exact absurd H (by simp)
   rw [if_neg c7] at H
   have c7b0 : decide (x5_1 < (l1.length : Int)) = false := decide_eq_false c7
   clear c7
   obtain rfl := Option.some.inj H
   go_wp2
   go_ret
   exact ⟨_,by first|rfl|(simp [errW_none,errW_some] <;> rfl)|(simp [*,errW_none,errW_some] <;> rfl),by (with_reducible repeat (first|apply Kd.R_alloc|apply Kd.R_drewN|apply Kd.R_drew));exact HO_0.out,bl_ HB.out,by repeat (first|(with_reducible first|exact HK.out|apply Kept.alloc|apply Kept.drewN|apply Kept.drew)|exact HK.out)⟩
end Go.Proofs.Ytbkeakeldegkeaa.Q
end
section
namespace Go.Proofs.Ytbkeakeldegkeaa.SpA
open Go.RowKit Go.Proofs.Ytbkeakeldegkeaa.Q Go.Proofs.YtbkeakeldegkeaaW.PrintWords Go.Proofs.YtbkeakeldegkeaaW.PrintLast Go.Proofs.YtbkeakeldegkeaaKit
def ix (sub : List UInt8) : List UInt8 → Nat → Int
 | [],n => if sub = [] then n else -1
 | c :: t,n => if sub.isPrefixOf (c :: t) = true then n else ix sub t (n + 1)
theorem ix_short (sub : List UInt8) : ∀ (l : List UInt8) (n : Nat),l.length < sub.length → ix sub l n = -1
 | [],n,h => by rw [ix,if_neg (by intro e;rw [e] at h;simp at h)]
 | c :: t,n,h => by
  rw [ix,if_neg,ix_short sub t (n + 1) (by simp at h;omega)]
  intro e
  have := (List.isPrefixOf_iff_prefix.1 e).length_le
  omega
theorem toI_take (l : List UInt8) (n : Nat) : (toI l).take n = toI (l.take n) := by simp [toI,List.map_take]
theorem toI_drop (l : List UInt8) (n : Nat) : (toI l).drop n = toI (l.drop n) := by simp [toI,List.map_drop]
theorem zz_l (l sub : List UInt8) (hs : sub ≠ []) (hl : l.length ≤ 4611686018427387904) (hm : sub.length ≤ 4611686018427387) : ∀ (suf pre : List UInt8),l = pre ++ suf →
  Ev (fun k => hertzproto_zzIndex.l0 k (toI l) (toI sub) pre.length) (ix sub suf pre.length) := by
 have hp : 0 < sub.length := List.length_pos_iff.2 hs
 intro suf
 induction suf with
 | nil =>
  intro pre h
  have hlp : pre.length = l.length := by rw [h];simp
  rw [ix_short sub [] _ (by simpa using hp)]
  refine Ev.step (f := fun _ => some (-1)) (fun k => ?_) (Ev.now _)
  simp only [hertzproto_zzIndex.l0,toI_length]
  rw [wrap_id (by omega) (by omega),if_neg (by omega)]
 | cons c t ih =>
  intro pre h
  have hlp : l.length = pre.length + (t.length + 1) := by rw [h];simp
  by_cases hc : pre.length + sub.length ≤ l.length
  ·
   have hcut : strOfNums (((toI l).take (pre.length + sub.length)).drop pre.length) = strOfNums (toI ((c :: t).take sub.length)) := by
    rw [toI_take,toI_drop,h,List.take_append,List.drop_append]
    simp
    rw [List.drop_of_length_le (by simp)]
    simp
   by_cases hq : sub.isPrefixOf (c :: t) = true
   ·
    have he : (c :: t).take sub.length = sub := (List.prefix_iff_eq_take.1 (List.isPrefixOf_iff_prefix.1 hq)).symm
    rw [ix,if_pos hq]
    refine Ev.step (f := fun _ => some (pre.length : Int)) (fun k => ?_) (Ev.now _)
    simp only [hertzproto_zzIndex.l0,toI_length]
    rw [wrap_id (by omega) (by omega),if_pos (by omega),if_pos (by omega),if_pos (by omega)]
    rw [show ((pre.length : Int) + (sub.length : Int)).toNat = pre.length + sub.length by omega,show (pre.length : Int).toNat = pre.length by omega,hcut,he,if_pos rfl]
   have he : ¬ (c :: t).take sub.length = sub := fun e => hq (List.isPrefixOf_iff_prefix.2 (List.prefix_iff_eq_take.2 e.symm))
   rw [ix,if_neg hq]
   have ih' := ih (pre ++ [c]) (by rw [h];simp)
   rw [show (pre ++ [c]).length = pre.length + 1 by simp] at ih'
   refine Ev.step (fun k => ?_) ih'
   simp only [hertzproto_zzIndex.l0,toI_length]
   rw [wrap_id (by omega) (by omega),if_pos (by omega),if_pos (by omega),if_pos (by omega)]
   rw [show ((pre.length : Int) + (sub.length : Int)).toNat = pre.length + sub.length by omega,show (pre.length : Int).toNat = pre.length by omega,hcut]
   rw [if_neg,wrap_id (by omega) (by omega)]
   ·
    rfl
   rw [tl,tl,L_strOf,L_strOf]
   exact he
  rw [ix_short sub (c :: t) _ (by simp;omega)]
  refine Ev.step (f := fun _ => some (-1)) (fun k => ?_) (Ev.now _)
  simp only [hertzproto_zzIndex.l0,toI_length]
  rw [wrap_id (by omega) (by omega),if_neg (by omega)]
theorem zzIndex (l sub : List UInt8) (hs : sub ≠ []) (hl : l.length ≤ 4611686018427387904) (hm : sub.length ≤ 4611686018427387) : Ev (fun k => hertzproto_zzIndex.f k (toI l) (toI sub)) (ix sub l 0) := zz_l l sub hs hl hm l [] rfl
def lastB (l : List UInt8) (c : UInt8) : Nat → Int
 | 0 => -1
 | n + 1 => if l.getD n 0 = c then n else lastB l c n
end Go.Proofs.Ytbkeakeldegkeaa.SpA
end
