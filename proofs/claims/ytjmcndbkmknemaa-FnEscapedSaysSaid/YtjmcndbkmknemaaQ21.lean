-- Written by a program of this session out of the translation, with the kit's printer. Not trusted: Lean checks it.
import Derived.Test.YtjmcndbkmknemaaQ0
namespace Go.Proofs.Ytjmcndbkmknemaa.Q
open Go.RowKit Go.Proofs.YtjmcndbkmknemaaW.PrintWords Go.Proofs.YtjmcndbkmknemaaW.PrintLast Go.Proofs.YtjmcndbkmknemaaW.PrintMore
attribute [local go_sem] max2_int min2_int max_two min_two max_three min_three max_four min_four   -- for this text's walks alone
set_option linter.unusedVariables false
set_option linter.unusedSimpArgs false

/-! ### hertzconv_AppendQuotedPath: function 55 -/
mutual
def hertzconv_AppendQuotedPath.j0 : Nat → List Int → List Int → Bool → Option (List Int)
  | 0, _, _, _ => none
  | k + 1, x0, x1, x15 => if x15 = true then (if x0.length < 140737488355328 then (some (x0 ++ [42])) else (none)) else (hertzconv_AppendQuotedPath.l0 k x0 x1 (x1.length : Int) 0)
def hertzconv_AppendQuotedPath.l0 : Nat → List Int → List Int → Int → Int → Option (List Int)
  | 0, _, _, _, _ => none
  | k + 1, x0, x19, x20, x21 => if x21 < x20 then (if 0 ≤ x21 then (if x21 < (x19.length : Int) then (if 0 ≤ (wrap64 (rd x19 x21)) then (if (wrap64 (rd x19 x21)) < (tab2.size : Int) then (if (bt tab2 (wrap64 (rd x19 x21))) = 0 then (if x0.length < 140737488355328 then (hertzconv_AppendQuotedPath.l0 k (x0 ++ [rd x19 x21]) x19 x20 (wrap64 (x21 + 1))) else (none)) else (if 0 ≤ ((rd x19 x21) / 16) then (if ((rd x19 x21) / 16) < 16 then (if 0 ≤ (Go.bits .and .u8 (rd x19 x21) 15) then (if (Go.bits .and .u8 (rd x19 x21) 15) < 16 then ((some (([37, bt (⟨#[48, 49, 50, 51, 52, 53, 54, 55, 56, 57, 65, 66, 67, 68, 69, 70]⟩ : ByteArray) ((rd x19 x21) / 16), bt (⟨#[48, 49, 50, 51, 52, 53, 54, 55, 56, 57, 65, 66, 67, 68, 69, 70]⟩ : ByteArray) (Go.bits .and .u8 (rd x19 x21) 15)] : List Int) : List Int)).bind fun y224 => (if x0.length + y224.length < 140737488355328 then (hertzconv_AppendQuotedPath.l0 k (x0 ++ y224) x19 x20 (wrap64 (x21 + 1))) else (none))) else (none)) else (none)) else (none)) else (none))) else (none)) else (none)) else (none)) else (none)) else (some x0)
end
def hertzconv_AppendQuotedPath.f (k : Nat) (l0 : List Int) (l1 : List Int) : Option (List Int) := if (l1.length : Int) = 1 then (if 0 < (l1.length : Int) then (hertzconv_AppendQuotedPath.j0 k l0 l1 ((rd l1 0) == 42)) else (none)) else (hertzconv_AppendQuotedPath.j0 k l0 l1 false)
theorem hertzconv_AppendQuotedPath.mono_l : ∀ k, (∀ y0 y1 y2, LeO (hertzconv_AppendQuotedPath.j0 k y0 y1 y2) (hertzconv_AppendQuotedPath.j0 (k + 1) y0 y1 y2)) ∧ (∀ y0 y1 y2 y3, LeO (hertzconv_AppendQuotedPath.l0 k y0 y1 y2 y3) (hertzconv_AppendQuotedPath.l0 (k + 1) y0 y1 y2 y3))
  | 0 => ⟨fun _ _ _ r h => by simp [hertzconv_AppendQuotedPath.j0] at h, fun _ _ _ _ r h => by simp [hertzconv_AppendQuotedPath.l0] at h⟩
  | k + 1 => by
    obtain ⟨ih0, ih1⟩ := hertzconv_AppendQuotedPath.mono_l k
    refine ⟨?_, ?_⟩
    · intro y0 y1 y2
      unfold hertzconv_AppendQuotedPath.j0
      repeat' first
      | (with_reducible exact ih0 _ _ _)
      | (with_reducible exact ih1 _ _ _ _)
      | (with_reducible exact LeO.refl _)
      | (with_reducible exact LeO.none _)
      | (with_reducible refine LeO.ite ?_ ?_)
      | (with_reducible refine LeO.bind ?_ (fun _ => ?_))
      | exact ih0 _ _ _
      | exact ih1 _ _ _ _
      | exact LeO.none _
      | refine LeO.ite ?_ ?_
      | refine LeO.bind ?_ (fun _ => ?_)
    · intro y0 y1 y2 y3
      unfold hertzconv_AppendQuotedPath.l0
      repeat' first
      | (with_reducible exact ih0 _ _ _)
      | (with_reducible exact ih1 _ _ _ _)
      | (with_reducible exact LeO.refl _)
      | (with_reducible exact LeO.none _)
      | (with_reducible refine LeO.ite ?_ ?_)
      | (with_reducible refine LeO.bind ?_ (fun _ => ?_))
      | exact ih0 _ _ _
      | exact ih1 _ _ _ _
      | exact LeO.none _
      | refine LeO.ite ?_ ?_
      | refine LeO.bind ?_ (fun _ => ?_)
theorem hertzconv_AppendQuotedPath.mono : ∀ a0 a1 k, LeO (hertzconv_AppendQuotedPath.f k a0 a1) (hertzconv_AppendQuotedPath.f (k + 1) a0 a1) := by
  intro a0 a1 k
  obtain ⟨ih0, ih1⟩ := hertzconv_AppendQuotedPath.mono_l k
  unfold hertzconv_AppendQuotedPath.f
  repeat' first
      | (with_reducible exact ih0 _ _ _)
      | (with_reducible exact ih1 _ _ _ _)
      | (with_reducible exact LeO.refl _)
      | (with_reducible exact LeO.none _)
      | (with_reducible refine LeO.ite ?_ ?_)
      | (with_reducible refine LeO.bind ?_ (fun _ => ?_))
      | exact ih0 _ _ _
      | exact ih1 _ _ _ _
      | exact LeO.none _
      | refine LeO.ite ?_ ?_
      | refine LeO.bind ?_ (fun _ => ?_)
def hertzconv_AppendQuotedPath.T7 : Bool × List (List Nat × List Nat) := (true, [([], []), ([], []), ([1], [1]), ([2], [2]), ([], []), ([4], [4]), ([5], [5]), ([3, 6], [3, 6]), ([0, 7], [0, 7]), ([8, 8, 0, 1, 2, 3, 4, 5, 6, 7, 8], [0, 8])])
def hertzconv_AppendQuotedPath.B7 : List Nat := [0, 0, 2, 6, 0, 16, 48, 126, 255, 511]
theorem hertzconv_AppendQuotedPath.tab7 : rtab .any (opsOf Try.f55 7) = hertzconv_AppendQuotedPath.T7 := by kernel_rfl
theorem hertzconv_AppendQuotedPath.bits7 : waitsOk hertzconv_AppendQuotedPath.T7.2 hertzconv_AppendQuotedPath.B7 = true := by kernel_rfl
set_option maxHeartbeats 8000000 in
set_option maxRecDepth 100000 in
theorem hertzconv_AppendQuotedPath.calls (k : Nat) (P0_ : Nat → Prop) (u9000_ : Value) (l0 : List Int) (A1 : Option Addr) (c1 : Nat) (l1 : List Int) (r : List Int) (w0 w : World) (hB : Below w0.heap.size w0 w) (ho0 : Kd.R (Kd.int .u8) 5 w w0.heap.size P0_ u9000_ l0) (hr1 : ∀ W_, Kept w W_ (fun k_ => P0_ k_) → Kd.C (Kd.int .u8) W_ A1 l1.length l1) (hc1 : l1.length ≤ c1) (h : hertzconv_AppendQuotedPath.f k l0 l1 = some r) :
    Calls Try.prog 55 #[u9000_, .slice A1 l1.length c1] w fun e w' => ∃ v0_ : Value, e = .returned (v0_) ∧ Kd.R (Kd.int .u8) 5 w' w0.heap.size (fun k_ => (P0_ k_ ∨ w.heap.size ≤ k_)) v0_ r ∧ Below w0.heap.size w0 w' ∧ Kept w w' (fun k_ => P0_ k_) := by
  have HO0 := Aside0.mk (show Kd.R (Kd.int .u8) 5 w w0.heap.size (fun k_ => (P0_ k_ ∨ w.heap.size ≤ k_)) u9000_ l0 from Kd.R_mono ho0 (fun k_ hk => (.inl hk)))
  have HR1 := Aside0.mk hr1
  have HC1 := Aside0.mk hc1
  clear hr1 hc1
  have HK := Aside0.mk (Kept.refl w (fun k_ => P0_ k_))
  have HW0 := Aside0.mk hB.size
  have HB := Aside0.mk hB
  clear hB
  have H : (if (l1.length : Int) = 1 then (if 0 < (l1.length : Int) then (hertzconv_AppendQuotedPath.j0 k l0 l1 ((rd l1 0) == 42)) else (none)) else (hertzconv_AppendQuotedPath.j0 k l0 l1 false)) = some r := h
  clear h
  have HC3 := Aside0.mk H
  clear H
  go_enter Try.func55, Try.ntmps55
  go_upto_region 1 with (fail)
  go_cut [15] (fun v15 wc => ∃ (kq : Nat) (x15_2 : Bool), v15 = .bool x15_2 ∧ Aside0 (hertzconv_AppendQuotedPath.j0 kq l0 l1 x15_2 = some r) ∧ Aside0 (kq ≤ k) ∧ Aside0 (Kd.R (Kd.int .u8) 5 wc w0.heap.size (fun k_ => (P0_ k_ ∨ w.heap.size ≤ k_)) u9000_ l0) ∧ Aside0 (Kept w wc (fun k_ => P0_ k_)) ∧ Aside0 (Below w0.heap.size w0 wc))
  case first =>
    have H := HC3.out
    clear HC3
    by_cases c4 : (l1.length : Int) = 1
    · rw [if_pos c4] at H
      have c4b0 : ((l1.length : Int) == 1) = true := beq_iff_eq.mpr c4
      have c4b1 : ((l1.length : Int) != 1) = false := bne_eq_false_iff_eq.mpr c4
      clear c4
      (first | rw [c4b0] | (simp only [i64_w, i32_w]; rw [c4b0]) | skip)
      by_cases c5 : 0 < (l1.length : Int)
      · rw [if_pos c5] at H
        have c5b0 : decide (0 < (l1.length : Int)) = true := decide_eq_true c5
        have c5b1 : decide (0 < l1.length) = true := decide_eq_true (by omega)
        clear c5
        have H' := Aside0.mk H
        clear H
        have p216 : 0 ≤ (0 : Int) := (by omega)
        have q216 : 0 < (l1.length : Int) := of_decide_eq_true (by first | (with_reducible assumption) | assumption)
        obtain ⟨ad216, e216, hx216_0⟩ := Kd.at_int (Kd.C_kept_now HR1.out HK.out) 0 p216 q216
        cases e216
        have qi216 : (0 < l1.length) = True := eq_true (by omega)
        (try rw [show ((0 : Int)).toNat = 0 from rfl] at hx216_0)
        (try rw [Addr.add_zero'] at hx216_0)
        replace p216 := eq_true p216
        replace q216 := eq_true q216
        go_wp2
        go_meet
        case rel => exact ⟨_, (((rd l1 0) == 42)), (by first | rfl | (simp; done) | (simp [*]; done) | (simp [Go.Proofs.YtjmcndbkmknemaaX.isEmpty_ne]; done)), H', ⟨by first | omega | exact Nat.le_refl _⟩, ⟨by (with_reducible repeat (first | apply Kd.R_alloc | apply Kd.R_drewN | apply Kd.R_drew)); exact HO0.out⟩, ⟨by repeat (first | (with_reducible first | exact HK.out | apply Kept.alloc | apply Kept.drewN | apply Kept.drew) | exact HK.out)⟩, ⟨by repeat (first | (with_reducible first | exact HB.out | apply below_alloc | apply pw_below_drewN | apply below_drew1) | exact HB.out)⟩⟩
      · rw [if_neg c5] at H
        exact absurd H (by simp)
    · rw [if_neg c4] at H
      have c4b0 : ((l1.length : Int) == 1) = false := beq_eq_false_iff_ne.mpr c4
      have c4b1 : ((l1.length : Int) != 1) = true := bne_iff_ne.mpr c4
      (first | rw [c4b0] | (simp only [i64_w, i32_w]; rw [c4b0]) | skip)
      have H' := Aside0.mk H
      clear H
      go_wp2
      go_meet
      case rel => exact ⟨_, (false), (by first | rfl | (simp; done) | (simp [*]; done) | (simp [Go.Proofs.YtjmcndbkmknemaaX.isEmpty_ne]; done)), H', ⟨by first | omega | exact Nat.le_refl _⟩, ⟨by (with_reducible repeat (first | apply Kd.R_alloc | apply Kd.R_drewN | apply Kd.R_drew)); exact HO0.out⟩, ⟨by repeat (first | (with_reducible first | exact HK.out | apply Kept.alloc | apply Kept.drewN | apply Kept.drew) | exact HK.out)⟩, ⟨by repeat (first | (with_reducible first | exact HB.out | apply below_alloc | apply pw_below_drewN | apply below_drew1) | exact HB.out)⟩⟩
  case rest =>
    clear HC3
    try clear c1
    try clear p2
    try clear q2
    try clear hx2
    try clear qi2
    try clear c4
    try clear c4b0
    try clear c4b1
    try clear c5
    try clear c5b0
    try clear c5b1
    try clear hx216_0
    try clear p216
    try clear q216
    obtain ⟨kq, x15_2, rfl, HA, HJ2, HO_0, HK, HB⟩ := hcut
    cases kq with
    | zero => exact absurd HA.out (by simp [hertzconv_AppendQuotedPath.j0])
    | succ kj2 =>
      have H := HA.out
      clear HA
      simp only [hertzconv_AppendQuotedPath.j0] at H
      by_cases c6 : x15_2 = true
      · subst c6
        have H1 : (if l0.length < 140737488355328 then (some (l0 ++ [42])) else (none)) = some r := by rw [if_pos rfl] at H; exact H
        clear H
        have H := H1
        clear H1
        by_cases c7 : l0.length < 140737488355328
        · rw [if_pos c7] at H
          have LMc7 := Aside0.mk c7
          clear c7
          obtain ⟨y217, hy217⟩ : ∃ y_ : List Int, y_ = (l0 ++ [42]) := ⟨_, rfl⟩
          replace H : (some y217) = some r := by first | (rw [hy217]; with_reducible exact H) | (have H2_ := (Option.bind_some _ _).symm.trans H; rw [hy217]; with_reducible exact H2_) | (have H2_ := (Option.bind_some _ _).symm.trans H; with_reducible exact H2_) | with_reducible exact H | (rw [hy217]; exact H) | exact H
          have Ny217 := Aside0.mk hy217
          clear hy217
          obtain rfl := Option.some.inj H
          go_wp2_with (first | ((with_reducible refine gate_builtin (b := .append) (xs := #[.tmp 16, .tmp 17]) rfl ?_); at_builtin; refine Kd.R_append (Kd.int .u8) (w0 := w0) w0.heap.size rfl (.tmp 16) (.tmp 17) 67 5 (.int .u8 0) 1 rfl Try.underlying67 info5 rfl (by decide) (by omega) u9000_ l0 42 [.int .u8 42] (fun k_ => (P0_ k_ ∨ w.heap.size ≤ k_)) (fun _ => False) rfl rfl ?aP (fun _ hk => hk.elim) ?aF ?aO ?aB ?aS ?aL ?_; (case aP => exact rfl); (case aB => exact (by repeat (first | (with_reducible first | exact HB.out | apply below_alloc | apply pw_below_drewN | apply below_drew1) | exact HB.out))); (case aF => exact (fun k_ hk => (.inr (Nat.le_trans (by first | exact HK.out.1 | exact (show Kept w _ (fun k_ => P0_ k_) from by repeat (first | (with_reducible first | exact HK.out | apply Kept.alloc | apply Kept.drewN | apply Kept.drew) | exact HK.out)).1) hk)))); (case aO => exact (by (with_reducible repeat (first | apply Kd.R_alloc | apply Kd.R_drewN | apply Kd.R_drew)); exact HO_0.out)); (case aS => exact (below_size (by repeat (first | (with_reducible first | exact HB.out | apply below_alloc | apply pw_below_drewN | apply below_drew1) | exact HB.out)))); (case aL => have := LMc7.out; omega); intro v218 w8 ho hb hg hat; rw [← Ny217.out] at ho; have n0_ := Aside0.mk (hb); have n1_ := Aside0.mk (Kept.of_grown (S := (fun k_ => P0_ k_)) hg (by repeat (first | (with_reducible first | exact HK.out | apply Kept.alloc | apply Kept.drewN | apply Kept.drew) | exact HK.out)) (fun k_ e_ => (HO_0.out.1 k_ e_))); have n2_ := Aside0.mk (ho); clear HB; clear HK; clear HO_0; have HB := n0_; have HK := n1_; have HO219 := n2_; clear n0_ n1_ n2_; clear ho hb hg hat))
          go_ret
          exact ⟨_, by first | rfl | (simp [errW_none, errW_some] <;> rfl) | (simp [*, errW_none, errW_some] <;> rfl), by (with_reducible repeat (first | apply Kd.R_alloc | apply Kd.R_drewN | apply Kd.R_drew)); exact HO219.out, by repeat (first | (with_reducible first | exact HB.out | apply below_alloc | apply pw_below_drewN | apply below_drew1) | exact HB.out), by repeat (first | (with_reducible first | exact HK.out | apply Kept.alloc | apply Kept.drewN | apply Kept.drew) | exact HK.out)⟩
        · rw [if_neg c7] at H
          exact absurd H (by simp)
      · replace c6 := Bool.eq_false_iff.mpr c6
        subst c6
        have H1 : (hertzconv_AppendQuotedPath.l0 kj2 l0 l1 (l1.length : Int) 0) = some r := by rw [if_neg (show ¬ (false = true) by decide)] at H; exact H
        clear H
        have H := H1
        clear H1
        have H' := Aside0.mk H
        clear H
        go_wp2
        go_loopg [0, 21] kj2 (fun kq v0 v21 w' => ∃ (x0_2 : List Int) (x21_2 : Int), v21 = .int .i64 x21_2 ∧ Aside0 (hertzconv_AppendQuotedPath.l0 kq x0_2 l1 (l1.length : Int) x21_2 = some r) ∧ Aside0 (kq ≤ kj2) ∧ Aside0 (Kd.R (Kd.int .u8) 5 w' w0.heap.size (fun k_ => (P0_ k_ ∨ w.heap.size ≤ k_)) v0 x0_2) ∧ Aside0 (Kept w w' (fun k_ => P0_ k_)) ∧ Aside0 (Below w0.heap.size w0 w'))
        case atStart => exact ⟨(l0), (0), (by first | rfl | (simp; done) | (simp [*]; done) | (simp [Go.Proofs.YtjmcndbkmknemaaX.isEmpty_ne]; done)), H', ⟨Nat.le_refl _⟩, ⟨by (with_reducible repeat (first | apply Kd.R_alloc | apply Kd.R_drewN | apply Kd.R_drew)); exact HO_0.out⟩, ⟨by repeat (first | (with_reducible first | exact HK.out | apply Kept.alloc | apply Kept.drewN | apply Kept.drew) | exact HK.out)⟩, ⟨by repeat (first | (with_reducible first | exact HB.out | apply below_alloc | apply pw_below_drewN | apply below_drew1) | exact HB.out)⟩⟩
        case round =>
          clear H'
          try clear c1
          try clear p2
          try clear q2
          try clear hx2
          try clear qi2
          try clear c4
          try clear c4b0
          try clear c4b1
          try clear c5
          try clear c5b0
          try clear c5b1
          try clear c6
          try clear c7
          try clear hx216_0
          try clear p2
          try clear p216
          try clear q2
          try clear q216
          obtain ⟨x0_2, x21_2, rfl, HA, HK2, HO_0, HK, HB⟩ := hrel
          cases gk with
          | zero => exact absurd HA.out (by simp [hertzconv_AppendQuotedPath.l0])
          | succ k2 =>
            have H := HA.out
            clear HA
            simp only [hertzconv_AppendQuotedPath.l0] at H
            by_cases c9 : x21_2 < (l1.length : Int)
            · rw [if_pos c9] at H
              have c9b0 : decide (x21_2 < (l1.length : Int)) = true := decide_eq_true c9
              clear c9
              by_cases c10 : 0 ≤ x21_2
              · rw [if_pos c10] at H
                have c10b0 : decide (0 ≤ x21_2) = true := decide_eq_true c10
                clear c10
                by_cases c11 : x21_2 < (l1.length : Int)
                · rw [if_pos c11] at H
                  have c11b0 : decide (x21_2 < (l1.length : Int)) = true := decide_eq_true c11
                  clear c11
                  obtain ⟨ji12, hji12⟩ : ∃ j_ : Int, (wrap64 (rd l1 x21_2)) = j_ := ⟨_, rfl⟩
                  replace H : (if 0 ≤ (ji12) then (if (ji12) < (tab2.size : Int) then (if (bt tab2 (ji12)) = 0 then (if x0_2.length < 140737488355328 then (hertzconv_AppendQuotedPath.l0 k2 (x0_2 ++ [rd l1 x21_2]) l1 (l1.length : Int) (wrap64 (x21_2 + 1))) else (none)) else (if 0 ≤ ((rd l1 x21_2) / 16) then (if ((rd l1 x21_2) / 16) < 16 then (if 0 ≤ (Go.bits .and .u8 (rd l1 x21_2) 15) then (if (Go.bits .and .u8 (rd l1 x21_2) 15) < 16 then ((some (([37, bt (⟨#[48, 49, 50, 51, 52, 53, 54, 55, 56, 57, 65, 66, 67, 68, 69, 70]⟩ : ByteArray) ((rd l1 x21_2) / 16), bt (⟨#[48, 49, 50, 51, 52, 53, 54, 55, 56, 57, 65, 66, 67, 68, 69, 70]⟩ : ByteArray) (Go.bits .and .u8 (rd l1 x21_2) 15)] : List Int) : List Int)).bind fun y224 => (if x0_2.length + y224.length < 140737488355328 then (hertzconv_AppendQuotedPath.l0 k2 (x0_2 ++ y224) l1 (l1.length : Int) (wrap64 (x21_2 + 1))) else (none))) else (none)) else (none)) else (none)) else (none))) else (none)) else (none)) = some r := by first | (rw [hji12] at H; exact H) | (simp only [hji12] at H ⊢; exact H)
                  have hji12w : (IntKind.i64.wrap (rd l1 x21_2)) = ji12 := (i64_w _).trans hji12
                  by_cases c13 : 0 ≤ (ji12)
                  · rw [if_pos c13] at H
                    have c13b0 : decide (0 ≤ (ji12)) = true := decide_eq_true c13
                    clear c13
                    by_cases c14 : (ji12) < (tab2.size : Int)
                    · rw [if_pos c14] at H
                      have c14b0 : decide ((ji12) < (tab2.size : Int)) = true := decide_eq_true c14
                      clear c14
                      by_cases c16 : (bt tab2 (ji12)) = 0
                      · rw [if_pos c16] at H
                        have c16b0 : ((bt tab2 (ji12)) == 0) = true := beq_iff_eq.mpr c16
                        have c16b1 : ((bt tab2 (ji12)) != 0) = false := bne_eq_false_iff_eq.mpr c16
                        clear c16
                        by_cases c17 : x0_2.length < 140737488355328
                        · rw [if_pos c17] at H
                          have LMc17 := Aside0.mk c17
                          clear c17
                          obtain ⟨y221, hy221⟩ : ∃ y_ : List Int, y_ = (x0_2 ++ [rd l1 x21_2]) := ⟨_, rfl⟩
                          replace H : (hertzconv_AppendQuotedPath.l0 k2 y221 l1 (l1.length : Int) (wrap64 (x21_2 + 1))) = some r := by first | (rw [hy221]; with_reducible exact H) | (have H2_ := (Option.bind_some _ _).symm.trans H; rw [hy221]; with_reducible exact H2_) | (have H2_ := (Option.bind_some _ _).symm.trans H; with_reducible exact H2_) | with_reducible exact H | (rw [hy221]; exact H) | exact H
                          have Ny221 := Aside0.mk hy221
                          clear hy221
                          have H' := Aside0.mk H
                          clear H
                          have p220 : 0 ≤ (x21_2 : Int) := of_decide_eq_true (by first | (with_reducible assumption) | assumption)
                          have q220 : x21_2 < (l1.length : Int) := of_decide_eq_true (by first | (with_reducible assumption) | assumption)
                          obtain ⟨ad220, e220, hx220_0⟩ := Kd.at_int (Kd.C_kept_now HR1.out HK.out) x21_2 p220 q220
                          cases e220
                          replace p220 := eq_true p220
                          replace q220 := eq_true q220
                          go_wp2_with (first | ((with_reducible refine gate_dst (N := 27) rfl ?_); refine Go.Proofs.YtjmcndbkmknemaaX.index_tab (some 27) rfl rfl 9 _ _ rfl Try.underlying9 tab2 (by kernel_rfl) .i64 (ji12) rfl (by first | exact of_decide_eq_true (by first | (with_reducible assumption) | assumption) | exact (bt_range _ _).1 | omega) (of_decide_eq_true (by first | (with_reducible assumption) | assumption)) ?_) | ((with_reducible refine gate_builtin (b := .append) (xs := #[.tmp 38, .tmp 40]) rfl ?_); at_builtin; refine Kd.R_append (Kd.int .u8) (w0 := w0) w0.heap.size rfl (.tmp 38) (.tmp 40) 67 5 (.int .u8 0) 1 rfl Try.underlying67 info5 rfl (by decide) (by omega) u0 x0_2 (rd l1 x21_2) [.int .u8 (rd l1 x21_2)] (fun k_ => (P0_ k_ ∨ w.heap.size ≤ k_)) (fun _ => False) rfl rfl ?aP (fun _ hk => hk.elim) ?aF ?aO ?aB ?aS ?aL ?_; (case aP => exact rfl); (case aB => exact (by repeat (first | (with_reducible first | exact HB.out | apply below_alloc | apply pw_below_drewN | apply below_drew1) | exact HB.out))); (case aF => exact (fun k_ hk => (.inr (Nat.le_trans (by first | exact HK.out.1 | exact (show Kept w _ (fun k_ => P0_ k_) from by repeat (first | (with_reducible first | exact HK.out | apply Kept.alloc | apply Kept.drewN | apply Kept.drew) | exact HK.out)).1) hk)))); (case aO => exact (by (with_reducible repeat (first | apply Kd.R_alloc | apply Kd.R_drewN | apply Kd.R_drew)); exact HO_0.out)); (case aS => exact (below_size (by repeat (first | (with_reducible first | exact HB.out | apply below_alloc | apply pw_below_drewN | apply below_drew1) | exact HB.out)))); (case aL => have := LMc17.out; omega); intro v222 w18 ho hb hg hat; rw [← Ny221.out] at ho; have n0_ := Aside0.mk (hb); have n1_ := Aside0.mk (Kept.of_grown (S := (fun k_ => P0_ k_)) hg (by repeat (first | (with_reducible first | exact HK.out | apply Kept.alloc | apply Kept.drewN | apply Kept.drew) | exact HK.out)) (fun k_ e_ => (HO_0.out.1 k_ e_))); have n2_ := Aside0.mk (ho); clear HB; clear HK; clear HO_0; have HB := n0_; have HK := n1_; have HO223 := n2_; clear n0_ n1_ n2_; clear ho hb hg hat))
                          go_roundg k2
                          case measure => have := HJ2.out; have := HK2.out; omega
                          case rel => exact ⟨(y221), (wrap64 (x21_2 + 1)), (by first | rfl | (simp; done) | (simp [*]; done) | (simp [Go.Proofs.YtjmcndbkmknemaaX.isEmpty_ne]; done)), H', ⟨by have := HJ2.out; have := HK2.out; omega⟩, ⟨by (with_reducible repeat (first | apply Kd.R_alloc | apply Kd.R_drewN | apply Kd.R_drew)); exact HO223.out⟩, ⟨by repeat (first | (with_reducible first | exact HK.out | apply Kept.alloc | apply Kept.drewN | apply Kept.drew) | exact HK.out)⟩, ⟨by repeat (first | (with_reducible first | exact HB.out | apply below_alloc | apply pw_below_drewN | apply below_drew1) | exact HB.out)⟩⟩
                        · rw [if_neg c17] at H
                          exact absurd H (by simp)
                      · rw [if_neg c16] at H
                        have c16b0 : ((bt tab2 (ji12)) == 0) = false := beq_eq_false_iff_ne.mpr c16
                        have c16b1 : ((bt tab2 (ji12)) != 0) = true := bne_iff_ne.mpr c16
                        obtain ⟨ji19, hji19⟩ : ∃ j_ : Int, ((rd l1 x21_2) / 16) = j_ := ⟨_, rfl⟩
                        replace H : (if 0 ≤ (ji19) then (if (ji19) < 16 then (if 0 ≤ (Go.bits .and .u8 (rd l1 x21_2) 15) then (if (Go.bits .and .u8 (rd l1 x21_2) 15) < 16 then ((some (([37, bt (⟨#[48, 49, 50, 51, 52, 53, 54, 55, 56, 57, 65, 66, 67, 68, 69, 70]⟩ : ByteArray) (ji19), bt (⟨#[48, 49, 50, 51, 52, 53, 54, 55, 56, 57, 65, 66, 67, 68, 69, 70]⟩ : ByteArray) (Go.bits .and .u8 (rd l1 x21_2) 15)] : List Int) : List Int)).bind fun y224 => (if x0_2.length + y224.length < 140737488355328 then (hertzconv_AppendQuotedPath.l0 k2 (x0_2 ++ y224) l1 (l1.length : Int) (wrap64 (x21_2 + 1))) else (none))) else (none)) else (none)) else (none)) else (none)) = some r := by first | (rw [hji19] at H; exact H) | (simp only [hji19] at H ⊢; exact H)
                        by_cases c20 : 0 ≤ (ji19)
                        · rw [if_pos c20] at H
                          have c20b0 : decide (0 ≤ (ji19)) = true := decide_eq_true c20
                          clear c20
                          by_cases c21 : (ji19) < 16
                          · rw [if_pos c21] at H
                            have c21b0 : decide ((ji19) < 16) = true := decide_eq_true c21
                            clear c21
                            by_cases c23 : 0 ≤ (Go.bits .and .u8 (rd l1 x21_2) 15)
                            · rw [if_pos c23] at H
                              have c23b0 : decide (0 ≤ (Go.bits .and .u8 (rd l1 x21_2) 15)) = true := decide_eq_true c23
                              clear c23
                              by_cases c24 : (Go.bits .and .u8 (rd l1 x21_2) 15) < 16
                              · rw [if_pos c24] at H
                                have c24b0 : decide ((Go.bits .and .u8 (rd l1 x21_2) 15) < 16) = true := decide_eq_true c24
                                clear c24
                                obtain ⟨y224, hy224⟩ : ∃ y_ : List Int, y_ = (([37, bt (⟨#[48, 49, 50, 51, 52, 53, 54, 55, 56, 57, 65, 66, 67, 68, 69, 70]⟩ : ByteArray) (ji19), bt (⟨#[48, 49, 50, 51, 52, 53, 54, 55, 56, 57, 65, 66, 67, 68, 69, 70]⟩ : ByteArray) (Go.bits .and .u8 (rd l1 x21_2) 15)] : List Int)) := ⟨_, rfl⟩
                                replace H : (if x0_2.length + y224.length < 140737488355328 then (hertzconv_AppendQuotedPath.l0 k2 (x0_2 ++ y224) l1 (l1.length : Int) (wrap64 (x21_2 + 1))) else (none)) = some r := by first | (rw [hy224]; with_reducible exact H) | (have H2_ := (Option.bind_some _ _).symm.trans H; rw [hy224]; with_reducible exact H2_) | (have H2_ := (Option.bind_some _ _).symm.trans H; with_reducible exact H2_) | with_reducible exact H | (rw [hy224]; exact H) | exact H
                                have Ny224 := Aside0.mk hy224
                                clear hy224
                                by_cases c26 : x0_2.length + y224.length < 140737488355328
                                · rw [if_pos c26] at H
                                  have LMc26 := Aside0.mk c26
                                  clear c26
                                  obtain ⟨y227, hy227⟩ : ∃ y_ : List Int, y_ = (x0_2 ++ y224) := ⟨_, rfl⟩
                                  replace H : (hertzconv_AppendQuotedPath.l0 k2 y227 l1 (l1.length : Int) (wrap64 (x21_2 + 1))) = some r := by first | (rw [hy227]; with_reducible exact H) | (have H2_ := (Option.bind_some _ _).symm.trans H; rw [hy227]; with_reducible exact H2_) | (have H2_ := (Option.bind_some _ _).symm.trans H; with_reducible exact H2_) | with_reducible exact H | (rw [hy227]; exact H) | exact H
                                  have Ny227 := Aside0.mk hy227
                                  clear hy227
                                  have H' := Aside0.mk H
                                  clear H
                                  have p220 : 0 ≤ (x21_2 : Int) := of_decide_eq_true (by first | (with_reducible assumption) | assumption)
                                  have q220 : x21_2 < (l1.length : Int) := of_decide_eq_true (by first | (with_reducible assumption) | assumption)
                                  obtain ⟨ad220, e220, hx220_0⟩ := Kd.at_int (Kd.C_kept_now HR1.out HK.out) x21_2 p220 q220
                                  cases e220
                                  replace p220 := eq_true p220
                                  replace q220 := eq_true q220
                                  try go_wp2_with (first | ((with_reducible refine gate_dst (N := 27) rfl ?_); refine Go.Proofs.YtjmcndbkmknemaaX.index_tab (some 27) rfl rfl 9 _ _ rfl Try.underlying9 tab2 (by kernel_rfl) .i64 (ji12) rfl (by first | exact of_decide_eq_true (by first | (with_reducible assumption) | assumption) | exact (bt_range _ _).1 | omega) (of_decide_eq_true (by first | (with_reducible assumption) | assumption)) ?_))
                                  have n0_ := Aside0.mk (Kd.R_drew HO_0.out)
                                  have n1_ := Aside0.mk (Kept.drew HK.out)
                                  have n2_ := Aside0.mk (below_drew1 HB.out)
                                  clear HO_0
                                  clear HK
                                  clear HB
                                  have HO_0 := n0_
                                  have HK := n1_
                                  have HB := n2_
                                  clear n0_ n1_ n2_
                                  have p22 : 0 ≤ ((ji19) : Int) := of_decide_eq_true (by first | (with_reducible assumption) | assumption)
                                  have q22 : (ji19) < (16 : Int) := of_decide_eq_true (by first | (with_reducible assumption) | assumption)
                                  have hx22 := bt_at (⟨#[48, 49, 50, 51, 52, 53, 54, 55, 56, 57, 65, 66, 67, 68, 69, 70]⟩ : ByteArray) (ji19)
                                  replace p22 := eq_true p22
                                  replace q22 := eq_true q22
                                  have p25 : 0 ≤ ((Go.bits .and .u8 (rd l1 x21_2) 15) : Int) := of_decide_eq_true (by first | (with_reducible assumption) | assumption)
                                  have q25 : (Go.bits .and .u8 (rd l1 x21_2) 15) < (16 : Int) := of_decide_eq_true (by first | (with_reducible assumption) | assumption)
                                  have hx25 := bt_at (⟨#[48, 49, 50, 51, 52, 53, 54, 55, 56, 57, 65, 66, 67, 68, 69, 70]⟩ : ByteArray) (Go.bits .and .u8 (rd l1 x21_2) 15)
                                  replace p25 := eq_true p25
                                  replace q25 := eq_true q25
                                  refine start_ (n := 10) (S := fun w' => True) (ds := []) #[false, false, false, false, false, false, false, false, false, false] (by kernel_rfl) rfl rfl trivial (fun hHeld => ?_); refine with_tabW hertzconv_AppendQuotedPath.tab7 hertzconv_AppendQuotedPath.bits7 (fun HT_ HW_ => ?_)
                                  generalize wr.drew = w27 at HO_0 HK HB hHeld ⊢
                                  refine pure_ (i := 0) (N := some 29) (v := ?_) (a' := ?_) #[true, false, false, false, false, false, false, false, false, false] rfl rfl (any_of HT_.out (by kernel_rfl)) (fun _ _ _ h => h) (Or.inl ⟨by rfl, ?_⟩) ?_ ?_
                                  rotate_left
                                  · intro w'
                                    go_simp
                                    with_reducible rfl
                                  rotate_left
                                  · simp only [Act.put, List.setIfInBounds_toArray, List.set_cons_zero, List.set_cons_succ, i64_w, i32_w]
                                    rfl
                                  refine pure_ (i := 1) (N := some 30) (v := ?_) (a' := ?_) #[true, true, false, false, false, false, false, false, false, false] rfl rfl (any_of HT_.out (by kernel_rfl)) (fun _ _ _ h => h) (Or.inl ⟨by rfl, ?_⟩) ?_ ?_
                                  rotate_left
                                  · intro w'
                                    go_simp
                                    with_reducible rfl
                                  rotate_left
                                  · simp only [Act.put, List.setIfInBounds_toArray, List.set_cons_zero, List.set_cons_succ, i64_w, i32_w]
                                    rfl
                                  refine pure_ (i := 2) (N := some 31) (v := ?_) (a' := ?_) #[true, true, true, false, false, false, false, false, false, false] rfl rfl (any_of HT_.out (by kernel_rfl)) (fun _ _ _ h => h) (Or.inl ⟨by rfl, ?_⟩) ?_ ?_
                                  rotate_left
                                  · intro w'
                                    go_simp
                                    with_reducible rfl
                                  rotate_left
                                  · simp only [Act.put, List.setIfInBounds_toArray, List.set_cons_zero, List.set_cons_succ, i64_w, i32_w]
                                    rfl
                                  refine pure_ (i := 4) (N := some 33) (v := ?_) (a' := ?_) #[true, true, true, false, true, false, false, false, false, false] rfl rfl (any_of HT_.out (by kernel_rfl)) (fun _ _ _ h => h) (Or.inl ⟨by rfl, ?_⟩) ?_ ?_
                                  rotate_left
                                  · intro w'
                                    go_simp
                                    with_reducible rfl
                                  rotate_left
                                  · simp only [Act.put, List.setIfInBounds_toArray, List.set_cons_zero, List.set_cons_succ, i64_w, i32_w]
                                    rfl
                                  refine pure_ (i := 5) (N := some 34) (v := ?_) (a' := ?_) #[true, true, true, false, true, true, false, false, false, false] rfl rfl (any_of HT_.out (by kernel_rfl)) (fun _ _ _ h => h) (Or.inl ⟨by rfl, ?_⟩) ?_ ?_
                                  rotate_left
                                  · intro w'
                                    go_simp
                                    with_reducible rfl
                                  rotate_left
                                  · simp only [Act.put, List.setIfInBounds_toArray, List.set_cons_zero, List.set_cons_succ, i64_w, i32_w]
                                    rfl
                                  refine take_ (i := 3) (N := some 32) (v := ?_) (a' := ?_) #[true, true, true, true, true, true, false, false, false, false] rfl rfl (take_ofW HT_.out HW_.out (by kernel_rfl)) (fun _ _ _ h => h) (Or.inl ⟨by rfl, ?_⟩) hHeld ?_ ?_
                                  rotate_left
                                  · intro w' _
                                    go_simp
                                    with_reducible rfl
                                  rotate_left
                                  · simp only [Act.put, List.setIfInBounds_toArray, List.set_cons_zero, List.set_cons_succ, i64_w, i32_w]
                                    rfl
                                  refine take_ (i := 6) (N := some 35) (v := ?_) (a' := ?_) #[true, true, true, true, true, true, true, false, false, false] rfl rfl (take_ofW HT_.out HW_.out (by kernel_rfl)) (fun _ _ _ h => h) (Or.inl ⟨by rfl, ?_⟩) hHeld ?_ ?_
                                  rotate_left
                                  · intro w' _
                                    go_simp
                                    with_reducible rfl
                                  rotate_left
                                  · simp only [Act.put, List.setIfInBounds_toArray, List.set_cons_zero, List.set_cons_succ, i64_w, i32_w]
                                    rfl
                                  refine one_ (i := 7) (N := some 36) #[true, true, true, true, true, true, true, true, false, false] rfl rfl (one_of HT_.out (by kernel_rfl)) (by decide) (fun K hK => ?_)
                                  refine Kd.R_lit_step (Kd.int .u8) _ 5 ?hg (N := 36) ?hd (xs := ([37, bt (⟨#[48, 49, 50, 51, 52, 53, 54, 55, 56, 57, 65, 66, 67, 68, 69, 70]⟩ : ByteArray) (ji19), bt (⟨#[48, 49, 50, 51, 52, 53, 54, 55, 56, 57, 65, 66, 67, 68, 69, 70]⟩ : ByteArray) (Go.bits .and .u8 (rd l1 x21_2) 15)] : List Int)) (inner := [.int .u8 37, .int .u8 (bt (⟨#[48, 49, 50, 51, 52, 53, 54, 55, 56, 57, 65, 66, 67, 68, 69, 70]⟩ : ByteArray) (ji19)), .int .u8 (bt (⟨#[48, 49, 50, 51, 52, 53, 54, 55, 56, 57, 65, 66, 67, 68, 69, 70]⟩ : ByteArray) (Go.bits .and .u8 (rd l1 x21_2) 15))]) (ok := fun _ => True) (okp := fun _ => True) ?hr ?hp (fun _ hk => hk) trivial (Below.refl _ _) (Nat.le_refl _) (by simp) ?_; (case hd => rfl); (case hg => rfl); (case hr => first | (go_simp; done) | (go_simp; rfl)); (case hp => exact (Reps.one (show Kd.M (Kd.int .u8) _ _ _ 37 [.int .u8 37] from rfl) (Reps.one (show Kd.M (Kd.int .u8) _ _ _ (bt (⟨#[48, 49, 50, 51, 52, 53, 54, 55, 56, 57, 65, 66, 67, 68, 69, 70]⟩ : ByteArray) (ji19)) [.int .u8 (bt (⟨#[48, 49, 50, 51, 52, 53, 54, 55, 56, 57, 65, 66, 67, 68, 69, 70]⟩ : ByteArray) (ji19))] from rfl) (Reps.one (show Kd.M (Kd.int .u8) _ _ _ (bt (⟨#[48, 49, 50, 51, 52, 53, 54, 55, 56, 57, 65, 66, 67, 68, 69, 70]⟩ : ByteArray) (Go.bits .and .u8 (rd l1 x21_2) 15)) [.int .u8 (bt (⟨#[48, 49, 50, 51, 52, 53, 54, 55, 56, 57, 65, 66, 67, 68, 69, 70]⟩ : ByteArray) (Go.bits .and .u8 (rd l1 x21_2) 15))] from rfl) (Reps.none _ _)))))
                                  intro v225 w28 ho29 hb hg_ hnew_
                                  clear hg_ hnew_
                                  (first | rw [← Ny224.out] at ho29 | (simp only [Int.reduceToNat] at ho29; rw [← Ny224.out] at ho29))
                                  have n0_ := Aside0.mk (Kd.R_elder' (by (with_reducible repeat (first | apply Kd.R_alloc | apply Kd.R_drewN | apply Kd.R_drew)); exact HO_0.out) (Kd.R_base ho29) hb)
                                  have n1_ := Aside0.mk (Kd.R_lower (Kd.R_new' (Kd.R_newM (M := fun k_ => (P0_ k_ ∨ w.heap.size ≤ k_)) ho29 (by first | exact HK.out.1 | exact (show Kept w _ (fun k_ => P0_ k_) from by repeat (first | (with_reducible first | exact HK.out | apply Kept.alloc | apply Kept.drewN | apply Kept.drew) | exact HK.out)).1) (fun k_ h_ => .inr h_)) (Kd.R_lt (by (with_reducible repeat (first | apply Kd.R_alloc | apply Kd.R_drewN | apply Kd.R_drew)); exact HO_0.out))) (below_size (by repeat (first | (with_reducible first | exact HB.out | apply below_alloc | apply pw_below_drewN | apply below_drew1) | exact HB.out))))
                                  have n2_ := Aside0.mk (Kept.below (S := (fun k_ => P0_ k_)) (by repeat (first | (with_reducible first | exact HK.out | apply Kept.alloc | apply Kept.drewN | apply Kept.drew) | exact HK.out)) hb)
                                  have n3_ := Aside0.mk (below_step (by repeat (first | (with_reducible first | exact HB.out | apply below_alloc | apply pw_below_drewN | apply below_drew1) | exact HB.out)) hb)
                                  clear HO_0
                                  clear HK
                                  clear HB
                                  have HO_0 := n0_
                                  have HO226 := n1_
                                  have HK := n2_
                                  have HB := n3_
                                  clear n0_ n1_ n2_ n3_
                                  clear hb ho29
                                  obtain ⟨Ao31, co31, eo31⟩ := Kd.R_slice HO226.out
                                  (first | subst eo31 | (injection eo31 with f1_ f2_ f3_; have f4_ := f1_.symm; have f5_ := f3_.symm; clear f1_ f2_ f3_; subst f4_; subst f5_))
                                  refine hK.out _ _ trivial (fun hHeld => ?_)
                                  clear hK K
                                  refine norm_ (a' := ?_) ?_ ?_
                                  rotate_left
                                  · show Act.put _ (some 36) _ = _
                                    simp only [Act.put, List.setIfInBounds_toArray, List.set_cons_zero, List.set_cons_succ, i64_w, i32_w]
                                    rfl
                                  refine one_ (i := 8) (N := some 37) #[true, true, true, true, true, true, true, true, true, false] rfl rfl (one_of HT_.out (by kernel_rfl)) (by decide) (fun K hK => ?_)
                                  refine Kd.R_append_rows_step (Kd.int .u8) (w0 := w0) w0.heap.size (by rfl) (.tmp 29) (.tmp 36) 67 5 (.int .u8 0) 1 rfl Try.underlying67 info5 rfl (by decide) (by omega) u0 x0_2 y224 _ _ _ (fun k_ => (P0_ k_ ∨ w.heap.size ≤ k_) ∧ some k_ ≠ (.slice Ao31 y224.length co31 : Value).ownBlock) (fun _ => False) rfl rfl ?aO ?aR (fun _ _ h => h) (fun _ h => h.elim) ?aF ?aB ?aS ?aL ?_
                                  (case aR => repeat (first | exact (Kd.R_reads' HO226.out).2.2 | (with_reducible refine Kd.C_alloc ?_ _) | (with_reducible refine Kd.C_drewN ?_ _) | (with_reducible refine Kd.C_drew ?_)))
                                  (case aB => exact (by repeat (first | (with_reducible first | exact HB.out | apply below_alloc | apply pw_below_drewN | apply below_drew1) | exact HB.out)))
                                  (case aF => exact (fun k_ hk => ⟨(.inr (Nat.le_trans (by first | exact HK.out.1 | exact (show Kept w _ (fun k_ => P0_ k_) from by repeat (first | (with_reducible first | exact HK.out | apply Kept.alloc | apply Kept.drewN | apply Kept.drew) | exact HK.out)).1) hk)), Kd.fresh' (Kd.R_lt (by (with_reducible repeat (first | apply Kd.R_alloc | apply Kd.R_drewN | apply Kd.R_drew)); exact HO226.out)) k_ hk⟩))
                                  (case aO => exact (by (with_reducible repeat (first | apply Kd.R_alloc | apply Kd.R_drewN | apply Kd.R_drew)); exact HO_0.out))
                                  (case aS => exact (below_size (by repeat (first | (with_reducible first | exact HB.out | apply below_alloc | apply pw_below_drewN | apply below_drew1) | exact HB.out))))
                                  (case aL => have := LMc26.out; omega)
                                  intro v228 w30 ho hb hg hat
                                  rw [← Ny227.out] at ho
                                  have n0_ := Aside0.mk (Kd.R_after (ok := (fun k_ => (P0_ k_ ∨ w.heap.size ≤ k_))) (by (with_reducible repeat (first | apply Kd.R_alloc | apply Kd.R_drewN | apply Kd.R_drew)); exact Kd.R_mono HO226.out (fun _ hk => ⟨hk.1.1, hk.2⟩)) hg hat)
                                  have n1_ := Aside0.mk (hb)
                                  have n2_ := Aside0.mk (Kept.of_grown (S := (fun k_ => P0_ k_)) hg (by repeat (first | (with_reducible first | exact HK.out | apply Kept.alloc | apply Kept.drewN | apply Kept.drew) | exact HK.out)) (fun k_ e_ => (HO_0.out.1 k_ e_).1))
                                  have n3_ := Aside0.mk (ho)
                                  clear HO226
                                  clear HB
                                  clear HK
                                  clear HO_0
                                  have HO226 := n0_
                                  have HB := n1_
                                  have HK := n2_
                                  have HO229 := n3_
                                  clear n0_ n1_ n2_ n3_
                                  clear ho hb hg hat
                                  refine hK.out _ _ trivial (fun hHeld => ?_)
                                  clear hK K
                                  refine norm_ (a' := ?_) ?_ ?_
                                  rotate_left
                                  · show Act.put _ (some 37) _ = _
                                    simp only [Act.put, List.setIfInBounds_toArray, List.set_cons_zero, List.set_cons_succ, i64_w, i32_w]
                                    rfl
                                  refine pure_ (i := 9) (N := some 0) (v := ?_) (a' := ?_) #[true, true, true, true, true, true, true, true, true, true] rfl rfl (any_of HT_.out (by kernel_rfl)) (fun _ _ _ h => h) (Or.inl ⟨by rfl, ?_⟩) ?_ ?_
                                  rotate_left
                                  · intro w'
                                    go_simp
                                    with_reducible rfl
                                  rotate_left
                                  · simp only [Act.put, List.setIfInBounds_toArray, List.set_cons_zero, List.set_cons_succ, i64_w, i32_w]
                                    rfl
                                  refine done_ (done_of HT_.out (by kernel_rfl)) ?_
                                  try go_wp2
                                  go_roundg k2
                                  case measure => have := HJ2.out; have := HK2.out; omega
                                  case rel => exact ⟨(y227), (wrap64 (x21_2 + 1)), (by first | rfl | (simp; done) | (simp [*]; done) | (simp [Go.Proofs.YtjmcndbkmknemaaX.isEmpty_ne]; done)), H', ⟨by have := HJ2.out; have := HK2.out; omega⟩, ⟨by (with_reducible repeat (first | apply Kd.R_alloc | apply Kd.R_drewN | apply Kd.R_drew)); exact Kd.R_mono HO229.out (fun _ hk => hk.1)⟩, ⟨by repeat (first | (with_reducible first | exact HK.out | apply Kept.alloc | apply Kept.drewN | apply Kept.drew) | exact HK.out)⟩, ⟨by repeat (first | (with_reducible first | exact HB.out | apply below_alloc | apply pw_below_drewN | apply below_drew1) | exact HB.out)⟩⟩
                                · rw [if_neg c26] at H
                                  exact absurd H (by simp)
                              · rw [if_neg c24] at H
                                exact absurd H (by simp)
                            · rw [if_neg c23] at H
                              exact absurd H (by simp)
                          · rw [if_neg c21] at H
                            exact absurd H (by simp)
                        · rw [if_neg c20] at H
                          exact absurd H (by simp)
                    · rw [if_neg c14] at H
                      exact absurd H (by simp)
                  · rw [if_neg c13] at H
                    exact absurd H (by simp)
                · rw [if_neg c11] at H
                  exact absurd H (by simp)
              · rw [if_neg c10] at H
                exact absurd H (by simp)
            · rw [if_neg c9] at H
              have c9b0 : decide (x21_2 < (l1.length : Int)) = false := decide_eq_false c9
              clear c9
              obtain rfl := Option.some.inj H
              go_wp2
              go_ret
              exact ⟨_, by first | rfl | (simp [errW_none, errW_some] <;> rfl) | (simp [*, errW_none, errW_some] <;> rfl), by (with_reducible repeat (first | apply Kd.R_alloc | apply Kd.R_drewN | apply Kd.R_drew)); exact HO_0.out, by repeat (first | (with_reducible first | exact HB.out | apply below_alloc | apply pw_below_drewN | apply below_drew1) | exact HB.out), by repeat (first | (with_reducible first | exact HK.out | apply Kept.alloc | apply Kept.drewN | apply Kept.drew) | exact HK.out)⟩

end Go.Proofs.Ytjmcndbkmknemaa.Q
