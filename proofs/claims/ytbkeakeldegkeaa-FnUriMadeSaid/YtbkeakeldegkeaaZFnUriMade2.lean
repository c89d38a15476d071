/- FnUriMade: the law's function, called with any arguments, returns true and leaves its arguments as they were: every input, no condition. Part 3 of 11. -/
import Derived.Test.YtbkeakeldegkeaaZFnUriMade1
import Derived.Lib.IndexLaws
section
namespace Go.Proofs.Ytbkeakeldegkeaa.Q
open Go.RowKit Go.Proofs.YtbkeakeldegkeaaW.PrintWords Go.Proofs.YtbkeakeldegkeaaW.PrintLast Go.Proofs.YtbkeakeldegkeaaW.PrintMore
attribute [local go_sem] max2_int min2_int max_two min_two max_three min_three max_four min_four
set_option linter.unusedVariables false
set_option linter.unusedSimpArgs false
def hertzproto_addLeadingSlash.f (l0 : List Int) (l1 : List Int) : Option (List Int) := if (l1.length : Int) = 0 then (if l0.length < 140737488355328 then (some (l0 ++ [47])) else (none)) else (if 0 < (l1.length : Int) then (if (rd l1 0) = 47 then (some l0) else (if l0.length < 140737488355328 then (some (l0 ++ [47])) else (none))) else (none))
set_option maxHeartbeats 8000000 in
set_option maxRecDepth 100000 in
theorem hertzproto_addLeadingSlash.calls (P0_ : Nat → Prop) (u9000_ : Value) (l0 : List Int) (A1 : Option Addr) (c1 : Nat) (l1 : List Int) (r : List Int) (w0 w : World) (hB : Below w0.heap.size w0 w) (ho0 : Kd.R (Kd.int .u8) 5 w w0.heap.size P0_ u9000_ l0) (hr1 : ∀ W_, Kept w W_ (fun k_ => P0_ k_) → Kd.C (Kd.int .u8) W_ A1 l1.length l1) (hc1 : l1.length ≤ c1) (h : hertzproto_addLeadingSlash.f l0 l1 = some r) :
    Calls Try.prog 92 #[u9000_, .slice A1 l1.length c1] w fun e w' => ∃ v0_ : Value, e = .returned (v0_) ∧ Kd.R (Kd.int .u8) 5 w' w0.heap.size (fun k_ => (P0_ k_ ∨ w.heap.size ≤ k_)) v0_ r ∧ Below w0.heap.size w0 w' ∧ Kept w w' (fun k_ => P0_ k_) := by
  have HO0 := Aside0.mk (show Kd.R (Kd.int .u8) 5 w w0.heap.size (fun k_ => (P0_ k_ ∨ w.heap.size ≤ k_)) u9000_ l0 from Kd.R_mono ho0 (fun k_ hk => (.inl hk)))
  have HR1 := Aside0.mk hr1
  have HC1 := Aside0.mk hc1
  clear hr1 hc1
  have HK := Aside0.mk (Kept.refl w (fun k_ => P0_ k_))
  have HW0 := Aside0.mk hB.size
  have HB := Aside0.mk hB
  clear hB
  have H : (if (l1.length : Int) = 0 then (if l0.length < 140737488355328 then (some (l0 ++ [47])) else (none)) else (if 0 < (l1.length : Int) then (if (rd l1 0) = 47 then (some l0) else (if l0.length < 140737488355328 then (some (l0 ++ [47])) else (none))) else (none))) = some r := h
  clear h
  by_cases c3 : (l1.length : Int) = 0
  · rw [if_pos c3] at H
    have c3b0 : ((l1.length : Int) == 0) = true := beq_iff_eq.mpr c3
    have c3b1 : ((l1.length : Int) != 0) = false := bne_eq_false_iff_eq.mpr c3
    clear c3
    by_cases c4 : l0.length < 140737488355328
    · rw [if_pos c4] at H
      have LMc4 := Aside0.mk c4
      clear c4
      obtain ⟨y105, hy105⟩ : ∃ y_ : List Int, y_ = (l0 ++ [47]) := ⟨_, rfl⟩
      replace H : (some y105) = some r := by first | (rw [hy105]; with_reducible exact H) | (have H2_ := (Option.bind_some _ _).symm.trans H; rw [hy105]; with_reducible exact H2_) | (have H2_ := (Option.bind_some _ _).symm.trans H; with_reducible exact H2_) | with_reducible exact H | (rw [hy105]; exact H) | exact H
      have Ny105 := Aside0.mk hy105
      clear hy105
      obtain rfl := Option.some.inj H
      go_enter Try.func92, Try.ntmps92
      go_wp2_with (first | ((with_reducible refine gate_builtin (b := .append) (xs := #[.tmp 14, .tmp 15]) rfl ?_); at_builtin; refine Kd.R_append (Kd.int .u8) (w0 := w0) w0.heap.size rfl (.tmp 14) (.tmp 15) 49 5 (.int .u8 0) 1 rfl Try.underlying49 info5 rfl (by decide) (by omega) u9000_ l0 47 [.int .u8 47] (fun k_ => (P0_ k_ ∨ w.heap.size ≤ k_)) (fun _ => False) rfl rfl ?aP (fun _ hk => hk.elim) ?aF ?aO ?aB ?aS ?aL ?_; (case aP => exact rfl); (case aB => exact (by repeat (first | (with_reducible first | exact HB.out | apply below_alloc | apply pw_below_drewN | apply below_drew1) | exact HB.out))); (case aF => exact (fun k_ hk => (.inr (Nat.le_trans (by first | exact HK.out.1 | exact (show Kept w _ (fun k_ => P0_ k_) from by repeat (first | (with_reducible first | exact HK.out | apply Kept.alloc | apply Kept.drewN | apply Kept.drew) | exact HK.out)).1) hk)))); (case aO => exact (by (with_reducible repeat (first | apply Kd.R_alloc | apply Kd.R_drewN | apply Kd.R_drew)); exact HO0.out)); (case aS => exact (below_size (by repeat (first | (with_reducible first | exact HB.out | apply below_alloc | apply pw_below_drewN | apply below_drew1) | exact HB.out)))); (case aL => have := LMc4.out; omega); intro v106 w5 ho hb hg hat; rw [← Ny105.out] at ho; have n0_ := Aside0.mk (hb); have n1_ := Aside0.mk (Kept.of_grown (S := (fun k_ => P0_ k_)) hg (by repeat (first | (with_reducible first | exact HK.out | apply Kept.alloc | apply Kept.drewN | apply Kept.drew) | exact HK.out)) (fun k_ e_ => (HO0.out.1 k_ e_))); have n2_ := Aside0.mk (ho); clear HB; clear HK; clear HO0; have HB := n0_; have HK := n1_; have HO107 := n2_; clear n0_ n1_ n2_; clear ho hb hg hat))
      go_ret
      exact ⟨_, by first | rfl | (simp [errW_none, errW_some] <;> rfl) | (simp [*, errW_none, errW_some] <;> rfl), by (with_reducible repeat (first | apply Kd.R_alloc | apply Kd.R_drewN | apply Kd.R_drew)); exact HO107.out, by repeat (first | (with_reducible first | exact HB.out | apply below_alloc | apply pw_below_drewN | apply below_drew1) | exact HB.out), by repeat (first | (with_reducible first | exact HK.out | apply Kept.alloc | apply Kept.drewN | apply Kept.drew) | exact HK.out)⟩
    · rw [if_neg c4] at H
      exact absurd H (by simp)
  · rw [if_neg c3] at H
    have c3b0 : ((l1.length : Int) == 0) = false := beq_eq_false_iff_ne.mpr c3
    have c3b1 : ((l1.length : Int) != 0) = true := bne_iff_ne.mpr c3
    have c3b2 : ¬ (l1 = []) := fun h_ => c3 (by rw [h_]; rfl)
    by_cases c6 : 0 < (l1.length : Int)
    · rw [if_pos c6] at H
      have c6b0 : decide (0 < (l1.length : Int)) = true := decide_eq_true c6
      have c6b1 : decide (0 < l1.length) = true := decide_eq_true (by omega)
      clear c6
      by_cases c7 : (rd l1 0) = 47
      · rw [if_pos c7] at H
        have c7b0 : ((rd l1 0) == 47) = true := beq_iff_eq.mpr c7
        have c7b1 : ((rd l1 0) != 47) = false := bne_eq_false_iff_eq.mpr c7
        clear c7
        obtain rfl := Option.some.inj H
        have p108 : 0 ≤ (0 : Int) := (by omega)
        have q108 : 0 < (l1.length : Int) := of_decide_eq_true (by first | (with_reducible assumption) | assumption)
        obtain ⟨ad108, e108, hx108_0⟩ := Kd.at_int (Kd.C_kept_now HR1.out HK.out) 0 p108 q108
        cases e108
        have qi108 : (0 < l1.length) = True := eq_true (by omega)
        (try rw [show ((0 : Int)).toNat = 0 from rfl] at hx108_0)
        (try rw [Addr.add_zero'] at hx108_0)
        replace p108 := eq_true p108
        replace q108 := eq_true q108
        go_enter Try.func92, Try.ntmps92
        go_wp2
        go_ret
        exact ⟨_, by first | rfl | (simp [errW_none, errW_some] <;> rfl) | (simp [*, errW_none, errW_some] <;> rfl), by (with_reducible repeat (first | apply Kd.R_alloc | apply Kd.R_drewN | apply Kd.R_drew)); exact HO0.out, by repeat (first | (with_reducible first | exact HB.out | apply below_alloc | apply pw_below_drewN | apply below_drew1) | exact HB.out), by repeat (first | (with_reducible first | exact HK.out | apply Kept.alloc | apply Kept.drewN | apply Kept.drew) | exact HK.out)⟩
      · rw [if_neg c7] at H
        have c7b0 : ((rd l1 0) == 47) = false := beq_eq_false_iff_ne.mpr c7
        have c7b1 : ((rd l1 0) != 47) = true := bne_iff_ne.mpr c7
        by_cases c8 : l0.length < 140737488355328
        · rw [if_pos c8] at H
          have LMc8 := Aside0.mk c8
          clear c8
          obtain ⟨y109, hy109⟩ : ∃ y_ : List Int, y_ = (l0 ++ [47]) := ⟨_, rfl⟩
          replace H : (some y109) = some r := by first | (rw [hy109]; with_reducible exact H) | (have H2_ := (Option.bind_some _ _).symm.trans H; rw [hy109]; with_reducible exact H2_) | (have H2_ := (Option.bind_some _ _).symm.trans H; with_reducible exact H2_) | with_reducible exact H | (rw [hy109]; exact H) | exact H
          have Ny109 := Aside0.mk hy109
          clear hy109
          obtain rfl := Option.some.inj H
          have p108 : 0 ≤ (0 : Int) := (by omega)
          have q108 : 0 < (l1.length : Int) := of_decide_eq_true (by first | (with_reducible assumption) | assumption)
          obtain ⟨ad108, e108, hx108_0⟩ := Kd.at_int (Kd.C_kept_now HR1.out HK.out) 0 p108 q108
          cases e108
          have qi108 : (0 < l1.length) = True := eq_true (by omega)
          (try rw [show ((0 : Int)).toNat = 0 from rfl] at hx108_0)
          (try rw [Addr.add_zero'] at hx108_0)
          replace p108 := eq_true p108
          replace q108 := eq_true q108
          go_enter Try.func92, Try.ntmps92
          go_wp2_with (first | ((with_reducible refine gate_builtin (b := .append) (xs := #[.tmp 14, .tmp 15]) rfl ?_); at_builtin; refine Kd.R_append (Kd.int .u8) (w0 := w0) w0.heap.size rfl (.tmp 14) (.tmp 15) 49 5 (.int .u8 0) 1 rfl Try.underlying49 info5 rfl (by decide) (by omega) u9000_ l0 47 [.int .u8 47] (fun k_ => (P0_ k_ ∨ w.heap.size ≤ k_)) (fun _ => False) rfl rfl ?aP (fun _ hk => hk.elim) ?aF ?aO ?aB ?aS ?aL ?_; (case aP => exact rfl); (case aB => exact (by repeat (first | (with_reducible first | exact HB.out | apply below_alloc | apply pw_below_drewN | apply below_drew1) | exact HB.out))); (case aF => exact (fun k_ hk => (.inr (Nat.le_trans (by first | exact HK.out.1 | exact (show Kept w _ (fun k_ => P0_ k_) from by repeat (first | (with_reducible first | exact HK.out | apply Kept.alloc | apply Kept.drewN | apply Kept.drew) | exact HK.out)).1) hk)))); (case aO => exact (by (with_reducible repeat (first | apply Kd.R_alloc | apply Kd.R_drewN | apply Kd.R_drew)); exact HO0.out)); (case aS => exact (below_size (by repeat (first | (with_reducible first | exact HB.out | apply below_alloc | apply pw_below_drewN | apply below_drew1) | exact HB.out)))); (case aL => have := LMc8.out; omega); intro v110 w9 ho hb hg hat; rw [← Ny109.out] at ho; have n0_ := Aside0.mk (hb); have n1_ := Aside0.mk (Kept.of_grown (S := (fun k_ => P0_ k_)) hg (by repeat (first | (with_reducible first | exact HK.out | apply Kept.alloc | apply Kept.drewN | apply Kept.drew) | exact HK.out)) (fun k_ e_ => (HO0.out.1 k_ e_))); have n2_ := Aside0.mk (ho); clear HB; clear HK; clear HO0; have HB := n0_; have HK := n1_; have HO111 := n2_; clear n0_ n1_ n2_; clear ho hb hg hat))
          go_ret
          exact ⟨_, by first | rfl | (simp [errW_none, errW_some] <;> rfl) | (simp [*, errW_none, errW_some] <;> rfl), by (with_reducible repeat (first | apply Kd.R_alloc | apply Kd.R_drewN | apply Kd.R_drew)); exact HO111.out, by repeat (first | (with_reducible first | exact HB.out | apply below_alloc | apply pw_below_drewN | apply below_drew1) | exact HB.out), by repeat (first | (with_reducible first | exact HK.out | apply Kept.alloc | apply Kept.drewN | apply Kept.drew) | exact HK.out)⟩
        · rw [if_neg c8] at H
          exact absurd H (by simp)
    · rw [if_neg c6] at H
      exact absurd H (by simp)
def bytes_IndexByte.f (l0 : List Int) (a1 : Int) : Option (Int) := some (Lib.indexByte (Lib.bytesOf l0) a1.toNat.toUInt8)
set_option maxHeartbeats 8000000 in
set_option maxRecDepth 100000 in
theorem bytes_IndexByte.calls (A0 : Option Addr) (c0 : Nat) (l0 : List Int) (a1 : Int) (r : Int) (w : World) (hr0 : Kd.C (Kd.int .u8) w A0 l0.length l0) (hc0 : l0.length ≤ c0) (h : bytes_IndexByte.f l0 a1 = some r) :
    Calls Try.prog 86 #[.slice A0 l0.length c0, .int .u8 a1] w fun e w' => e = .returned (.int .i64 r) ∧ Drawn0 w w' := by
  obtain rfl := Option.some.inj h
  have HR := Aside0.mk hr0
  clear hr0 h
  go_enter Try.func86, Try.ntmps86
  go_wp2
  rw [run_callFunc_extern Try.func102 (by kernel_rfl) (by kernel_rfl) (by kernel_rfl) (e := Extern.BytealgIndexByte.indexByte) (by kernel_rfl), Go.Proofs.YtbkeakeldegkeaaX.run_idxb A0 c0 l0 HR.out a1]
  simp only [Result.andThen]
  rw [Oper.upon_value]
  go_wp2
  go_ret
  exact ⟨rfl, Drawn0.refl _⟩
end Go.Proofs.Ytbkeakeldegkeaa.Q
namespace Go.Proofs.Ytbkeakeldegkeaa.Q
open Go.RowKit Go.Proofs.YtbkeakeldegkeaaW.PrintWords Go.Proofs.YtbkeakeldegkeaaW.PrintLast Go.Proofs.YtbkeakeldegkeaaW.PrintMore
attribute [local go_sem] max2_int min2_int max_two min_two max_three min_three max_four min_four
set_option linter.unusedVariables false
set_option linter.unusedSimpArgs false
def hertzproto_decodeArgAppendNoPlus.l0 : Nat → List Int → List Int → Int → Option (List Int)
  | 0, _, _, _ => none
  | k + 1, x0, x1, x5 => if x5 < (x1.length : Int) then (if 0 ≤ x5 then (if (rd x1 x5) = 37 then (if (wrap64 (x5 + 2)) ≥ (x1.length : Int) then (if x5 ≤ (x1.length : Int) then ((some (x1.drop (x5 : Int).toNat : List Int)).bind fun y117 => (if x0.length + y117.length < 140737488355328 then (some (x0 ++ y117)) else (none))) else (none)) else (if 0 ≤ (wrap64 (x5 + 2)) then (if (wrap64 (x5 + 2)) < (x1.length : Int) then (if 0 ≤ (rd x1 (wrap64 (x5 + 2))) then (if (rd x1 (wrap64 (x5 + 2))) < (tab1.size : Int) then (if 0 ≤ (wrap64 (x5 + 1)) then (if (wrap64 (x5 + 1)) < (x1.length : Int) then (if 0 ≤ (rd x1 (wrap64 (x5 + 1))) then (if (rd x1 (wrap64 (x5 + 1))) < (tab1.size : Int) then (if (bt tab1 (rd x1 (wrap64 (x5 + 1)))) = 16 then (if x0.length < 140737488355328 then (hertzproto_decodeArgAppendNoPlus.l0 k (x0 ++ [37]) x1 (wrap64 (x5 + 1))) else (none)) else (if (bt tab1 (rd x1 (wrap64 (x5 + 2)))) = 16 then (if x0.length < 140737488355328 then (hertzproto_decodeArgAppendNoPlus.l0 k (x0 ++ [37]) x1 (wrap64 (x5 + 1))) else (none)) else (if x0.length < 140737488355328 then (hertzproto_decodeArgAppendNoPlus.l0 k (x0 ++ [Go.bits .or .u8 (((bt tab1 (rd x1 (wrap64 (x5 + 1)))) * 16) % 256) (bt tab1 (rd x1 (wrap64 (x5 + 2))))]) x1 (wrap64 ((wrap64 (x5 + 2)) + 1))) else (none)))) else (none)) else (none)) else (none)) else (none)) else (none)) else (none)) else (none)) else (none))) else (if x0.length < 140737488355328 then (hertzproto_decodeArgAppendNoPlus.l0 k (x0 ++ [rd x1 x5]) x1 (wrap64 (x5 + 1))) else (none))) else (none)) else (some x0)
def hertzproto_decodeArgAppendNoPlus.f (k : Nat) (l0 : List Int) (l1 : List Int) : Option (List Int) := (bytes_IndexByte.f l1 37).bind fun t112 => (if t112 < 0 then (if l0.length + l1.length < 140737488355328 then (some (l0 ++ l1)) else (none)) else (hertzproto_decodeArgAppendNoPlus.l0 k l0 l1 0))
set_option maxHeartbeats 8000000 in
set_option maxRecDepth 100000 in
theorem hertzproto_decodeArgAppendNoPlus.calls (k : Nat) (P0_ : Nat → Prop) (u9000_ : Value) (l0 : List Int) (A1 : Option Addr) (c1 : Nat) (l1 : List Int) (r : List Int) (w0 w : World) (hB : Below w0.heap.size w0 w) (ho0 : Kd.R (Kd.int .u8) 5 w w0.heap.size P0_ u9000_ l0) (hr1 : ∀ W_, Kept w W_ (fun k_ => P0_ k_) → Kd.C (Kd.int .u8) W_ A1 l1.length l1) (hc1 : l1.length ≤ c1) (h : hertzproto_decodeArgAppendNoPlus.f k l0 l1 = some r) :
    Calls Try.prog 93 #[u9000_, .slice A1 l1.length c1] w fun e w' => ∃ v0_ : Value, e = .returned (v0_) ∧ Kd.R (Kd.int .u8) 5 w' w0.heap.size (fun k_ => (P0_ k_ ∨ w.heap.size ≤ k_)) v0_ r ∧ Below w0.heap.size w0 w' ∧ Kept w w' (fun k_ => P0_ k_) := by
  have HO0 := Aside0.mk (show Kd.R (Kd.int .u8) 5 w w0.heap.size (fun k_ => (P0_ k_ ∨ w.heap.size ≤ k_)) u9000_ l0 from Kd.R_mono ho0 (fun k_ hk => (.inl hk)))
  have HR1 := Aside0.mk hr1
  have HC1 := Aside0.mk hc1
  clear hr1 hc1
  have HK := Aside0.mk (Kept.refl w (fun k_ => P0_ k_))
  have HW0 := Aside0.mk hB.size
  have HB := Aside0.mk hB
  clear hB
  have H : ((bytes_IndexByte.f l1 37).bind fun t112 => (if t112 < 0 then (if l0.length + l1.length < 140737488355328 then (some (l0 ++ l1)) else (none)) else (hertzproto_decodeArgAppendNoPlus.l0 k l0 l1 0))) = some r := h
  clear h
  replace H := Option.bind_eq_some_iff.mp H
  obtain ⟨t112, A30, H⟩ := H
  replace H : (if t112 < 0 then (if l0.length + l1.length < 140737488355328 then (some (l0 ++ l1)) else (none)) else (hertzproto_decodeArgAppendNoPlus.l0 k l0 l1 0)) = some r := H
  have A3 := Aside0.mk A30
  clear A30
  by_cases c4 : t112 < 0
  · rw [if_pos c4] at H
    have c4b0 : decide (t112 < 0) = true := decide_eq_true c4
    clear c4
    by_cases c5 : l0.length + l1.length < 140737488355328
    · rw [if_pos c5] at H
      have LMc5 := Aside0.mk c5
      clear c5
      obtain ⟨y113, hy113⟩ : ∃ y_ : List Int, y_ = (l0 ++ l1) := ⟨_, rfl⟩
      replace H : (some y113) = some r := by first | (rw [hy113]; with_reducible exact H) | (have H2_ := (Option.bind_some _ _).symm.trans H; rw [hy113]; with_reducible exact H2_) | (have H2_ := (Option.bind_some _ _).symm.trans H; with_reducible exact H2_) | with_reducible exact H | (rw [hy113]; exact H) | exact H
      have Ny113 := Aside0.mk hy113
      clear hy113
      obtain rfl := Option.some.inj H
      go_enter Try.func93, Try.ntmps93
      go_wp2_with (first | ((with_reducible refine gate_callee (f := 86) rfl ?_); refine goesL_ (some 10) rfl rfl Try.func86 (by kernel_rfl) rfl #[.slice A1 l1.length c1, .int .u8 37] rfl (by (try simp only [List.map_toArray, List.map_cons, List.map_nil]); first | done | rfl | (simp only [List.length_drop, List.length_take]; rfl)) ?_; (with_reducible refine (bytes_IndexByte.calls _ _ l1 37 t112 _ ?side1 ?side2 A3.out).mono ?_); (case side1 => exact Kd.C_kept_now HR1.out (by repeat (first | (with_reducible first | exact HK.out | apply Kept.alloc | apply Kept.drewN | apply Kept.drew) | exact HK.out))); (case side2 => exact HC1.out); rintro e w' ⟨rfl, ⟨nd, rfl⟩⟩; refine ⟨_, rfl, ?_⟩) | ((with_reducible refine gate_builtin (b := .append) (xs := #[.tmp 12, .tmp 13]) rfl ?_); at_builtin; refine Kd.R_append_rows (Kd.int .u8) (w0 := w0) w0.heap.size rfl (.tmp 12) (.tmp 13) 49 5 (.int .u8 0) 1 rfl Try.underlying49 info5 rfl (by decide) (by omega) u9000_ l0 l1 _ _ _ (fun k_ => (P0_ k_ ∨ w.heap.size ≤ k_)) (fun _ => False) rfl rfl ?aO ?aR (fun _ _ h => h) (fun _ h => h.elim) ?aF ?aB ?aS ?aL ?_; (case aR => exact Kd.C_kept_now HR1.out (by repeat (first | (with_reducible first | exact HK.out | apply Kept.alloc | apply Kept.drewN | apply Kept.drew) | exact HK.out))); (case aB => exact (by repeat (first | (with_reducible first | exact HB.out | apply below_alloc | apply pw_below_drewN | apply below_drew1) | exact HB.out))); (case aF => exact (fun k_ hk => (.inr (Nat.le_trans (by first | exact HK.out.1 | exact (show Kept w _ (fun k_ => P0_ k_) from by repeat (first | (with_reducible first | exact HK.out | apply Kept.alloc | apply Kept.drewN | apply Kept.drew) | exact HK.out)).1) hk)))); (case aO => exact (by (with_reducible repeat (first | apply Kd.R_alloc | apply Kd.R_drewN | apply Kd.R_drew)); exact HO0.out)); (case aS => exact (below_size (by repeat (first | (with_reducible first | exact HB.out | apply below_alloc | apply pw_below_drewN | apply below_drew1) | exact HB.out)))); (case aL => have := LMc5.out; omega); intro v114 w6 ho hb hg hat; rw [← Ny113.out] at ho; have n0_ := Aside0.mk (hb); have n1_ := Aside0.mk (Kept.of_grown (S := (fun k_ => P0_ k_)) hg (by repeat (first | (with_reducible first | exact HK.out | apply Kept.alloc | apply Kept.drewN | apply Kept.drew) | exact HK.out)) (fun k_ e_ => (HO0.out.1 k_ e_))); have n2_ := Aside0.mk (ho); clear HB; clear HK; clear HO0; have HB := n0_; have HK := n1_; have HO115 := n2_; clear n0_ n1_ n2_; clear ho hb hg hat))
      go_ret
      exact ⟨_, by first | rfl | (simp [errW_none, errW_some] <;> rfl) | (simp [*, errW_none, errW_some] <;> rfl), by (with_reducible repeat (first | apply Kd.R_alloc | apply Kd.R_drewN | apply Kd.R_drew)); exact HO115.out, by repeat (first | (with_reducible first | exact HB.out | apply below_alloc | apply pw_below_drewN | apply below_drew1) | exact HB.out), by repeat (first | (with_reducible first | exact HK.out | apply Kept.alloc | apply Kept.drewN | apply Kept.drew) | exact HK.out)⟩
    · rw [if_neg c5] at H
      exact absurd H (by simp)
  · rw [if_neg c4] at H
    have c4b0 : decide (t112 < 0) = false := decide_eq_false c4
    clear c4
    have H' := Aside0.mk H
    clear H
    go_enter Try.func93, Try.ntmps93
    go_wp2_with (first | ((with_reducible refine gate_callee (f := 86) rfl ?_); refine goesL_ (some 10) rfl rfl Try.func86 (by kernel_rfl) rfl #[.slice A1 l1.length c1, .int .u8 37] rfl (by (try simp only [List.map_toArray, List.map_cons, List.map_nil]); first | done | rfl | (simp only [List.length_drop, List.length_take]; rfl)) ?_; (with_reducible refine (bytes_IndexByte.calls _ _ l1 37 t112 _ ?side1 ?side2 A3.out).mono ?_); (case side1 => exact Kd.C_kept_now HR1.out (by repeat (first | (with_reducible first | exact HK.out | apply Kept.alloc | apply Kept.drewN | apply Kept.drew) | exact HK.out))); (case side2 => exact HC1.out); rintro e w' ⟨rfl, ⟨nd, rfl⟩⟩; refine ⟨_, rfl, ?_⟩))
    go_loopg [0, 5] k (fun kq v0 v5 w' => ∃ (x0_1 : List Int) (x5_1 : Int), v5 = .int .i64 x5_1 ∧ Aside0 (hertzproto_decodeArgAppendNoPlus.l0 kq x0_1 l1 x5_1 = some r) ∧ Aside0 (kq ≤ k) ∧ Aside0 (Kd.R (Kd.int .u8) 5 w' w0.heap.size (fun k_ => (P0_ k_ ∨ w.heap.size ≤ k_)) v0 x0_1) ∧ Aside0 (Kept w w' (fun k_ => P0_ k_)) ∧ Aside0 (Below w0.heap.size w0 w'))
    case atStart => exact ⟨(l0), (0), (by first | rfl | (simp; done) | (simp [*]; done) | (simp [Go.Proofs.YtbkeakeldegkeaaX.isEmpty_ne]; done)), H', ⟨Nat.le_refl _⟩, ⟨by (with_reducible repeat (first | apply Kd.R_alloc | apply Kd.R_drewN | apply Kd.R_drew)); exact HO0.out⟩, ⟨by repeat (first | (with_reducible first | exact HK.out | apply Kept.alloc | apply Kept.drewN | apply Kept.drew) | exact HK.out)⟩, ⟨by repeat (first | (with_reducible first | exact HB.out | apply below_alloc | apply pw_below_drewN | apply below_drew1) | exact HB.out)⟩⟩
    case round =>
      clear H'
      try clear c1
      try clear p2
      try clear c4
      try clear c4b0
      try clear c5
      obtain ⟨x0_1, x5_1, rfl, HA, HK1, HO_0, HK, HB⟩ := hrel
      cases gk with
      | zero => exact absurd HA.out (by simp [hertzproto_decodeArgAppendNoPlus.l0])
      | succ k1 =>
        have H := HA.out
        clear HA
        simp only [hertzproto_decodeArgAppendNoPlus.l0] at H
        by_cases c7 : x5_1 < (l1.length : Int)
        · rw [if_pos c7] at H
          have c7b0 : decide (x5_1 < (l1.length : Int)) = true := decide_eq_true c7
          clear c7
          by_cases c8 : 0 ≤ x5_1
          · rw [if_pos c8] at H
            have c8b0 : decide (0 ≤ x5_1) = true := decide_eq_true c8
            clear c8
            by_cases c9 : (rd l1 x5_1) = 37
            · rw [if_pos c9] at H
              have c9b0 : ((rd l1 x5_1) == 37) = true := beq_iff_eq.mpr c9
              have c9b1 : ((rd l1 x5_1) != 37) = false := bne_eq_false_iff_eq.mpr c9
              clear c9
              by_cases c10 : (wrap64 (x5_1 + 2)) ≥ (l1.length : Int)
              · rw [if_pos c10] at H
                have c10b0 : decide ((l1.length : Int) ≤ (wrap64 (x5_1 + 2))) = true := decide_eq_true c10
                clear c10
                have c11b0 := eq_true (of_decide_eq_true (by first | (with_reducible assumption) | assumption) : 0 ≤ x5_1)
                by_cases c12 : x5_1 ≤ (l1.length : Int)
                · rw [if_pos c12] at H
                  have c12b0 := eq_true c12
                  have c12b1 : decide (x5_1 ≤ (l1.length : Int)) = true := decide_eq_true c12
                  clear c12
                  obtain ⟨y117, hy117⟩ : ∃ y_ : List Int, y_ = (l1.drop (x5_1 : Int).toNat) := ⟨_, rfl⟩
                  replace H : (if x0_1.length + y117.length < 140737488355328 then (some (x0_1 ++ y117)) else (none)) = some r := by first | (rw [hy117]; with_reducible exact H) | (have H2_ := (Option.bind_some _ _).symm.trans H; rw [hy117]; with_reducible exact H2_) | (have H2_ := (Option.bind_some _ _).symm.trans H; with_reducible exact H2_) | with_reducible exact H | (rw [hy117]; exact H) | exact H
                  have Ny117 := Aside0.mk hy117
                  clear hy117
                  by_cases c13 : x0_1.length + y117.length < 140737488355328
                  · rw [if_pos c13] at H
                    have LMc13 := Aside0.mk c13
                    clear c13
                    obtain ⟨y121, hy121⟩ : ∃ y_ : List Int, y_ = (x0_1 ++ y117) := ⟨_, rfl⟩
                    replace H : (some y121) = some r := by first | (rw [hy121]; with_reducible exact H) | (have H2_ := (Option.bind_some _ _).symm.trans H; rw [hy121]; with_reducible exact H2_) | (have H2_ := (Option.bind_some _ _).symm.trans H; with_reducible exact H2_) | with_reducible exact H | (rw [hy121]; exact H) | exact H
                    have Ny121 := Aside0.mk hy121
                    clear hy121
                    obtain rfl := Option.some.inj H
                    have p116 : 0 ≤ (x5_1 : Int) := of_decide_eq_true (by first | (with_reducible assumption) | assumption)
                    have q116 : x5_1 < (l1.length : Int) := of_decide_eq_true (by first | (with_reducible assumption) | assumption)
                    obtain ⟨ad116, e116, hx116_0⟩ := Kd.at_int (Kd.C_kept_now HR1.out HK.out) x5_1 p116 q116
                    cases e116
                    replace p116 := eq_true p116
                    replace q116 := eq_true q116
                    have q14 : (x5_1 : Int) ≤ ((l1.length : Int) : Int) := of_decide_eq_true (by first | (with_reducible assumption) | assumption)
                    obtain ⟨i014, hi014, _, hsz14, _⟩ := info_parts info5
                    have hroom14 : l1.length ≤ c1 := HC1.out
                    have hC14 : Kd.C (Kd.int .u8) _ (some ad116) l1.length l1 := (Kd.C_kept_now HR1.out HK.out)
                    have q014 : (0 : Int) ≤ (x5_1 : Int) := of_decide_eq_true (by first | (with_reducible assumption) | assumption)
                    have hcut14 := cut_from (P := Try.prog) 49 5 .i64 Try.underlying49 hi014 1 hsz14 (some ad116) l1.length c1 x5_1 q014 q14
                    have hr14 := Kd.C_drop (m := (x5_1 : Int).toNat) (c := c1) hC14 (by omega) hroom14
                    obtain ⟨A14, hA14⟩ : ∃ zq_, zq_ = (if c1 = (x5_1 : Int).toNat then (some ad116) else ((some ad116) : Option Addr).map (·.add ((x5_1 : Int).toNat * 1))) := ⟨_, rfl⟩
                    obtain ⟨c14, hc14⟩ : ∃ zq_, zq_ = c1 - (x5_1 : Int).toNat := ⟨_, rfl⟩
                    have hy14 : y117.length = l1.length - (x5_1 : Int).toNat := (by rw [Ny117.out, List.length_drop] <;> omega)
                    rw [show (l1).drop (x5_1 : Int).toNat = y117 from Ny117.out.symm] at hr14
                    replace hr14 : Kd.C (Kd.int .u8) _ A14 y117.length y117 := (by rw [hA14]; exact hr14)
                    rw [← hy14, ← hA14, ← hc14] at hcut14
                    have HR120 := Aside0.mk hr14
                    have HC120 := Aside0.mk (show y117.length ≤ c14 from by rw [hy14, hc14]; exact Nat.sub_le_sub_right hroom14 _)
                    clear hr14 hC14 hroom14 hi014 hsz14 hc14
                    have KY14 := Aside0.mk hy14
                    have KA14 := Aside0.mk hA14
                    clear hy14 hA14
                    have KL14 := Aside0.mk (show (x5_1 : Int).toNat ≤ l1.length from by omega)
                    replace q14 := eq_true q14
                    go_wp2_with (first | ((with_reducible refine gate_builtin (b := .append) (xs := #[.tmp 32, .tmp 35]) rfl ?_); at_builtin; refine Kd.R_append_rows (Kd.int .u8) (w0 := w0) w0.heap.size rfl (.tmp 32) (.tmp 35) 49 5 (.int .u8 0) 1 rfl Try.underlying49 info5 rfl (by decide) (by omega) u0 x0_1 y117 _ _ _ (fun k_ => (P0_ k_ ∨ w.heap.size ≤ k_)) (fun _ => False) rfl rfl ?aO ?aR (fun _ _ h => h) (fun _ h => h.elim) ?aF ?aB ?aS ?aL ?_; (case aR => repeat (first | exact (by repeat (first | (with_reducible exact HR120.out) | (with_reducible refine Kd.C_alloc ?_ _) | (with_reducible refine Kd.C_drewN ?_ _) | (with_reducible refine Kd.C_drew ?_) | exact HR120.out)) | (with_reducible refine Kd.C_alloc ?_ _) | (with_reducible refine Kd.C_drewN ?_ _) | (with_reducible refine Kd.C_drew ?_))); (case aB => exact (by repeat (first | (with_reducible first | exact HB.out | apply below_alloc | apply pw_below_drewN | apply below_drew1) | exact HB.out))); (case aF => exact (fun k_ hk => (.inr (Nat.le_trans (by first | exact HK.out.1 | exact (show Kept w _ (fun k_ => P0_ k_) from by repeat (first | (with_reducible first | exact HK.out | apply Kept.alloc | apply Kept.drewN | apply Kept.drew) | exact HK.out)).1) hk)))); (case aO => exact (by (with_reducible repeat (first | apply Kd.R_alloc | apply Kd.R_drewN | apply Kd.R_drew)); exact HO_0.out)); (case aS => exact (below_size (by repeat (first | (with_reducible first | exact HB.out | apply below_alloc | apply pw_below_drewN | apply below_drew1) | exact HB.out)))); (case aL => have := LMc13.out; omega); intro v122 w15 ho hb hg hat; rw [← Ny121.out] at ho; have n0_ := Aside0.mk (hb); have n1_ := Aside0.mk (Kept.of_grown (S := (fun k_ => P0_ k_)) hg (by repeat (first | (with_reducible first | exact HK.out | apply Kept.alloc | apply Kept.drewN | apply Kept.drew) | exact HK.out)) (fun k_ e_ => (HO_0.out.1 k_ e_))); have n2_ := Aside0.mk ((show Kd.C (Kd.int .u8) w15 A14 y117.length y117 from by rw [Ny117.out, KA14.out]; exact Kd.C_drop (m := (x5_1 : Int).toNat) (c := c1) (Kd.C_kept_now HR1.out (show Kept w w15 (fun k_ => P0_ k_) from (Kept.of_grown (S := (fun k_ => P0_ k_)) hg (by repeat (first | (with_reducible first | exact HK.out | apply Kept.alloc | apply Kept.drewN | apply Kept.drew) | exact HK.out)) (fun k_ e_ => (HO_0.out.1 k_ e_))))) KL14.out HC1.out)); have n3_ := Aside0.mk (ho); clear HB; clear HK; clear HR120; clear HO_0; have HB := n0_; have HK := n1_; have HR120 := n2_; have HO123 := n3_; clear n0_ n1_ n2_ n3_; clear ho hb hg hat))
                    go_ret
                    exact ⟨_, by first | rfl | (simp [errW_none, errW_some] <;> rfl) | (simp [*, errW_none, errW_some] <;> rfl), by (with_reducible repeat (first | apply Kd.R_alloc | apply Kd.R_drewN | apply Kd.R_drew)); exact HO123.out, by repeat (first | (with_reducible first | exact HB.out | apply below_alloc | apply pw_below_drewN | apply below_drew1) | exact HB.out), by repeat (first | (with_reducible first | exact HK.out | apply Kept.alloc | apply Kept.drewN | apply Kept.drew) | exact HK.out)⟩
                  · rw [if_neg c13] at H
                    exact absurd H (by simp)
                · rw [if_neg c12] at H
                  exact absurd H (by simp)
              · rw [if_neg c10] at H
                have c10b0 : decide ((l1.length : Int) ≤ (wrap64 (x5_1 + 2))) = false := decide_eq_false c10
                clear c10
                obtain ⟨ji16, hji16⟩ : ∃ j_ : Int, (wrap64 (x5_1 + 2)) = j_ := ⟨_, rfl⟩
                replace H : (if 0 ≤ (ji16) then (if (ji16) < (l1.length : Int) then (if 0 ≤ (rd l1 (ji16)) then (if (rd l1 (ji16)) < (tab1.size : Int) then (if 0 ≤ (wrap64 (x5_1 + 1)) then (if (wrap64 (x5_1 + 1)) < (l1.length : Int) then (if 0 ≤ (rd l1 (wrap64 (x5_1 + 1))) then (if (rd l1 (wrap64 (x5_1 + 1))) < (tab1.size : Int) then (if (bt tab1 (rd l1 (wrap64 (x5_1 + 1)))) = 16 then (if x0_1.length < 140737488355328 then (hertzproto_decodeArgAppendNoPlus.l0 k1 (x0_1 ++ [37]) l1 (wrap64 (x5_1 + 1))) else (none)) else (if (bt tab1 (rd l1 (ji16))) = 16 then (if x0_1.length < 140737488355328 then (hertzproto_decodeArgAppendNoPlus.l0 k1 (x0_1 ++ [37]) l1 (wrap64 (x5_1 + 1))) else (none)) else (if x0_1.length < 140737488355328 then (hertzproto_decodeArgAppendNoPlus.l0 k1 (x0_1 ++ [Go.bits .or .u8 (((bt tab1 (rd l1 (wrap64 (x5_1 + 1)))) * 16) % 256) (bt tab1 (rd l1 (ji16)))]) l1 (wrap64 ((ji16) + 1))) else (none)))) else (none)) else (none)) else (none)) else (none)) else (none)) else (none)) else (none)) else (none)) = some r := by first | (rw [hji16] at H; exact H) | (simp only [hji16] at H ⊢; exact H)
                (try rw [hji16] at c10b0)
                have hji16w : (IntKind.i64.wrap (x5_1 + 2)) = ji16 := (i64_w _).trans hji16
                by_cases c17 : 0 ≤ (ji16)
                · rw [if_pos c17] at H
                  have c17b0 : decide (0 ≤ (ji16)) = true := decide_eq_true c17
                  clear c17
                  by_cases c18 : (ji16) < (l1.length : Int)
                  · rw [if_pos c18] at H
                    have c18b0 : decide ((ji16) < (l1.length : Int)) = true := decide_eq_true c18
                    clear c18
                    by_cases c19 : 0 ≤ (rd l1 (ji16))
                    · rw [if_pos c19] at H
                      have c19b0 : decide (0 ≤ (rd l1 (ji16))) = true := decide_eq_true c19
                      clear c19
                      by_cases c20 : (rd l1 (ji16)) < (tab1.size : Int)
                      · rw [if_pos c20] at H
                        have c20b0 : decide ((rd l1 (ji16)) < (tab1.size : Int)) = true := decide_eq_true c20
                        clear c20
                        obtain ⟨ji22, hji22⟩ : ∃ j_ : Int, (wrap64 (x5_1 + 1)) = j_ := ⟨_, rfl⟩
                        replace H : (if 0 ≤ (ji22) then (if (ji22) < (l1.length : Int) then (if 0 ≤ (rd l1 (ji22)) then (if (rd l1 (ji22)) < (tab1.size : Int) then (if (bt tab1 (rd l1 (ji22))) = 16 then (if x0_1.length < 140737488355328 then (hertzproto_decodeArgAppendNoPlus.l0 k1 (x0_1 ++ [37]) l1 ji22) else (none)) else (if (bt tab1 (rd l1 (ji16))) = 16 then (if x0_1.length < 140737488355328 then (hertzproto_decodeArgAppendNoPlus.l0 k1 (x0_1 ++ [37]) l1 ji22) else (none)) else (if x0_1.length < 140737488355328 then (hertzproto_decodeArgAppendNoPlus.l0 k1 (x0_1 ++ [Go.bits .or .u8 (((bt tab1 (rd l1 (ji22))) * 16) % 256) (bt tab1 (rd l1 (ji16)))]) l1 (wrap64 ((ji16) + 1))) else (none)))) else (none)) else (none)) else (none)) else (none)) = some r := by first | (rw [hji22] at H; exact H) | (simp only [hji22] at H ⊢; exact H)
                        have hji22w : (IntKind.i64.wrap (x5_1 + 1)) = ji22 := (i64_w _).trans hji22
                        by_cases c23 : 0 ≤ (ji22)
                        · rw [if_pos c23] at H
                          have c23b0 : decide (0 ≤ (ji22)) = true := decide_eq_true c23
                          clear c23
                          by_cases c24 : (ji22) < (l1.length : Int)
                          · rw [if_pos c24] at H
                            have c24b0 : decide ((ji22) < (l1.length : Int)) = true := decide_eq_true c24
                            clear c24
                            by_cases c25 : 0 ≤ (rd l1 (ji22))
                            · rw [if_pos c25] at H
                              have c25b0 : decide (0 ≤ (rd l1 (ji22))) = true := decide_eq_true c25
                              clear c25
                              by_cases c26 : (rd l1 (ji22)) < (tab1.size : Int)
                              · rw [if_pos c26] at H
                                have c26b0 : decide ((rd l1 (ji22)) < (tab1.size : Int)) = true := decide_eq_true c26
                                clear c26
                                by_cases c28 : (bt tab1 (rd l1 (ji22))) = 16
                                · rw [if_pos c28] at H
                                  have c28b0 : ((bt tab1 (rd l1 (ji22))) == 16) = true := beq_iff_eq.mpr c28
                                  have c28b1 : ((bt tab1 (rd l1 (ji22))) != 16) = false := bne_eq_false_iff_eq.mpr c28
                                  clear c28
                                  by_cases c29 : x0_1.length < 140737488355328
                                  · rw [if_pos c29] at H
                                    have LMc29 := Aside0.mk c29
                                    clear c29
                                    obtain ⟨y126, hy126⟩ : ∃ y_ : List Int, y_ = (x0_1 ++ [37]) := ⟨_, rfl⟩
                                    replace H : (hertzproto_decodeArgAppendNoPlus.l0 k1 y126 l1 ji22) = some r := by first | (rw [hy126]; with_reducible exact H) | (have H2_ := (Option.bind_some _ _).symm.trans H; rw [hy126]; with_reducible exact H2_) | (have H2_ := (Option.bind_some _ _).symm.trans H; with_reducible exact H2_) | with_reducible exact H | (rw [hy126]; exact H) | exact H
                                    have Ny126 := Aside0.mk hy126
                                    clear hy126
                                    have H' := Aside0.mk H
                                    clear H
                                    have p116 : 0 ≤ (x5_1 : Int) := of_decide_eq_true (by first | (with_reducible assumption) | assumption)
                                    have q116 : x5_1 < (l1.length : Int) := of_decide_eq_true (by first | (with_reducible assumption) | assumption)
                                    obtain ⟨ad116, e116, hx116_0⟩ := Kd.at_int (Kd.C_kept_now HR1.out HK.out) x5_1 p116 q116
                                    cases e116
                                    replace p116 := eq_true p116
                                    replace q116 := eq_true q116
                                    have p124 : 0 ≤ ((ji16) : Int) := of_decide_eq_true (by first | (with_reducible assumption) | assumption)
                                    have q124 : (ji16) < (l1.length : Int) := of_decide_eq_true (by first | (with_reducible assumption) | assumption)
                                    obtain ⟨ad124, e124, hx124_0⟩ := Kd.at_int (Kd.C_kept_now HR1.out HK.out) (ji16) p124 q124
                                    obtain rfl : ad116 = ad124 := (by injection e124)
                                    replace p124 := eq_true p124
                                    replace q124 := eq_true q124
                                    have p125 : 0 ≤ ((ji22) : Int) := of_decide_eq_true (by first | (with_reducible assumption) | assumption)
                                    have q125 : (ji22) < (l1.length : Int) := of_decide_eq_true (by first | (with_reducible assumption) | assumption)
                                    obtain ⟨ad125, e125, hx125_0⟩ := Kd.at_int (Kd.C_kept_now HR1.out HK.out) (ji22) p125 q125
                                    obtain rfl : ad116 = ad125 := (by injection e125)
                                    replace p125 := eq_true p125
                                    replace q125 := eq_true q125
                                    go_wp2_with (first | ((with_reducible refine gate_dst (N := 42) rfl ?_); refine Go.Proofs.YtbkeakeldegkeaaX.index_tab (some 42) rfl rfl 9 _ _ rfl Try.underlying9 tab1 (by kernel_rfl) .u8 (rd l1 (ji16)) rfl (by first | exact of_decide_eq_true (by first | (with_reducible assumption) | assumption) | exact (bt_range _ _).1 | omega) (of_decide_eq_true (by first | (with_reducible assumption) | assumption)) ?_) | ((with_reducible refine gate_dst (N := 48) rfl ?_); refine Go.Proofs.YtbkeakeldegkeaaX.index_tab (some 48) rfl rfl 9 _ _ rfl Try.underlying9 tab1 (by kernel_rfl) .u8 (rd l1 (ji22)) rfl (by first | exact of_decide_eq_true (by first | (with_reducible assumption) | assumption) | exact (bt_range _ _).1 | omega) (of_decide_eq_true (by first | (with_reducible assumption) | assumption)) ?_) | ((with_reducible refine gate_builtin (b := .append) (xs := #[.tmp 55, .tmp 56]) rfl ?_); at_builtin; refine Kd.R_append (Kd.int .u8) (w0 := w0) w0.heap.size rfl (.tmp 55) (.tmp 56) 49 5 (.int .u8 0) 1 rfl Try.underlying49 info5 rfl (by decide) (by omega) u0 x0_1 37 [.int .u8 37] (fun k_ => (P0_ k_ ∨ w.heap.size ≤ k_)) (fun _ => False) rfl rfl ?aP (fun _ hk => hk.elim) ?aF ?aO ?aB ?aS ?aL ?_; (case aP => exact rfl); (case aB => exact (by repeat (first | (with_reducible first | exact HB.out | apply below_alloc | apply pw_below_drewN | apply below_drew1) | exact HB.out))); (case aF => exact (fun k_ hk => (.inr (Nat.le_trans (by first | exact HK.out.1 | exact (show Kept w _ (fun k_ => P0_ k_) from by repeat (first | (with_reducible first | exact HK.out | apply Kept.alloc | apply Kept.drewN | apply Kept.drew) | exact HK.out)).1) hk)))); (case aO => exact (by (with_reducible repeat (first | apply Kd.R_alloc | apply Kd.R_drewN | apply Kd.R_drew)); exact HO_0.out)); (case aS => exact (below_size (by repeat (first | (with_reducible first | exact HB.out | apply below_alloc | apply pw_below_drewN | apply below_drew1) | exact HB.out)))); (case aL => have := LMc29.out; omega); intro v127 w30 ho hb hg hat; rw [← Ny126.out] at ho; have n0_ := Aside0.mk (hb); have n1_ := Aside0.mk (Kept.of_grown (S := (fun k_ => P0_ k_)) hg (by repeat (first | (with_reducible first | exact HK.out | apply Kept.alloc | apply Kept.drewN | apply Kept.drew) | exact HK.out)) (fun k_ e_ => (HO_0.out.1 k_ e_))); have n2_ := Aside0.mk (ho); clear HB; clear HK; clear HO_0; have HB := n0_; have HK := n1_; have HO128 := n2_; clear n0_ n1_ n2_; clear ho hb hg hat))
                                    go_roundg k1
                                    case measure => have := HK1.out; omega
                                    case rel => exact ⟨(y126), (ji22), (by first | rfl | (simp; done) | (simp only [← hji22] <;> (first | rfl | simp)) | (simp [*]; done) | (simp [Go.Proofs.YtbkeakeldegkeaaX.isEmpty_ne]; done)), H', ⟨by have := HK1.out; omega⟩, ⟨by (with_reducible repeat (first | apply Kd.R_alloc | apply Kd.R_drewN | apply Kd.R_drew)); exact HO128.out⟩, ⟨by repeat (first | (with_reducible first | exact HK.out | apply Kept.alloc | apply Kept.drewN | apply Kept.drew) | exact HK.out)⟩, ⟨by repeat (first | (with_reducible first | exact HB.out | apply below_alloc | apply pw_below_drewN | apply below_drew1) | exact HB.out)⟩⟩
                                  · rw [if_neg c29] at H
                                    exact absurd H (by simp)
                                · rw [if_neg c28] at H
                                  have c28b0 : ((bt tab1 (rd l1 (ji22))) == 16) = false := beq_eq_false_iff_ne.mpr c28
                                  have c28b1 : ((bt tab1 (rd l1 (ji22))) != 16) = true := bne_iff_ne.mpr c28
                                  by_cases c31 : (bt tab1 (rd l1 (ji16))) = 16
                                  · rw [if_pos c31] at H
                                    have c31b0 : ((bt tab1 (rd l1 (ji16))) == 16) = true := beq_iff_eq.mpr c31
                                    have c31b1 : ((bt tab1 (rd l1 (ji16))) != 16) = false := bne_eq_false_iff_eq.mpr c31
                                    clear c31
                                    by_cases c32 : x0_1.length < 140737488355328
                                    · rw [if_pos c32] at H
                                      have LMc32 := Aside0.mk c32
                                      clear c32
                                      obtain ⟨y129, hy129⟩ : ∃ y_ : List Int, y_ = (x0_1 ++ [37]) := ⟨_, rfl⟩
                                      replace H : (hertzproto_decodeArgAppendNoPlus.l0 k1 y129 l1 ji22) = some r := by first | (rw [hy129]; with_reducible exact H) | (have H2_ := (Option.bind_some _ _).symm.trans H; rw [hy129]; with_reducible exact H2_) | (have H2_ := (Option.bind_some _ _).symm.trans H; with_reducible exact H2_) | with_reducible exact H | (rw [hy129]; exact H) | exact H
                                      have Ny129 := Aside0.mk hy129
                                      clear hy129
                                      have H' := Aside0.mk H
                                      clear H
                                      have p116 : 0 ≤ (x5_1 : Int) := of_decide_eq_true (by first | (with_reducible assumption) | assumption)
                                      have q116 : x5_1 < (l1.length : Int) := of_decide_eq_true (by first | (with_reducible assumption) | assumption)
                                      obtain ⟨ad116, e116, hx116_0⟩ := Kd.at_int (Kd.C_kept_now HR1.out HK.out) x5_1 p116 q116
                                      cases e116
                                      replace p116 := eq_true p116
                                      replace q116 := eq_true q116
                                      have p124 : 0 ≤ ((ji16) : Int) := of_decide_eq_true (by first | (with_reducible assumption) | assumption)
                                      have q124 : (ji16) < (l1.length : Int) := of_decide_eq_true (by first | (with_reducible assumption) | assumption)
                                      obtain ⟨ad124, e124, hx124_0⟩ := Kd.at_int (Kd.C_kept_now HR1.out HK.out) (ji16) p124 q124
                                      obtain rfl : ad116 = ad124 := (by injection e124)
                                      replace p124 := eq_true p124
                                      replace q124 := eq_true q124
                                      have p125 : 0 ≤ ((ji22) : Int) := of_decide_eq_true (by first | (with_reducible assumption) | assumption)
                                      have q125 : (ji22) < (l1.length : Int) := of_decide_eq_true (by first | (with_reducible assumption) | assumption)
                                      obtain ⟨ad125, e125, hx125_0⟩ := Kd.at_int (Kd.C_kept_now HR1.out HK.out) (ji22) p125 q125
                                      obtain rfl : ad116 = ad125 := (by injection e125)
                                      replace p125 := eq_true p125
                                      replace q125 := eq_true q125
                                      go_wp2_with (first | ((with_reducible refine gate_dst (N := 42) rfl ?_); refine Go.Proofs.YtbkeakeldegkeaaX.index_tab (some 42) rfl rfl 9 _ _ rfl Try.underlying9 tab1 (by kernel_rfl) .u8 (rd l1 (ji16)) rfl (by first | exact of_decide_eq_true (by first | (with_reducible assumption) | assumption) | exact (bt_range _ _).1 | omega) (of_decide_eq_true (by first | (with_reducible assumption) | assumption)) ?_) | ((with_reducible refine gate_dst (N := 48) rfl ?_); refine Go.Proofs.YtbkeakeldegkeaaX.index_tab (some 48) rfl rfl 9 _ _ rfl Try.underlying9 tab1 (by kernel_rfl) .u8 (rd l1 (ji22)) rfl (by first | exact of_decide_eq_true (by first | (with_reducible assumption) | assumption) | exact (bt_range _ _).1 | omega) (of_decide_eq_true (by first | (with_reducible assumption) | assumption)) ?_) | ((with_reducible refine gate_builtin (b := .append) (xs := #[.tmp 55, .tmp 56]) rfl ?_); at_builtin; refine Kd.R_append (Kd.int .u8) (w0 := w0) w0.heap.size rfl (.tmp 55) (.tmp 56) 49 5 (.int .u8 0) 1 rfl Try.underlying49 info5 rfl (by decide) (by omega) u0 x0_1 37 [.int .u8 37] (fun k_ => (P0_ k_ ∨ w.heap.size ≤ k_)) (fun _ => False) rfl rfl ?aP (fun _ hk => hk.elim) ?aF ?aO ?aB ?aS ?aL ?_; (case aP => exact rfl); (case aB => exact (by repeat (first | (with_reducible first | exact HB.out | apply below_alloc | apply pw_below_drewN | apply below_drew1) | exact HB.out))); (case aF => exact (fun k_ hk => (.inr (Nat.le_trans (by first | exact HK.out.1 | exact (show Kept w _ (fun k_ => P0_ k_) from by repeat (first | (with_reducible first | exact HK.out | apply Kept.alloc | apply Kept.drewN | apply Kept.drew) | exact HK.out)).1) hk)))); (case aO => exact (by (with_reducible repeat (first | apply Kd.R_alloc | apply Kd.R_drewN | apply Kd.R_drew)); exact HO_0.out)); (case aS => exact (below_size (by repeat (first | (with_reducible first | exact HB.out | apply below_alloc | apply pw_below_drewN | apply below_drew1) | exact HB.out)))); (case aL => have := LMc32.out; omega); intro v130 w33 ho hb hg hat; rw [← Ny129.out] at ho; have n0_ := Aside0.mk (hb); have n1_ := Aside0.mk (Kept.of_grown (S := (fun k_ => P0_ k_)) hg (by repeat (first | (with_reducible first | exact HK.out | apply Kept.alloc | apply Kept.drewN | apply Kept.drew) | exact HK.out)) (fun k_ e_ => (HO_0.out.1 k_ e_))); have n2_ := Aside0.mk (ho); clear HB; clear HK; clear HO_0; have HB := n0_; have HK := n1_; have HO131 := n2_; clear n0_ n1_ n2_; clear ho hb hg hat))
                                      go_roundg k1
                                      case measure => have := HK1.out; omega
                                      case rel => exact ⟨(y129), (ji22), (by first | rfl | (simp; done) | (simp only [← hji22] <;> (first | rfl | simp)) | (simp [*]; done) | (simp [Go.Proofs.YtbkeakeldegkeaaX.isEmpty_ne]; done)), H', ⟨by have := HK1.out; omega⟩, ⟨by (with_reducible repeat (first | apply Kd.R_alloc | apply Kd.R_drewN | apply Kd.R_drew)); exact HO131.out⟩, ⟨by repeat (first | (with_reducible first | exact HK.out | apply Kept.alloc | apply Kept.drewN | apply Kept.drew) | exact HK.out)⟩, ⟨by repeat (first | (with_reducible first | exact HB.out | apply below_alloc | apply pw_below_drewN | apply below_drew1) | exact HB.out)⟩⟩
                                    · rw [if_neg c32] at H
                                      exact absurd H (by simp)
                                  · rw [if_neg c31] at H
                                    have c31b0 : ((bt tab1 (rd l1 (ji16))) == 16) = false := beq_eq_false_iff_ne.mpr c31
                                    have c31b1 : ((bt tab1 (rd l1 (ji16))) != 16) = true := bne_iff_ne.mpr c31
                                    by_cases c34 : x0_1.length < 140737488355328
                                    · rw [if_pos c34] at H
                                      have LMc34 := Aside0.mk c34
                                      clear c34
                                      obtain ⟨y132, hy132⟩ : ∃ y_ : List Int, y_ = (x0_1 ++ [Go.bits .or .u8 (((bt tab1 (rd l1 (ji22))) * 16) % 256) (bt tab1 (rd l1 (ji16)))]) := ⟨_, rfl⟩
                                      replace H : (hertzproto_decodeArgAppendNoPlus.l0 k1 y132 l1 (wrap64 ((ji16) + 1))) = some r := by first | (rw [hy132]; with_reducible exact H) | (have H2_ := (Option.bind_some _ _).symm.trans H; rw [hy132]; with_reducible exact H2_) | (have H2_ := (Option.bind_some _ _).symm.trans H; with_reducible exact H2_) | with_reducible exact H | (rw [hy132]; exact H) | exact H
                                      have Ny132 := Aside0.mk hy132
                                      clear hy132
                                      have H' := Aside0.mk H
                                      clear H
                                      have p116 : 0 ≤ (x5_1 : Int) := of_decide_eq_true (by first | (with_reducible assumption) | assumption)
                                      have q116 : x5_1 < (l1.length : Int) := of_decide_eq_true (by first | (with_reducible assumption) | assumption)
                                      obtain ⟨ad116, e116, hx116_0⟩ := Kd.at_int (Kd.C_kept_now HR1.out HK.out) x5_1 p116 q116
                                      cases e116
                                      replace p116 := eq_true p116
                                      replace q116 := eq_true q116
                                      have p124 : 0 ≤ ((ji16) : Int) := of_decide_eq_true (by first | (with_reducible assumption) | assumption)
                                      have q124 : (ji16) < (l1.length : Int) := of_decide_eq_true (by first | (with_reducible assumption) | assumption)
                                      obtain ⟨ad124, e124, hx124_0⟩ := Kd.at_int (Kd.C_kept_now HR1.out HK.out) (ji16) p124 q124
                                      obtain rfl : ad116 = ad124 := (by injection e124)
                                      replace p124 := eq_true p124
                                      replace q124 := eq_true q124
                                      have p125 : 0 ≤ ((ji22) : Int) := of_decide_eq_true (by first | (with_reducible assumption) | assumption)
                                      have q125 : (ji22) < (l1.length : Int) := of_decide_eq_true (by first | (with_reducible assumption) | assumption)
                                      obtain ⟨ad125, e125, hx125_0⟩ := Kd.at_int (Kd.C_kept_now HR1.out HK.out) (ji22) p125 q125
                                      obtain rfl : ad116 = ad125 := (by injection e125)
                                      replace p125 := eq_true p125
                                      replace q125 := eq_true q125
                                      go_wp2_with (first | ((with_reducible refine gate_dst (N := 42) rfl ?_); refine Go.Proofs.YtbkeakeldegkeaaX.index_tab (some 42) rfl rfl 9 _ _ rfl Try.underlying9 tab1 (by kernel_rfl) .u8 (rd l1 (ji16)) rfl (by first | exact of_decide_eq_true (by first | (with_reducible assumption) | assumption) | exact (bt_range _ _).1 | omega) (of_decide_eq_true (by first | (with_reducible assumption) | assumption)) ?_) | ((with_reducible refine gate_dst (N := 48) rfl ?_); refine Go.Proofs.YtbkeakeldegkeaaX.index_tab (some 48) rfl rfl 9 _ _ rfl Try.underlying9 tab1 (by kernel_rfl) .u8 (rd l1 (ji22)) rfl (by first | exact of_decide_eq_true (by first | (with_reducible assumption) | assumption) | exact (bt_range _ _).1 | omega) (of_decide_eq_true (by first | (with_reducible assumption) | assumption)) ?_) | ((with_reducible refine gate_builtin (b := .append) (xs := #[.tmp 58, .tmp 63]) rfl ?_); at_builtin; refine Kd.R_append (Kd.int .u8) (w0 := w0) w0.heap.size rfl (.tmp 58) (.tmp 63) 49 5 (.int .u8 0) 1 rfl Try.underlying49 info5 rfl (by decide) (by omega) u0 x0_1 (Go.bits .or .u8 (((bt tab1 (rd l1 (ji22))) * 16) % 256) (bt tab1 (rd l1 (ji16)))) [.int .u8 (Go.bits .or .u8 (((bt tab1 (rd l1 (ji22))) * 16) % 256) (bt tab1 (rd l1 (ji16))))] (fun k_ => (P0_ k_ ∨ w.heap.size ≤ k_)) (fun _ => False) rfl rfl ?aP (fun _ hk => hk.elim) ?aF ?aO ?aB ?aS ?aL ?_; (case aP => exact rfl); (case aB => exact (by repeat (first | (with_reducible first | exact HB.out | apply below_alloc | apply pw_below_drewN | apply below_drew1) | exact HB.out))); (case aF => exact (fun k_ hk => (.inr (Nat.le_trans (by first | exact HK.out.1 | exact (show Kept w _ (fun k_ => P0_ k_) from by repeat (first | (with_reducible first | exact HK.out | apply Kept.alloc | apply Kept.drewN | apply Kept.drew) | exact HK.out)).1) hk)))); (case aO => exact (by (with_reducible repeat (first | apply Kd.R_alloc | apply Kd.R_drewN | apply Kd.R_drew)); exact HO_0.out)); (case aS => exact (below_size (by repeat (first | (with_reducible first | exact HB.out | apply below_alloc | apply pw_below_drewN | apply below_drew1) | exact HB.out)))); (case aL => have := LMc34.out; omega); intro v133 w35 ho hb hg hat; rw [← Ny132.out] at ho; have n0_ := Aside0.mk (hb); have n1_ := Aside0.mk (Kept.of_grown (S := (fun k_ => P0_ k_)) hg (by repeat (first | (with_reducible first | exact HK.out | apply Kept.alloc | apply Kept.drewN | apply Kept.drew) | exact HK.out)) (fun k_ e_ => (HO_0.out.1 k_ e_))); have n2_ := Aside0.mk (ho); clear HB; clear HK; clear HO_0; have HB := n0_; have HK := n1_; have HO134 := n2_; clear n0_ n1_ n2_; clear ho hb hg hat))
                                      go_roundg k1
                                      case measure => have := HK1.out; omega
                                      case rel => exact ⟨(y132), (wrap64 ((ji16) + 1)), (by first | rfl | (simp; done) | (simp only [← hji16] <;> (first | rfl | simp)) | (simp [*]; done) | (simp [Go.Proofs.YtbkeakeldegkeaaX.isEmpty_ne]; done)), H', ⟨by have := HK1.out; omega⟩, ⟨by (with_reducible repeat (first | apply Kd.R_alloc | apply Kd.R_drewN | apply Kd.R_drew)); exact HO134.out⟩, ⟨by repeat (first | (with_reducible first | exact HK.out | apply Kept.alloc | apply Kept.drewN | apply Kept.drew) | exact HK.out)⟩, ⟨by repeat (first | (with_reducible first | exact HB.out | apply below_alloc | apply pw_below_drewN | apply below_drew1) | exact HB.out)⟩⟩
                                    · rw [if_neg c34] at H
                                      exact absurd H (by simp)
                              · rw [if_neg c26] at H
                                exact absurd H (by simp)
                            · rw [if_neg c25] at H
                              exact absurd H (by simp)
                          · rw [if_neg c24] at H
                            exact absurd H (by simp)
                        · rw [if_neg c23] at H
                          exact absurd H (by simp)
                      · rw [if_neg c20] at H
                        exact absurd H (by simp)
                    · rw [if_neg c19] at H
                      exact absurd H (by simp)
                  · rw [if_neg c18] at H
                    exact absurd H (by simp)
                · rw [if_neg c17] at H
                  exact absurd H (by simp)
            · rw [if_neg c9] at H
              have c9b0 : ((rd l1 x5_1) == 37) = false := beq_eq_false_iff_ne.mpr c9
              have c9b1 : ((rd l1 x5_1) != 37) = true := bne_iff_ne.mpr c9
              by_cases c36 : x0_1.length < 140737488355328
              · rw [if_pos c36] at H
                have LMc36 := Aside0.mk c36
                clear c36
                obtain ⟨y135, hy135⟩ : ∃ y_ : List Int, y_ = (x0_1 ++ [rd l1 x5_1]) := ⟨_, rfl⟩
                replace H : (hertzproto_decodeArgAppendNoPlus.l0 k1 y135 l1 (wrap64 (x5_1 + 1))) = some r := by first | (rw [hy135]; with_reducible exact H) | (have H2_ := (Option.bind_some _ _).symm.trans H; rw [hy135]; with_reducible exact H2_) | (have H2_ := (Option.bind_some _ _).symm.trans H; with_reducible exact H2_) | with_reducible exact H | (rw [hy135]; exact H) | exact H
                have Ny135 := Aside0.mk hy135
                clear hy135
                have H' := Aside0.mk H
                clear H
                have p116 : 0 ≤ (x5_1 : Int) := of_decide_eq_true (by first | (with_reducible assumption) | assumption)
                have q116 : x5_1 < (l1.length : Int) := of_decide_eq_true (by first | (with_reducible assumption) | assumption)
                obtain ⟨ad116, e116, hx116_0⟩ := Kd.at_int (Kd.C_kept_now HR1.out HK.out) x5_1 p116 q116
                cases e116
                replace p116 := eq_true p116
                replace q116 := eq_true q116
                go_wp2_with (first | ((with_reducible refine gate_builtin (b := .append) (xs := #[.tmp 67, .tmp 69]) rfl ?_); at_builtin; refine Kd.R_append (Kd.int .u8) (w0 := w0) w0.heap.size rfl (.tmp 67) (.tmp 69) 49 5 (.int .u8 0) 1 rfl Try.underlying49 info5 rfl (by decide) (by omega) u0 x0_1 (rd l1 x5_1) [.int .u8 (rd l1 x5_1)] (fun k_ => (P0_ k_ ∨ w.heap.size ≤ k_)) (fun _ => False) rfl rfl ?aP (fun _ hk => hk.elim) ?aF ?aO ?aB ?aS ?aL ?_; (case aP => exact rfl); (case aB => exact (by repeat (first | (with_reducible first | exact HB.out | apply below_alloc | apply pw_below_drewN | apply below_drew1) | exact HB.out))); (case aF => exact (fun k_ hk => (.inr (Nat.le_trans (by first | exact HK.out.1 | exact (show Kept w _ (fun k_ => P0_ k_) from by repeat (first | (with_reducible first | exact HK.out | apply Kept.alloc | apply Kept.drewN | apply Kept.drew) | exact HK.out)).1) hk)))); (case aO => exact (by (with_reducible repeat (first | apply Kd.R_alloc | apply Kd.R_drewN | apply Kd.R_drew)); exact HO_0.out)); (case aS => exact (below_size (by repeat (first | (with_reducible first | exact HB.out | apply below_alloc | apply pw_below_drewN | apply below_drew1) | exact HB.out)))); (case aL => have := LMc36.out; omega); intro v136 w37 ho hb hg hat; rw [← Ny135.out] at ho; have n0_ := Aside0.mk (hb); have n1_ := Aside0.mk (Kept.of_grown (S := (fun k_ => P0_ k_)) hg (by repeat (first | (with_reducible first | exact HK.out | apply Kept.alloc | apply Kept.drewN | apply Kept.drew) | exact HK.out)) (fun k_ e_ => (HO_0.out.1 k_ e_))); have n2_ := Aside0.mk (ho); clear HB; clear HK; clear HO_0; have HB := n0_; have HK := n1_; have HO137 := n2_; clear n0_ n1_ n2_; clear ho hb hg hat))
                go_roundg k1
                case measure => have := HK1.out; omega
                case rel => exact ⟨(y135), (wrap64 (x5_1 + 1)), (by first | rfl | (simp; done) | (simp [*]; done) | (simp [Go.Proofs.YtbkeakeldegkeaaX.isEmpty_ne]; done)), H', ⟨by have := HK1.out; omega⟩, ⟨by (with_reducible repeat (first | apply Kd.R_alloc | apply Kd.R_drewN | apply Kd.R_drew)); exact HO137.out⟩, ⟨by repeat (first | (with_reducible first | exact HK.out | apply Kept.alloc | apply Kept.drewN | apply Kept.drew) | exact HK.out)⟩, ⟨by repeat (first | (with_reducible first | exact HB.out | apply below_alloc | apply pw_below_drewN | apply below_drew1) | exact HB.out)⟩⟩
              · rw [if_neg c36] at H
                exact absurd H (by simp)
          · rw [if_neg c8] at H
            exact absurd H (by simp)
        · rw [if_neg c7] at H
          have c7b0 : decide (x5_1 < (l1.length : Int)) = false := decide_eq_false c7
          clear c7
          obtain rfl := Option.some.inj H
          go_wp2
          go_ret
          exact ⟨_, by first | rfl | (simp [errW_none, errW_some] <;> rfl) | (simp [*, errW_none, errW_some] <;> rfl), by (with_reducible repeat (first | apply Kd.R_alloc | apply Kd.R_drewN | apply Kd.R_drew)); exact HO_0.out, by repeat (first | (with_reducible first | exact HB.out | apply below_alloc | apply pw_below_drewN | apply below_drew1) | exact HB.out), by repeat (first | (with_reducible first | exact HK.out | apply Kept.alloc | apply Kept.drewN | apply Kept.drew) | exact HK.out)⟩
end Go.Proofs.Ytbkeakeldegkeaa.Q
end
section
namespace Go.Proofs.Ytbkeakeldegkeaa.Q
open Go.RowKit Go.Proofs.YtbkeakeldegkeaaW.PrintWords Go.Proofs.YtbkeakeldegkeaaW.PrintLast Go.Proofs.YtbkeakeldegkeaaW.PrintMore
attribute [local go_sem] max2_int min2_int max_two min_two max_three min_three max_four min_four
set_option linter.unusedVariables false
set_option linter.unusedSimpArgs false
theorem eqA27 (d : Nat) (w : World) (x0 y0 : ByteArray) (x1 y1 : ByteArray) (x2 y2 : ByteArray) (x3 y3 : ByteArray) (x4 y4 : ByteArray) (x5 y5 : ByteArray) (x6 y6 : ByteArray) (x7 y7 : ByteArray) :
    (Op.equalIn (d + 2) 27 (.agg #[.string x0, .string x1, .string x2, .string x3, .string x4, .string x5, .string x6, .string x7]) (.agg #[.string y0, .string y1, .string y2, .string y3, .string y4, .string y5, .string y6, .string y7])).run Try.prog w = .ok (x0.toList == y0.toList && (x1.toList == y1.toList && (x2.toList == y2.toList && (x3.toList == y3.toList && (x4.toList == y4.toList && (x5.toList == y5.toList && (x6.toList == y6.toList && (x7.toList == y7.toList)))))))) w := by
  refine eqA_of Try.underlying27 (by kernel_rfl) ?_
  refine eqf_cons (by rfl) (by go_simp; rfl) (by go_simp; rfl) (by go_simp) ?_
  refine eqf_cons (by rfl) (by go_simp; rfl) (by go_simp; rfl) (by go_simp) ?_
  refine eqf_cons (by rfl) (by go_simp; rfl) (by go_simp; rfl) (by go_simp) ?_
  refine eqf_cons (by rfl) (by go_simp; rfl) (by go_simp; rfl) (by go_simp) ?_
  refine eqf_cons (by rfl) (by go_simp; rfl) (by go_simp; rfl) (by go_simp) ?_
  refine eqf_cons (by rfl) (by go_simp; rfl) (by go_simp; rfl) (by go_simp) ?_
  refine eqf_cons (by rfl) (by go_simp; rfl) (by go_simp; rfl) (by go_simp) ?_
  exact eqf_last (by rfl) (by go_simp; rfl) (by go_simp; rfl) (by go_simp)
end Go.Proofs.Ytbkeakeldegkeaa.Q
namespace Go.Proofs.Ytbkeakeldegkeaa.Q
open Go.RowKit Go.Proofs.YtbkeakeldegkeaaW.PrintWords Go.Proofs.YtbkeakeldegkeaaW.PrintLast Go.Proofs.YtbkeakeldegkeaaW.PrintMore
attribute [local go_sem] max2_int min2_int max_two min_two max_three min_three max_four min_four
set_option linter.unusedVariables false
set_option linter.unusedSimpArgs false
def bytealg_LastIndexByte.l0 : Nat → List Int → Int → Int → Option (Int)
  | 0, _, _, _ => none
  | k + 1, x0, x1, x5 => if x5 ≥ 0 then (if 0 ≤ x5 then (if x5 < (x0.length : Int) then (if (rd x0 x5) = x1 then (some x5) else (bytealg_LastIndexByte.l0 k x0 x1 (wrap64 (x5 - 1)))) else (none)) else (none)) else (some (-1))
def bytealg_LastIndexByte.f (k : Nat) (l0 : List Int) (a1 : Int) : Option (Int) := bytealg_LastIndexByte.l0 k l0 a1 (wrap64 ((l0.length : Int) - 1))
set_option maxHeartbeats 8000000 in
set_option maxRecDepth 100000 in
theorem bytealg_LastIndexByte.calls (k : Nat) (A0 : Option Addr) (c0 : Nat) (l0 : List Int) (a1 : Int) (r : Int) (w : World) (hr0 : Kd.C (Kd.int .u8) w A0 l0.length l0) (hc0 : l0.length ≤ c0) (h : bytealg_LastIndexByte.f k l0 a1 = some r) :
    Calls Try.prog 91 #[.slice A0 l0.length c0, .int .u8 a1] w fun e w' => e = .returned (.int .i64 r) ∧ Drawn0 w w' := by
  have HR0 := Aside0.mk hr0
  have HC0 := Aside0.mk hc0
  clear hr0 hc0
  have H : (bytealg_LastIndexByte.l0 k l0 a1 (wrap64 ((l0.length : Int) - 1))) = some r := h
  clear h
  have H' := Aside0.mk H
  clear H
  go_enter Try.func91, Try.ntmps91
  go_wp2
  go_loopg [5] k (fun kq v5 w' => ∃ (x5_1 : Int), v5 = .int .i64 x5_1 ∧ Aside0 (bytealg_LastIndexByte.l0 kq l0 a1 x5_1 = some r) ∧ Aside0 (kq ≤ k) ∧ Drawn0 w w')
  case atStart => exact ⟨(wrap64 ((l0.length : Int) - 1)), (by first | rfl | (simp; done) | (simp [*]; done) | (simp [Go.Proofs.YtbkeakeldegkeaaX.isEmpty_ne]; done)), H', ⟨Nat.le_refl _⟩, by repeat (first | exact Drawn0.refl _ | apply Drawn0.step)⟩
  case round =>
    clear H'
    try clear p2
    obtain ⟨x5_1, rfl, HA, HK1, ⟨m1, rfl⟩⟩ := hrel
    cases gk with
    | zero => exact absurd HA.out (by simp [bytealg_LastIndexByte.l0])
    | succ k1 =>
      have H := HA.out
      clear HA
      simp only [bytealg_LastIndexByte.l0] at H
      by_cases c3 : x5_1 ≥ 0
      · rw [if_pos c3] at H
        have c3b0 : decide (0 ≤ x5_1) = true := decide_eq_true c3
        clear c3
        by_cases c4 : 0 ≤ x5_1
        · rw [if_pos c4] at H
          have c4b0 : decide (0 ≤ x5_1) = true := decide_eq_true c4
          clear c4
          by_cases c5 : x5_1 < (l0.length : Int)
          · rw [if_pos c5] at H
            have c5b0 : decide (x5_1 < (l0.length : Int)) = true := decide_eq_true c5
            clear c5
            by_cases c6 : (rd l0 x5_1) = a1
            · rw [if_pos c6] at H
              have c6b0 : ((rd l0 x5_1) == a1) = true := beq_iff_eq.mpr c6
              have c6b1 : ((rd l0 x5_1) != a1) = false := bne_eq_false_iff_eq.mpr c6
              clear c6
              obtain rfl := Option.some.inj H
              have p102 : 0 ≤ (x5_1 : Int) := of_decide_eq_true (by first | (with_reducible assumption) | assumption)
              have q102 : x5_1 < (l0.length : Int) := of_decide_eq_true (by first | (with_reducible assumption) | assumption)
              obtain ⟨ad102, e102, hx102_0⟩ := Kd.at_int HR0.out x5_1 p102 q102
              cases e102
              replace p102 := eq_true p102
              replace q102 := eq_true q102
              go_wp2
              go_ret
              exact ⟨by first | rfl | (simp; done) | (simp [*]; done) | (simp [Go.Proofs.YtbkeakeldegkeaaX.isEmpty_ne]; done), by repeat (first | exact Drawn0.refl _ | apply Drawn0.step)⟩
            · rw [if_neg c6] at H
              have c6b0 : ((rd l0 x5_1) == a1) = false := beq_eq_false_iff_ne.mpr c6
              have c6b1 : ((rd l0 x5_1) != a1) = true := bne_iff_ne.mpr c6
              have H' := Aside0.mk H
              clear H
              have p102 : 0 ≤ (x5_1 : Int) := of_decide_eq_true (by first | (with_reducible assumption) | assumption)
              have q102 : x5_1 < (l0.length : Int) := of_decide_eq_true (by first | (with_reducible assumption) | assumption)
              obtain ⟨ad102, e102, hx102_0⟩ := Kd.at_int HR0.out x5_1 p102 q102
              cases e102
              replace p102 := eq_true p102
              replace q102 := eq_true q102
              go_wp2
              go_roundg k1
              case measure => have := HK1.out; omega
              case rel => exact ⟨(wrap64 (x5_1 - 1)), (by first | rfl | (simp; done) | (simp [*]; done) | (simp [Go.Proofs.YtbkeakeldegkeaaX.isEmpty_ne]; done)), H', ⟨by have := HK1.out; omega⟩, by repeat (first | exact Drawn0.refl _ | apply Drawn0.step)⟩
          · rw [if_neg c5] at H
            exact absurd H (by simp)
        · rw [if_neg c4] at H
          exact absurd H (by simp)
      · rw [if_neg c3] at H
        have c3b0 : decide (0 ≤ x5_1) = false := decide_eq_false c3
        clear c3
        obtain rfl := Option.some.inj H
        go_wp2
        go_ret
        exact ⟨by first | rfl | (simp; done) | (simp [*]; done) | (simp [Go.Proofs.YtbkeakeldegkeaaX.isEmpty_ne]; done), by repeat (first | exact Drawn0.refl _ | apply Drawn0.step)⟩
def bytes_LastIndexByte.f (k : Nat) (l0 : List Int) (a1 : Int) : Option (Int) := (bytealg_LastIndexByte.f k l0 a1).bind fun t103 => (some t103)
set_option maxHeartbeats 8000000 in
set_option maxRecDepth 100000 in
theorem bytes_LastIndexByte.calls (k : Nat) (A0 : Option Addr) (c0 : Nat) (l0 : List Int) (a1 : Int) (r : Int) (w : World) (hr0 : Kd.C (Kd.int .u8) w A0 l0.length l0) (hc0 : l0.length ≤ c0) (h : bytes_LastIndexByte.f k l0 a1 = some r) :
    Calls Try.prog 71 #[.slice A0 l0.length c0, .int .u8 a1] w fun e w' => e = .returned (.int .i64 r) ∧ Drawn0 w w' := by
  have HR0 := Aside0.mk hr0
  have HC0 := Aside0.mk hc0
  clear hr0 hc0
  have H : ((bytealg_LastIndexByte.f k l0 a1).bind fun t103 => (some t103)) = some r := h
  clear h
  replace H := Option.bind_eq_some_iff.mp H
  obtain ⟨t103, A30, H⟩ := H
  replace H : (some t103) = some r := H
  have A3 := Aside0.mk A30
  clear A30
  obtain rfl := Option.some.inj H
  go_enter Try.func71, Try.ntmps71
  go_wp2_with (first | ((with_reducible refine gate_callee (f := 91) rfl ?_); refine goesL_ (some 7) rfl rfl Try.func91 (by kernel_rfl) rfl #[.slice A0 l0.length c0, .int .u8 a1] rfl (by (try simp only [List.map_toArray, List.map_cons, List.map_nil]); first | done | rfl | (simp only [List.length_drop, List.length_take]; rfl)) ?_; (with_reducible refine (bytealg_LastIndexByte.calls k _ _ l0 a1 t103 _ ?side1 ?side2 A3.out).mono ?_); (case side1 => repeat (first | exact HR0.out | (with_reducible refine Kd.C_alloc ?_ _) | (with_reducible refine Kd.C_drewN ?_ _) | (with_reducible refine Kd.C_drew ?_))); (case side2 => exact HC0.out); rintro e w' ⟨rfl, ⟨nd, rfl⟩⟩; refine ⟨_, rfl, ?_⟩))
  go_ret
  exact ⟨by first | rfl | (simp; done) | (simp [*]; done) | (simp [Go.Proofs.YtbkeakeldegkeaaX.isEmpty_ne]; done), by repeat (first | exact Drawn0.refl _ | apply Drawn0.step)⟩
def hertzproto_zzIndex.l0 : Nat → List Int → List Int → Int → Option (Int)
  | 0, _, _, _ => none
  | k + 1, x0, x1, x5 => if (wrap64 (x5 + (x1.length : Int))) ≤ (x0.length : Int) then (if 0 ≤ x5 then (if x5 ≤ (wrap64 (x5 + (x1.length : Int))) then (if (strOfNums ((x0.take ((wrap64 (x5 + (x1.length : Int))) : Int).toNat).drop (x5 : Int).toNat)).toList = (strOfNums x1).toList then (some x5) else (hertzproto_zzIndex.l0 k x0 x1 (wrap64 (x5 + 1)))) else (none)) else (none)) else (some (-1))
def hertzproto_zzIndex.f (k : Nat) (l0 : List Int) (l1 : List Int) : Option (Int) := hertzproto_zzIndex.l0 k l0 l1 0
set_option maxHeartbeats 8000000 in
set_option maxRecDepth 100000 in
theorem hertzproto_zzIndex.calls (k : Nat) (A0 : Option Addr) (c0 : Nat) (l0 : List Int) (A1 : Option Addr) (c1 : Nat) (l1 : List Int) (r : Int) (w : World) (hr0 : Kd.C (Kd.int .u8) w A0 l0.length l0) (hc0 : l0.length ≤ c0) (hr1 : Kd.C (Kd.int .u8) w A1 l1.length l1) (hc1 : l1.length ≤ c1) (h : hertzproto_zzIndex.f k l0 l1 = some r) :
    Calls Try.prog 83 #[.slice A0 l0.length c0, .slice A1 l1.length c1] w fun e w' => e = .returned (.int .i64 r) ∧ Drawn0 w w' := by
  have HR0 := Aside0.mk hr0
  have HC0 := Aside0.mk hc0
  clear hr0 hc0
  have HR1 := Aside0.mk hr1
  have HC1 := Aside0.mk hc1
  clear hr1 hc1
  have H : (hertzproto_zzIndex.l0 k l0 l1 0) = some r := h
  clear h
  have H' := Aside0.mk H
  clear H
  go_enter Try.func83, Try.ntmps83
  go_wp2
  have hw8_ := Go.Proofs.YtbkeakeldegkeaaX.wrap_u8; have hw64_ := Go.Proofs.YtbkeakeldegkeaaX.wrap_i64; repeat (go_quiet (fail); try go_wp2)
  go_loopg [5] k (fun kq v5 w' => ∃ (x5_1 : Int), v5 = .int .i64 x5_1 ∧ Aside0 (hertzproto_zzIndex.l0 kq l0 l1 x5_1 = some r) ∧ Aside0 (kq ≤ k) ∧ Drawn0 w w')
  case atStart => exact ⟨(0), (by first | rfl | (simp; done) | (simp [*]; done) | (simp [Go.Proofs.YtbkeakeldegkeaaX.isEmpty_ne]; done)), H', ⟨Nat.le_refl _⟩, by repeat (first | exact Drawn0.refl _ | apply Drawn0.step)⟩
  case round =>
    clear H'
    try clear c1
    try clear p2
    obtain ⟨x5_1, rfl, HA, HK1, ⟨m1, rfl⟩⟩ := hrel
    cases gk with
    | zero => exact absurd HA.out (by simp [hertzproto_zzIndex.l0])
    | succ k1 =>
      have H := HA.out
      clear HA
      simp only [hertzproto_zzIndex.l0] at H
      by_cases c3 : (wrap64 (x5_1 + (l1.length : Int))) ≤ (l0.length : Int)
      · rw [if_pos c3] at H
        have c3b0 : decide ((wrap64 (x5_1 + (l1.length : Int))) ≤ (l0.length : Int)) = true := decide_eq_true c3
        clear c3
        by_cases c4 : 0 ≤ x5_1
        · rw [if_pos c4] at H
          have c4b0 := eq_true c4
          have c4b1 : decide (0 ≤ x5_1) = true := decide_eq_true c4
          clear c4
          by_cases c5 : x5_1 ≤ (wrap64 (x5_1 + (l1.length : Int)))
          · rw [if_pos c5] at H
            have c5b0 := eq_true c5
            have c5b1 : decide (x5_1 ≤ (wrap64 (x5_1 + (l1.length : Int)))) = true := decide_eq_true c5
            have c6b0 := eq_true (of_decide_eq_true (by first | (with_reducible assumption) | assumption) : (wrap64 (x5_1 + (l1.length : Int))) ≤ (l0.length : Int))
            by_cases c7 : (strOfNums ((l0.take ((wrap64 (x5_1 + (l1.length : Int))) : Int).toNat).drop (x5_1 : Int).toNat)).toList = (strOfNums l1).toList
            · rw [if_pos c7] at H
              have c7b0 : ((strOfNums ((l0.take ((wrap64 (x5_1 + (l1.length : Int))) : Int).toNat).drop (x5_1 : Int).toNat)).toList == (strOfNums l1).toList) = true := beq_iff_eq.mpr c7
              have c7b1 : ((strOfNums ((l0.take ((wrap64 (x5_1 + (l1.length : Int))) : Int).toNat).drop (x5_1 : Int).toNat)).toList != (strOfNums l1).toList) = false := bne_eq_false_iff_eq.mpr c7
              clear c7
              obtain rfl := Option.some.inj H
              obtain ⟨i08, hi08, _, hsz8, _⟩ := info_parts info5
              obtain ⟨A8, hcut8, hA8, hC8⟩ := print_mid_of (P := Try.prog) (Value.int .u8) 0 49 5 .i64 .i64 Try.underlying49 hi08 hsz8 A0 c0 l0 x5_1 (wrap64 (x5_1 + (l1.length : Int))) (of_decide_eq_true (by first | (with_reducible assumption) | assumption)) (by first | omega | exact of_decide_eq_true (by first | (with_reducible assumption) | assumption)) (of_decide_eq_true (by first | (with_reducible assumption) | assumption)) HC0.out
              have HR104 := Aside0.mk (Kd.C_of_reads (h1 := fun _ => rfl) (hA8 _ (Kd.reads_of_C HR0.out)))
              have HC104 := Aside0.mk hC8
              clear hA8 hC8 hi08 hsz8
              have hcv9 := Go.Proofs.YtbkeakeldegkeaaX.C_string2 (P := Try.prog) (A := A8) (c := (c0 - x5_1.toNat)) Try.underlying49 Try.underlying5 Try.underlying9 HR104.out
              first | (generalize hnq9 : List.length (List.drop _ _) = nq9 at hcut8 hcv9) | (generalize hnq9 : List.length (List.take _ _) = nq9 at hcut8 hcv9)
              have hcv10 := Go.Proofs.YtbkeakeldegkeaaX.C_string2 (P := Try.prog) (A := A1) (c := c1) Try.underlying49 Try.underlying5 Try.underlying9 HR1.out
              go_wp2
              have hw8_ := Go.Proofs.YtbkeakeldegkeaaX.wrap_u8; have hw64_ := Go.Proofs.YtbkeakeldegkeaaX.wrap_i64; repeat (go_quiet (fail); try go_wp2)
              go_ret
              exact ⟨by first | rfl | (simp; done) | (simp [*]; done) | (simp [Go.Proofs.YtbkeakeldegkeaaX.isEmpty_ne]; done), by repeat (first | exact Drawn0.refl _ | apply Drawn0.step)⟩
            · rw [if_neg c7] at H
              have c7b0 : ((strOfNums ((l0.take ((wrap64 (x5_1 + (l1.length : Int))) : Int).toNat).drop (x5_1 : Int).toNat)).toList == (strOfNums l1).toList) = false := beq_eq_false_iff_ne.mpr c7
              have c7b1 : ((strOfNums ((l0.take ((wrap64 (x5_1 + (l1.length : Int))) : Int).toNat).drop (x5_1 : Int).toNat)).toList != (strOfNums l1).toList) = true := bne_iff_ne.mpr c7
              have H' := Aside0.mk H
              clear H
              obtain ⟨i011, hi011, _, hsz11, _⟩ := info_parts info5
              obtain ⟨A11, hcut11, hA11, hC11⟩ := print_mid_of (P := Try.prog) (Value.int .u8) 0 49 5 .i64 .i64 Try.underlying49 hi011 hsz11 A0 c0 l0 x5_1 (wrap64 (x5_1 + (l1.length : Int))) (of_decide_eq_true (by first | (with_reducible assumption) | assumption)) (by first | omega | exact of_decide_eq_true (by first | (with_reducible assumption) | assumption)) (of_decide_eq_true (by first | (with_reducible assumption) | assumption)) HC0.out
              have HR104 := Aside0.mk (Kd.C_of_reads (h1 := fun _ => rfl) (hA11 _ (Kd.reads_of_C HR0.out)))
              have HC104 := Aside0.mk hC11
              clear hA11 hC11 hi011 hsz11
              have hcv12 := Go.Proofs.YtbkeakeldegkeaaX.C_string2 (P := Try.prog) (A := A11) (c := (c0 - x5_1.toNat)) Try.underlying49 Try.underlying5 Try.underlying9 HR104.out
              first | (generalize hnq12 : List.length (List.drop _ _) = nq12 at hcut11 hcv12) | (generalize hnq12 : List.length (List.take _ _) = nq12 at hcut11 hcv12)
              have hcv13 := Go.Proofs.YtbkeakeldegkeaaX.C_string2 (P := Try.prog) (A := A1) (c := c1) Try.underlying49 Try.underlying5 Try.underlying9 HR1.out
              go_wp2
              have hw8_ := Go.Proofs.YtbkeakeldegkeaaX.wrap_u8; have hw64_ := Go.Proofs.YtbkeakeldegkeaaX.wrap_i64; repeat (go_quiet (fail); try go_wp2)
              go_roundg k1
              case measure => have := HK1.out; omega
              case rel => exact ⟨(wrap64 (x5_1 + 1)), (by first | rfl | (simp; done) | (simp [*]; done) | (simp [Go.Proofs.YtbkeakeldegkeaaX.isEmpty_ne]; done)), H', ⟨by have := HK1.out; omega⟩, by repeat (first | exact Drawn0.refl _ | apply Drawn0.step)⟩
          · rw [if_neg c5] at H
            exact absurd H (by simp)
        · rw [if_neg c4] at H
          exact absurd H (by simp)
      · rw [if_neg c3] at H
        have c3b0 : decide ((wrap64 (x5_1 + (l1.length : Int))) ≤ (l0.length : Int)) = false := decide_eq_false c3
        clear c3
        obtain rfl := Option.some.inj H
        go_wp2
        have hw8_ := Go.Proofs.YtbkeakeldegkeaaX.wrap_u8; have hw64_ := Go.Proofs.YtbkeakeldegkeaaX.wrap_i64; repeat (go_quiet (fail); try go_wp2)
        go_ret
        exact ⟨by first | rfl | (simp; done) | (simp [*]; done) | (simp [Go.Proofs.YtbkeakeldegkeaaX.isEmpty_ne]; done), by repeat (first | exact Drawn0.refl _ | apply Drawn0.step)⟩
end Go.Proofs.Ytbkeakeldegkeaa.Q
end
section
namespace Go.Proofs.Ytbkeakeldegkeaa.SpA
open Go.RowKit Go.Proofs.Ytbkeakeldegkeaa.Q Go.Proofs.YtbkeakeldegkeaaW.PrintWords Go.Proofs.YtbkeakeldegkeaaW.PrintLast Go.Proofs.YtbkeakeldegkeaaKit
def ix (sub : List UInt8) : List UInt8 → Nat → Int
  | [], n => if sub = [] then n else -1
  | c :: t, n => if sub.isPrefixOf (c :: t) = true then n else ix sub t (n + 1)
theorem ix_short (sub : List UInt8) : ∀ (l : List UInt8) (n : Nat), l.length < sub.length → ix sub l n = -1
  | [], n, h => by rw [ix, if_neg (by intro e; rw [e] at h; simp at h)]
  | c :: t, n, h => by
    rw [ix, if_neg, ix_short sub t (n + 1) (by simp at h; omega)]
    intro e
    have := (List.isPrefixOf_iff_prefix.1 e).length_le
    omega
theorem toI_take (l : List UInt8) (n : Nat) : (toI l).take n = toI (l.take n) := by simp [toI, List.map_take]
theorem toI_drop (l : List UInt8) (n : Nat) : (toI l).drop n = toI (l.drop n) := by simp [toI, List.map_drop]
theorem zz_l (l sub : List UInt8) (hs : sub ≠ []) (hl : l.length ≤ 4611686018427387904) (hm : sub.length ≤ 4611686018427387) : ∀ (suf pre : List UInt8), l = pre ++ suf →
    Ev (fun k => hertzproto_zzIndex.l0 k (toI l) (toI sub) pre.length) (ix sub suf pre.length) := by
  have hp : 0 < sub.length := List.length_pos_iff.2 hs
  intro suf
  induction suf with
  | nil =>
    intro pre h
    have hlp : pre.length = l.length := by rw [h]; simp
    rw [ix_short sub [] _ (by simpa using hp)]
    refine Ev.step (f := fun _ => some (-1)) (fun k => ?_) (Ev.now _)
    simp only [hertzproto_zzIndex.l0, toI_length]
    rw [wrap_id (by omega) (by omega), if_neg (by omega)]
  | cons c t ih =>
    intro pre h
    have hlp : l.length = pre.length + (t.length + 1) := by rw [h]; simp
    by_cases hc : pre.length + sub.length ≤ l.length
    · have hcut : strOfNums (((toI l).take (pre.length + sub.length)).drop pre.length) = strOfNums (toI ((c :: t).take sub.length)) := by
        rw [toI_take, toI_drop, h, List.take_append, List.drop_append]
        simp
        rw [List.drop_of_length_le (by simp)]
        simp
      by_cases hq : sub.isPrefixOf (c :: t) = true
      · have he : (c :: t).take sub.length = sub := (List.prefix_iff_eq_take.1 (List.isPrefixOf_iff_prefix.1 hq)).symm
        rw [ix, if_pos hq]
        refine Ev.step (f := fun _ => some (pre.length : Int)) (fun k => ?_) (Ev.now _)
        simp only [hertzproto_zzIndex.l0, toI_length]
        rw [wrap_id (by omega) (by omega), if_pos (by omega), if_pos (by omega), if_pos (by omega)]
        rw [show ((pre.length : Int) + (sub.length : Int)).toNat = pre.length + sub.length by omega, show (pre.length : Int).toNat = pre.length by omega, hcut, he, if_pos rfl]
      · have he : ¬ (c :: t).take sub.length = sub := fun e => hq (List.isPrefixOf_iff_prefix.2 (List.prefix_iff_eq_take.2 e.symm))
        rw [ix, if_neg hq]
        have ih' := ih (pre ++ [c]) (by rw [h]; simp)
        rw [show (pre ++ [c]).length = pre.length + 1 by simp] at ih'
        refine Ev.step (fun k => ?_) ih'
        simp only [hertzproto_zzIndex.l0, toI_length]
        rw [wrap_id (by omega) (by omega), if_pos (by omega), if_pos (by omega), if_pos (by omega)]
        rw [show ((pre.length : Int) + (sub.length : Int)).toNat = pre.length + sub.length by omega, show (pre.length : Int).toNat = pre.length by omega, hcut]
        rw [if_neg, wrap_id (by omega) (by omega)]
        · rfl
        · rw [tl, tl, L_strOf, L_strOf]
          exact he
    · rw [ix_short sub (c :: t) _ (by simp; omega)]
      refine Ev.step (f := fun _ => some (-1)) (fun k => ?_) (Ev.now _)
      simp only [hertzproto_zzIndex.l0, toI_length]
      rw [wrap_id (by omega) (by omega), if_neg (by omega)]
theorem zzIndex (l sub : List UInt8) (hs : sub ≠ []) (hl : l.length ≤ 4611686018427387904) (hm : sub.length ≤ 4611686018427387) : Ev (fun k => hertzproto_zzIndex.f k (toI l) (toI sub)) (ix sub l 0) := zz_l l sub hs hl hm l [] rfl
def lastB (l : List UInt8) (c : UInt8) : Nat → Int
  | 0 => -1
  | n + 1 => if l.getD n 0 = c then n else lastB l c n
end Go.Proofs.Ytbkeakeldegkeaa.SpA
end
section
namespace Go.Proofs.Ytbkeakeldegkeaa.Cl
def splitS : List UInt8 → List (List UInt8)
  | [] => [[]]
  | c :: t => if c = 47 then [] :: splitS t else match splitS t with
    | [] => [[c]]
    | h :: r => (c :: h) :: r
theorem splitS_ne : ∀ l, splitS l ≠ []
  | [] => by simp [splitS]
  | c :: t => by
    unfold splitS
    split
    · simp
    · split <;> simp
theorem splitS_app (b : List UInt8) : ∀ a, splitS (a ++ 47 :: b) = splitS a ++ splitS b
  | [] => by simp [splitS]
  | c :: t => by
    have ih := splitS_app b t
    by_cases hc : c = 47
    · simp [splitS, hc, ih]
    · simp only [List.cons_append, splitS, if_neg hc, ih]
      cases h : splitS t with
      | nil => exact absurd h (splitS_ne t)
      | cons x y => simp
theorem splitS_word : ∀ a : List UInt8, (47 : UInt8) ∉ a → splitS a = [a]
  | [], _ => rfl
  | c :: t, h => by
    have hc : ¬ c = 47 := fun e => h (by simp [e])
    have ih := splitS_word t (fun e => h (by simp [e]))
    simp [splitS, hc, ih]
theorem splitS_free : ∀ (l q : List UInt8), q ∈ splitS l → (47 : UInt8) ∉ q
  | [], q, h => by simp [splitS] at h; simp [h]
  | c :: t, q, h => by
    have ih := splitS_free t
    by_cases hc : c = 47
    · simp only [splitS, if_pos hc, List.mem_cons] at h
      rcases h with h | h
      · simp [h]
      · exact ih q h
    · cases hs : splitS t with
      | nil => exact absurd hs (splitS_ne t)
      | cons x y =>
        simp only [splitS, if_neg hc, hs, List.mem_cons] at h
        rcases h with h | h
        · have := ih x (by rw [hs]; simp)
          rw [h]
          simp only [List.mem_cons, not_or]
          exact ⟨fun e => hc e.symm, this⟩
        · exact ih q (by rw [hs]; simp [h])
def joinS (S : List (List UInt8)) : List UInt8 := S.flatMap (47 :: ·)
theorem joinS_cons (q : List UInt8) (S : List (List UInt8)) : joinS (q :: S) = 47 :: q ++ joinS S := by simp [joinS]
theorem joinS_nil : joinS [] = [] := rfl
theorem joinS_app (S T : List (List UInt8)) : joinS (S ++ T) = joinS S ++ joinS T := by simp [joinS]
theorem join_split : ∀ l, joinS (splitS l) = 47 :: l
  | [] => by simp [splitS, joinS]
  | c :: t => by
    have ih := join_split t
    by_cases hc : c = 47
    · simp [splitS, hc, joinS_cons, ih]
    · cases hs : splitS t with
      | nil => exact absurd hs (splitS_ne t)
      | cons x y =>
        rw [hs, joinS_cons] at ih
        simp only [splitS, if_neg hc, hs, joinS_cons]
        simp at ih ⊢
        exact ih
theorem split_join : ∀ S : List (List UInt8), (∀ q ∈ S, (47 : UInt8) ∉ q) → splitS (joinS S) = [] :: S
  | [], _ => rfl
  | q :: S, h => by
    have ih := split_join S (fun x hx => h x (by simp [hx]))
    rw [joinS_cons]
    cases S with
    | nil => simp [splitS, joinS_nil, splitS_word q (h q (by simp))]
    | cons r R =>
      rw [joinS_cons] at ih ⊢
      have e : (47 : UInt8) :: q ++ (47 :: r ++ joinS R) = (47 :: q) ++ 47 :: (r ++ joinS R) := by simp
      rw [e, splitS_app]
      have e2 : splitS (47 :: (r ++ joinS R)) = [] :: splitS (r ++ joinS R) := by simp [splitS]
      rw [show (47 : UInt8) :: r ++ joinS R = 47 :: (r ++ joinS R) by simp, e2] at ih
      have e3 := List.cons.inj ih
      rw [e3.2]
      simp [splitS, splitS_word q (h q (by simp))]
def stepK (k : List (List UInt8)) (p : List UInt8) : List (List UInt8) := if p = [] ∨ p = [46] then k else if p = [46, 46] then k.dropLast else k ++ [p]
def good (q : List UInt8) : Prop := q ≠ [] ∧ q ≠ [46] ∧ q ≠ [46, 46]
theorem stepK_good (k : List (List UInt8)) (q : List UInt8) (h : good q) : stepK k q = k ++ [q] := by
  unfold stepK
  rw [if_neg (fun e => e.elim h.1 h.2.1), if_neg h.2.2]
theorem fold_good : ∀ (S k : List (List UInt8)), (∀ q ∈ S, good q) → S.foldl stepK k = k ++ S
  | [], k, _ => by simp
  | q :: S, k, h => by
    rw [List.foldl_cons, stepK_good k q (h q (by simp)), fold_good S _ (fun x hx => h x (by simp [hx]))]
    simp
theorem fold_keeps (P : List UInt8 → Prop) : ∀ (S k : List (List UInt8)), (∀ q ∈ S, P q) → (∀ q ∈ k, P q ∧ good q) → ∀ q ∈ S.foldl stepK k, P q ∧ good q
  | [], _, _, hk => hk
  | p :: S, k, h, hk => by
    rw [List.foldl_cons]
    refine fold_keeps P S _ (fun x hx => h x (by simp [hx])) fun q hq => ?_
    unfold stepK at hq
    split at hq
    · exact hk q hq
    · rename_i h1
      split at hq
      · exact hk q (List.dropLast_subset _ hq)
      · rename_i h2
        rw [List.mem_append] at hq
        rcases hq with hq | hq
        · exact hk q hq
        · have : q = p := by simpa using hq
          subst this
          exact ⟨h q (by simp), fun e => h1 (.inl e), fun e => h1 (.inr e), h2⟩
def keepK (l : List UInt8) : List (List UInt8) := (splitS l).foldl stepK []
def finK (k : List (List UInt8)) (last : List UInt8) : List UInt8 := if last = [46, 46] then joinS (k.dropLast ++ [[]]) else joinS (k ++ [last])
def cleanK (l : List UInt8) : List UInt8 := finK ((splitS l).dropLast.foldl stepK []) ((splitS l).getLastD [])
theorem keep_app (a b : List UInt8) : keepK (a ++ 47 :: b) = (splitS b).foldl stepK (keepK a) := by rw [keepK, splitS_app, List.foldl_append]; rfl
theorem getLastD_app {α} (d : α) : ∀ (a b : List α), b ≠ [] → (a ++ b).getLastD d = b.getLastD d := by
  intro a b h
  rw [List.getLastD_eq_getLast?, List.getLastD_eq_getLast?, List.getLast?_append]
  cases hb : b.getLast? with
  | none => exact absurd (List.getLast?_eq_none_iff.1 hb) h
  | some x => simp
theorem clean_app (a b : List UInt8) : cleanK (a ++ 47 :: b) = finK ((splitS b).dropLast.foldl stepK (keepK a)) ((splitS b).getLastD []) := by
  rw [cleanK, splitS_app, List.dropLast_append_of_ne_nil (splitS_ne b), List.foldl_append, getLastD_app _ _ _ (splitS_ne b)]
  rfl
theorem clean_dup (a b : List UInt8) : cleanK (a ++ 47 :: 47 :: b) = cleanK (a ++ 47 :: b) := by
  have e : a ++ 47 :: 47 :: b = (a ++ 47 :: []) ++ 47 :: b := by simp
  rw [e, clean_app, clean_app, keep_app]
  simp [splitS, stepK]
theorem clean_dot (a b : List UInt8) : cleanK (a ++ 47 :: 46 :: 47 :: b) = cleanK (a ++ 47 :: b) := by
  have e : a ++ 47 :: 46 :: 47 :: b = (a ++ 47 :: [46]) ++ 47 :: b := by simp
  rw [e, clean_app, clean_app, keep_app]
  simp [splitS, stepK]
theorem clean_up (p x b : List UInt8) (hx : (47 : UInt8) ∉ x) (hg : good x) : cleanK (p ++ 47 :: x ++ 47 :: 46 :: 46 :: 47 :: b) = cleanK (p ++ 47 :: b) := by
  have e : p ++ 47 :: x ++ 47 :: 46 :: 46 :: 47 :: b = ((p ++ 47 :: x) ++ 47 :: [46, 46]) ++ 47 :: b := by simp
  rw [e, clean_app, clean_app, keep_app, keep_app, splitS_word x hx]
  have : splitS [46, 46] = [[46, 46]] := by decide
  rw [this, List.foldl_cons, List.foldl_nil, List.foldl_cons, List.foldl_nil, stepK_good _ _ hg]
  simp [stepK]
theorem clean_up0 (b : List UInt8) : cleanK (47 :: 46 :: 46 :: 47 :: b) = cleanK (47 :: b) := by
  have e : (47 : UInt8) :: 46 :: 46 :: 47 :: b = ([] ++ 47 :: [46, 46]) ++ 47 :: b := by simp
  rw [e, clean_app, keep_app, show (47 : UInt8) :: b = [] ++ 47 :: b by simp, clean_app]
  have : splitS [46, 46] = [[46, 46]] := by decide
  rw [this]
  simp [keepK, splitS, stepK]
structure Free (l : List UInt8) : Prop where
  dup : ∀ a b, l ≠ a ++ 47 :: 47 :: b
  dot : ∀ a b, l ≠ a ++ 47 :: 46 :: 47 :: b
  up : ∀ a b, l ≠ a ++ 47 :: 46 :: 46 :: 47 :: b
theorem Free.part (l a q b : List UInt8) (h : Free l) (e : l = a ++ 47 :: q ++ 47 :: b) : good q := by
  refine ⟨fun hq => h.dup a b ?_, fun hq => h.dot a b ?_, fun hq => h.up a b ?_⟩ <;> (rw [e, hq]; simp)
theorem joined_good (S : List (List UInt8)) (b : List UInt8) (h : Free (joinS S ++ 47 :: b)) : ∀ q ∈ S, good q := by
  intro q hq
  obtain ⟨S1, S2, rfl⟩ := List.append_of_mem hq
  rw [joinS_app, joinS_cons] at h
  cases S2 with
  | nil => exact h.part _ (joinS S1) q b (by simp [joinS_nil])
  | cons r R => exact h.part _ (joinS S1) q (r ++ joinS R ++ 47 :: b) (by simp [joinS_cons])
theorem keep_joined (S : List (List UInt8)) (hS : ∀ q ∈ S, (47 : UInt8) ∉ q) (hg : ∀ q ∈ S, good q) : keepK (joinS S) = S := by
  rw [keepK, split_join S hS, List.foldl_cons, fold_good S _ hg]
  simp [stepK]
theorem clean_joined (S : List (List UInt8)) (last : List UInt8) (hS : ∀ q ∈ S, (47 : UInt8) ∉ q) (hg : ∀ q ∈ S, good q) (hl : (47 : UInt8) ∉ last) : cleanK (joinS (S ++ [last])) = finK S last := by
  rw [joinS_app, joinS_cons, joinS_nil]
  rw [show joinS S ++ (47 :: last ++ []) = joinS S ++ 47 :: last by simp, clean_app, splitS_word _ hl, keep_joined S hS hg]
  rfl
theorem clean_stays (l : List UInt8) (h : Free (47 :: l)) (he : ∀ a, 47 :: l ≠ a ++ [47, 46, 46]) : cleanK (47 :: l) = 47 :: l := by
  have hj := join_split l
  have hne := splitS_ne l
  obtain ⟨S, last, hs⟩ : ∃ S last, splitS l = S ++ [last] := ⟨_, _, (List.dropLast_concat_getLast hne).symm⟩
  have hf : ∀ q ∈ S ++ [last], (47 : UInt8) ∉ q := fun q hq => splitS_free l q (hs ▸ hq)
  rw [hs] at hj
  rw [← hj] at h he ⊢
  have hg : ∀ q ∈ S, good q := by
    refine joined_good S last ?_
    rw [joinS_app, joinS_cons, joinS_nil] at h
    simpa using h
  rw [clean_joined S last (fun q hq => hf q (by simp [hq])) hg (hf last (by simp)), finK, if_neg]
  intro e
  exact he (joinS S) (by rw [joinS_app, e, joinS_cons, joinS_nil]; simp)
theorem clean_end (p x : List UInt8) (h : Free (p ++ 47 :: x ++ [47, 46, 46])) (hx : (47 : UInt8) ∉ x) (hp : p = [] ∨ ∃ q, p = 47 :: q) : cleanK (p ++ 47 :: x ++ [47, 46, 46]) = p ++ [47] := by
  have hgx : good x := h.part _ p x [46, 46] rfl
  have hk : joinS (keepK p) = p := by
    rcases hp with rfl | ⟨q, rfl⟩
    · rfl
    · have hj := join_split q
      have hg : ∀ y ∈ splitS q, good y := joined_good (splitS q) (x ++ [47, 46, 46]) (by rw [hj]; simpa using h)
      rw [← hj, keep_joined _ (splitS_free q) hg]
  rw [show p ++ 47 :: x ++ [47, 46, 46] = (p ++ 47 :: x) ++ 47 :: [46, 46] by simp, clean_app, keep_app, splitS_word x hx]
  have : splitS [46, 46] = [[46, 46]] := by decide
  rw [this, List.foldl_cons, List.foldl_nil, stepK_good _ _ hgx]
  simp [finK, joinS_app, joinS_cons, joinS_nil, hk]
theorem clean_end0 : cleanK [47, 46, 46] = [47] := by decide
theorem clean_form (l : List UInt8) : ∃ S last, cleanK l = joinS (S ++ [last]) ∧ (∀ q ∈ S, (47 : UInt8) ∉ q ∧ good q) ∧ (47 : UInt8) ∉ last ∧ last ≠ [46, 46] := by
  have hf := fold_keeps (fun q => (47 : UInt8) ∉ q) (splitS l).dropLast [] (fun q hq => splitS_free l q (List.dropLast_subset _ hq)) (by simp)
  unfold cleanK finK
  split
  · exact ⟨_, [], rfl, fun q hq => hf q (List.dropLast_subset _ hq), by simp, by decide⟩
  · rename_i h
    refine ⟨_, _, rfl, hf, ?_, h⟩
    have hne := splitS_ne l
    rw [List.getLastD_eq_getLast?, List.getLast?_eq_some_getLast hne]
    exact splitS_free l _ (List.getLast_mem hne)
theorem joinS_slash (S : List (List UInt8)) (last : List UInt8) : ∃ t, joinS (S ++ [last]) = 47 :: t := by
  cases S with
  | nil => exact ⟨last, by simp [joinS]⟩
  | cons q S => exact ⟨q ++ joinS (S ++ [last]), by simp [joinS_cons]⟩
theorem clean_slash (l : List UInt8) : ∃ t, cleanK l = 47 :: t := by
  obtain ⟨S, last, e, _⟩ := clean_form l
  rw [e]
  exact joinS_slash S last
theorem clean_again (l : List UInt8) : cleanK (cleanK l) = cleanK l := by
  obtain ⟨S, last, e, h1, h2, h3⟩ := clean_form l
  rw [e, clean_joined S last (fun q hq => (h1 q hq).1) (fun q hq => (h1 q hq).2) h2, finK, if_neg h3]
theorem clean_words (S : List (List UInt8)) (last : List UInt8) (h1 : ∀ q ∈ S, (47 : UInt8) ∉ q ∧ good q) (h2 : (47 : UInt8) ∉ last) (h3 : last ≠ [46, 46]) : cleanK (joinS (S ++ [last])) = joinS (S ++ [last]) := by
  rw [clean_joined S last (fun q hq => (h1 q hq).1) (fun q hq => (h1 q hq).2) h2, finK, if_neg h3]
theorem shift_free2 (p m b : List UInt8) (h : ∀ a c, p ++ 47 :: m ++ 47 :: b ≠ a ++ 47 :: 47 :: c) : ∀ a c, p ++ 47 :: b ≠ a ++ 47 :: 47 :: c := by
  intro a c e
  rcases List.append_eq_append_iff.1 e with ⟨t, h1, h2⟩ | ⟨t, h1, h2⟩
  · cases t with
    | nil =>
      simp at h1 h2
      exact h (p ++ 47 :: m) c (by rw [h2])
    | cons x t =>
      simp at h2
      exact h (p ++ 47 :: m ++ 47 :: t) c (by rw [h2.2]; simp)
  · cases t with
    | nil =>
      simp at h1 h2
      exact h (p ++ 47 :: m) c (by rw [h2])
    | cons x t =>
      simp at h2
      cases t with
      | nil =>
        simp at h2
        refine h a (m ++ 47 :: b) ?_
        rw [h1, ← h2.1]; simp
      | cons y t =>
        simp at h2
        exact h a (t ++ 47 :: (m ++ 47 :: b)) (by rw [h1, ← h2.1, ← h2.2.1]; simp)
theorem shift_free3 (p m b : List UInt8) (h : ∀ a c, p ++ 47 :: m ++ 47 :: b ≠ a ++ 47 :: 46 :: 47 :: c) : ∀ a c, p ++ 47 :: b ≠ a ++ 47 :: 46 :: 47 :: c := by
  intro a c e
  rcases List.append_eq_append_iff.1 e with ⟨t, h1, h2⟩ | ⟨t, h1, h2⟩
  · cases t with
    | nil =>
      simp at h1 h2
      exact h (p ++ 47 :: m) c (by rw [h2])
    | cons x t =>
      simp at h2
      exact h (p ++ 47 :: m ++ 47 :: t) c (by rw [h2.2]; simp)
  · cases t with
    | nil =>
      simp at h1 h2
      exact h (p ++ 47 :: m) c (by rw [h2])
    | cons x t =>
      simp at h2
      cases t with
      | nil => simp at h2
      | cons y t =>
        simp at h2
        cases t with
        | nil =>
          simp at h2
          exact h a (m ++ 47 :: b) (by rw [h1, ← h2.1, ← h2.2.1]; simp)
        | cons z t =>
          simp at h2
          exact h a (t ++ 47 :: (m ++ 47 :: b)) (by rw [h1, ← h2.1, ← h2.2.1, ← h2.2.2.1]; simp)
end Go.Proofs.Ytbkeakeldegkeaa.Cl
end
section
namespace Go.Proofs.Ytbkeakeldegkeaa.SpA
open Go.RowKit Go.Proofs.Ytbkeakeldegkeaa.Q Go.Proofs.YtbkeakeldegkeaaW.PrintWords Go.Proofs.YtbkeakeldegkeaaW.PrintLast Go.Proofs.YtbkeakeldegkeaaKit
def hx (c : UInt8) : Int := bt tab1 (c.toNat : Int)
def hx2 (x y : UInt8) : UInt8 := (Go.bits .or .u8 ((hx x * 16) % 256) (hx y)).toNat.toUInt8
def dec : List UInt8 → List UInt8
  | [] => []
  | [c] => [c]
  | [c, d] => [c, d]
  | c :: x :: y :: r => if c = 37 then (if hx x = 16 ∨ hx y = 16 then 37 :: dec (x :: y :: r) else hx2 x y :: dec r) else c :: dec (x :: y :: r)
termination_by l => l.length
theorem dec_plain (c : UInt8) (hc : c ≠ 37) : ∀ t, dec (c :: t) = c :: dec t
  | [] => by simp [dec]
  | [d] => by simp [dec]
  | x :: y :: r => by rw [dec, if_neg hc]
theorem dec_short (l : List UInt8) (h : l.length ≤ 2) : dec l = l := by
  match l, h with
  | [], _ => simp [dec]
  | [c], _ => simp [dec]
  | [c, d], _ => simp [dec]
theorem dec_none : ∀ (l : List UInt8), (37 : UInt8) ∉ l → dec l = l
  | [], _ => by simp [dec]
  | c :: t, h => by
    rw [dec_plain c (fun e => h (by simp [e])), dec_none t (fun e => h (by simp [e]))]
theorem tab_size : (tab1.size : Int) = 256 := by decide +kernel
theorem hx_all : ∀ c : Fin 256, 0 ≤ bt tab1 ((c : Nat) : Int) ∧ bt tab1 ((c : Nat) : Int) ≤ 16 := by decide +kernel
theorem hx_range (c : UInt8) : 0 ≤ hx c ∧ hx c ≤ 16 := hx_all ⟨c.toNat, c.toNat_lt⟩
set_option maxRecDepth 100000 in
set_option maxHeartbeats 4000000 in
theorem bits_all : ∀ a b : Fin 17, ((Go.bits .or .u8 (((a.val : Int) * 16) % 256) (b.val : Int)).toNat.toUInt8.toNat : Int) = Go.bits .or .u8 (((a.val : Int) * 16) % 256) (b.val : Int) := by decide +kernel
theorem hx2_toI (x y : UInt8) : ((hx2 x y).toNat : Int) = Go.bits .or .u8 ((hx x * 16) % 256) (hx y) := by
  have h1 := hx_range x
  have h2 := hx_range y
  have h := bits_all ⟨(hx x).toNat, by omega⟩ ⟨(hx y).toNat, by omega⟩
  simp only [show (((hx x).toNat : Nat) : Int) = hx x by omega, show (((hx y).toNat : Nat) : Int) = hx y by omega] at h
  exact h
theorem dec_len : ∀ (n : Nat) (l : List UInt8), l.length ≤ n → (dec l).length ≤ l.length
  | 0, l, h => by
    have : l = [] := List.length_eq_zero_iff.1 (by omega)
    subst this
    simp [dec]
  | n + 1, l, h => by
    match l, h with
    | [], _ => simp [dec]
    | [c], _ => simp [dec]
    | [c, d], _ => simp [dec]
    | c :: x :: y :: r, h =>
      have h1 := dec_len n (x :: y :: r) (by simp at h ⊢; omega)
      have h2 := dec_len n r (by simp at h ⊢; omega)
      rw [dec]
      simp only [List.length_cons] at h1 ⊢
      split
      · split
        · simp only [List.length_cons]; omega
        · simp only [List.length_cons]; omega
      · simp only [List.length_cons]; omega
theorem toI_snoc (a : List UInt8) (c : UInt8) : toI a ++ [(c.toNat : Int)] = toI (a ++ [c]) := by simp [toI]
theorem rd_at {l pre t : List UInt8} {c : UInt8} (h : l = pre ++ c :: t) (x : Int) (hx : x = (pre.length : Int)) : rd (toI l) x = (c.toNat : Int) := by rw [hx]; exact rd_mid h
theorem byte_lt (c : UInt8) : (c.toNat : Int) < 256 := by have := c.toNat_lt; omega
theorem dec_l (s : List UInt8) (hs : s.length ≤ 2147483647) : ∀ (n : Nat) (pre suf acc : List UInt8), suf.length ≤ n → s = pre ++ suf → acc.length + suf.length < 140737488355328 →
    Ev (fun k => hertzproto_decodeArgAppendNoPlus.l0 k (toI acc) (toI s) (pre.length : Int)) (toI (acc ++ dec suf)) := by
  intro n
  induction n with
  | zero =>
    intro pre suf acc hn e hacc
    have : suf = [] := List.length_eq_zero_iff.1 (by omega)
    subst this
    refine Ev.step (f := fun _ => some (toI acc)) (fun k => ?_) (by rw [show acc ++ dec [] = acc by simp [dec]]; exact Ev.now _)
    simp only [hertzproto_decodeArgAppendNoPlus.l0, toI_length]
    rw [if_neg (by rw [e]; simp)]
  | succ n ih =>
    intro pre suf acc hn e hacc
    cases suf with
    | nil =>
      refine Ev.step (f := fun _ => some (toI acc)) (fun k => ?_) (by rw [show acc ++ dec [] = acc by simp [dec]]; exact Ev.now _)
      simp only [hertzproto_decodeArgAppendNoPlus.l0, toI_length]
      rw [if_neg (by rw [e]; simp)]
    | cons c t =>
      have hsl : s.length = pre.length + (t.length + 1) := by rw [e]; simp
      simp only [List.length_cons] at hn hacc
      have g0 : (pre.length : Int) < (s.length : Int) := by omega
      have g1 : (0 : Int) ≤ (pre.length : Int) := by omega
      have hrd : rd (toI s) (pre.length : Int) = (c.toNat : Int) := rd_mid e
      have w1 : wrap64 ((pre.length : Int) + 1) = ((pre ++ [c]).length : Int) := by rw [wrap_id (by omega) (by omega)]; simp
      have w2 : wrap64 ((pre.length : Int) + 2) = (pre.length : Int) + 2 := wrap_id (by omega) (by omega)
      have hal : (acc.length : Nat) < 140737488355328 := by omega
      by_cases hc : c = 37
      · have hc' : (c.toNat : Int) = 37 := by rw [hc]; rfl
        match t, hn, hacc, e, hsl with
        | [], hn, hacc, e, hsl =>
          refine Ev.step (f := fun _ => some (toI (acc ++ dec [c]))) (fun k => ?_) (Ev.now _)
          simp only [hertzproto_decodeArgAppendNoPlus.l0, toI_length]
          rw [if_pos g0, if_pos g1, hrd, if_pos hc', w2, if_pos (by simp at hsl ⊢; omega), if_pos (by omega), Int.toNat_natCast, toI_drop, e, List.drop_left, dec_short [c] (by simp), Option.bind_some, toI_length, if_pos (by simp; omega), toI_append]
        | [d], hn, hacc, e, hsl =>
          refine Ev.step (f := fun _ => some (toI (acc ++ dec [c, d]))) (fun k => ?_) (Ev.now _)
          simp only [hertzproto_decodeArgAppendNoPlus.l0, toI_length]
          rw [if_pos g0, if_pos g1, hrd, if_pos hc', w2, if_pos (by simp at hsl ⊢; omega), if_pos (by omega), Int.toNat_natCast, toI_drop, e, List.drop_left, dec_short [c, d] (by simp), Option.bind_some, toI_length, if_pos (by simp at hacc ⊢; omega), toI_append]
        | x :: y :: r, hn, hacc, e, hsl =>
          simp only [List.length_cons] at hn hacc hsl
          have hrx : rd (toI s) ((pre ++ [c]).length : Int) = (x.toNat : Int) := rd_mid (pre := pre ++ [c]) (t := y :: r) (by rw [e]; simp)
          have hry : rd (toI s) ((pre.length : Int) + 2) = (y.toNat : Int) := rd_at (pre := pre ++ [c, x]) (t := r) (by rw [e]; simp) _ (by simp)
          have hlp : ((pre ++ [c]).length : Int) = (pre.length : Int) + 1 := by simp
          have gx0 : (0 : Int) ≤ (x.toNat : Int) := by omega
          have gy0 : (0 : Int) ≤ (y.toNat : Int) := by omega
          have gx1 : (x.toNat : Int) < (tab1.size : Int) := by rw [tab_size]; exact byte_lt x
          have gy1 : (y.toNat : Int) < (tab1.size : Int) := by rw [tab_size]; exact byte_lt y
          have k1 : ¬ (pre.length : Int) + 2 ≥ (s.length : Int) := by omega
          have k2 : (0 : Int) ≤ (pre.length : Int) + 2 := by omega
          have k3 : (pre.length : Int) + 2 < (s.length : Int) := by omega
          have k4 : (0 : Int) ≤ ((pre ++ [c]).length : Int) := by omega
          have k5 : ((pre ++ [c]).length : Int) < (s.length : Int) := by omega
          have ih1 := ih (pre ++ [c]) (x :: y :: r) (acc ++ [37]) (by simp; omega) (by rw [e]; simp) (by simp; omega)
          have ih2 := ih (pre ++ [c, x, y]) r (acc ++ [hx2 x y]) (by omega) (by rw [e]; simp) (by simp; omega)
          have hd : dec (c :: x :: y :: r) = if hx x = 16 ∨ hx y = 16 then 37 :: dec (x :: y :: r) else hx2 x y :: dec r := by rw [dec, if_pos hc]
          have w3 : wrap64 ((pre.length : Int) + 2 + 1) = ((pre ++ [c, x, y]).length : Int) := by rw [wrap_id (by omega) (by omega)]; simp; omega
          by_cases h1 : hx x = 16
          · rw [hd, if_pos (.inl h1), show acc ++ 37 :: dec (x :: y :: r) = acc ++ [37] ++ dec (x :: y :: r) by simp]
            refine Ev.step (fun k => ?_) ih1
            simp only [hertzproto_decodeArgAppendNoPlus.l0, toI_length]
            rw [if_pos g0, if_pos g1, hrd, if_pos hc', w2, w1, if_neg k1, if_pos k2, if_pos k3, hrx, hry, if_pos gy0, if_pos gy1, if_pos k4, if_pos k5, if_pos gx0, if_pos gx1, if_pos (show bt tab1 (x.toNat : Int) = 16 from h1), if_pos hal, show ([37] : List Int) = [((37 : UInt8).toNat : Int)] from rfl, toI_snoc]
          · by_cases h2 : hx y = 16
            · rw [hd, if_pos (.inr h2), show acc ++ 37 :: dec (x :: y :: r) = acc ++ [37] ++ dec (x :: y :: r) by simp]
              refine Ev.step (fun k => ?_) ih1
              simp only [hertzproto_decodeArgAppendNoPlus.l0, toI_length]
              rw [if_pos g0, if_pos g1, hrd, if_pos hc', w2, w1, if_neg k1, if_pos k2, if_pos k3, hrx, hry, if_pos gy0, if_pos gy1, if_pos k4, if_pos k5, if_pos gx0, if_pos gx1, if_neg (show ¬ bt tab1 (x.toNat : Int) = 16 from h1), if_pos (show bt tab1 (y.toNat : Int) = 16 from h2), if_pos hal, show ([37] : List Int) = [((37 : UInt8).toNat : Int)] from rfl, toI_snoc]
            · rw [hd, if_neg (by simp [h1, h2]), show acc ++ hx2 x y :: dec r = acc ++ [hx2 x y] ++ dec r by simp]
              refine Ev.step (fun k => ?_) ih2
              simp only [hertzproto_decodeArgAppendNoPlus.l0, toI_length]
              rw [if_pos g0, if_pos g1, hrd, if_pos hc', w2, w1, if_neg k1, if_pos k2, if_pos k3, hrx, hry, if_pos gy0, if_pos gy1, if_pos k4, if_pos k5, if_pos gx0, if_pos gx1, if_neg (show ¬ bt tab1 (x.toNat : Int) = 16 from h1), if_neg (show ¬ bt tab1 (y.toNat : Int) = 16 from h2), if_pos hal, w3, ← toI_snoc, hx2_toI]
              rfl
      · have hc' : ¬ (c.toNat : Int) = 37 := fun h => hc (UInt8.toNat_inj.1 (by have : (37 : UInt8).toNat = 37 := rfl; omega))
        have ih1 := ih (pre ++ [c]) t (acc ++ [c]) (by omega) (by rw [e]; simp) (by simp; omega)
        rw [dec_plain c hc, show acc ++ c :: dec t = acc ++ [c] ++ dec t by simp]
        refine Ev.step (fun k => ?_) ih1
        simp only [hertzproto_decodeArgAppendNoPlus.l0, toI_length]
        rw [if_pos g0, if_pos g1, hrd, if_neg hc', w1, if_pos hal, toI_snoc]
theorem bytesOf_toI' (l : List UInt8) : Lib.bytesOf (toI l) = l := by
  unfold Lib.bytesOf toI
  rw [List.map_map]
  conv => rhs; rw [← List.map_id l]
  refine List.map_congr_left fun c _ => ?_
  simp
theorem dec_f (a s : List UInt8) (ha : a.length ≤ 1) (hs : s.length ≤ 2147483647) : Ev (fun k => hertzproto_decodeArgAppendNoPlus.f k (toI a) (toI s)) (toI (a ++ dec s)) := by
  have hib : bytes_IndexByte.f (toI s) 37 = some (Lib.indexByte s 37) := by
    unfold bytes_IndexByte.f
    rw [bytesOf_toI']
    rfl
  by_cases h : Lib.indexByte s 37 < 0
  · have hn : (37 : UInt8) ∉ s := fun hm => by
      have h1 := Lib.indexByte_none (l := s) (c := 37) (by have := Lib.indexByte_ge s 37; omega)
      obtain ⟨k, hk, e⟩ := List.getElem_of_mem hm
      exact h1 k (by rw [List.getElem?_eq_getElem hk, e])
    refine ⟨0, fun k _ => ?_⟩
    simp only [hertzproto_decodeArgAppendNoPlus.f, hib, Option.bind_some]
    rw [if_pos h, toI_length, toI_length, if_pos (by omega), dec_none s hn, toI_append]
  · obtain ⟨K, hK⟩ := dec_l s hs s.length [] s a (Nat.le_refl _) rfl (by omega)
    refine ⟨K, fun k hk => ?_⟩
    have h2 := hK k hk
    simp only [hertzproto_decodeArgAppendNoPlus.f, hib, Option.bind_some]
    rw [if_neg h]
    exact h2
def lead : List UInt8 → List UInt8
  | [] => [47]
  | c :: _ => if c = 47 then [] else [47]
theorem lead_f (s : List UInt8) : hertzproto_addLeadingSlash.f [] (toI s) = some (toI (lead s)) := by
  cases s with
  | nil => rfl
  | cons c t =>
    have hr : rd (toI (c :: t)) 0 = (c.toNat : Int) := rd_at (pre := []) rfl 0 rfl
    simp only [hertzproto_addLeadingSlash.f, toI_length, lead]
    rw [if_neg (by simp only [List.length_cons]; omega), if_pos (by simp only [List.length_cons]; omega), hr]
    by_cases hc : c = 47
    · rw [if_pos (by rw [hc]; rfl), if_pos hc]; rfl
    · rw [if_neg (fun h => hc (UInt8.toNat_inj.1 (by have : (47 : UInt8).toNat = 47 := rfl; omega))), if_neg hc, if_pos (by decide)]; rfl
theorem lead_len (s : List UInt8) : (lead s).length ≤ 1 := by
  cases s with
  | nil => simp [lead]
  | cons c t =>
    rw [lead]
    split
    · exact Nat.zero_le _
    · exact Nat.le_refl _
theorem lead_slash (s : List UInt8) : ∃ t, lead s ++ dec s = 47 :: t := by
  cases s with
  | nil => exact ⟨[], by simp [lead, dec]⟩
  | cons c t =>
    by_cases hc : c = 47
    · exact ⟨dec t, by rw [lead, if_pos hc, dec_plain c (by rw [hc]; decide), hc]; rfl⟩
    · exact ⟨dec (c :: t), by rw [lead, if_neg hc]; rfl⟩
def norm (s : List UInt8) : List UInt8 := Cl.cleanK (lead s ++ dec s)
end Go.Proofs.Ytbkeakeldegkeaa.SpA
end
section
namespace Go.Proofs.Ytbkeakeldegkeaa.Q
open Go.RowKit Go.Proofs.YtbkeakeldegkeaaW.PrintWords Go.Proofs.YtbkeakeldegkeaaW.PrintLast Go.Proofs.YtbkeakeldegkeaaW.PrintMore
attribute [local go_sem] max2_int min2_int max_two min_two max_three min_three max_four min_four
set_option linter.unusedVariables false
set_option linter.unusedSimpArgs false
end Go.Proofs.Ytbkeakeldegkeaa.Q
namespace Go.Proofs.Ytbkeakeldegkeaa.Q
open Go.RowKit Go.Proofs.YtbkeakeldegkeaaW.PrintWords Go.Proofs.YtbkeakeldegkeaaW.PrintLast Go.Proofs.YtbkeakeldegkeaaW.PrintMore
attribute [local go_sem] max2_int min2_int max_two min_two max_three min_three max_four min_four
set_option linter.unusedVariables false
set_option linter.unusedSimpArgs false
end Go.Proofs.Ytbkeakeldegkeaa.Q
end
section
namespace Go.Proofs.Ytbkeakeldegkeaa.SpA
open Go.RowKit Go.Proofs.Ytbkeakeldegkeaa.Q Go.Proofs.YtbkeakeldegkeaaW.PrintWords Go.Proofs.YtbkeakeldegkeaaW.PrintLast Go.Proofs.YtbkeakeldegkeaaKit
set_option linter.unusedVariables false
set_option linter.unusedSimpArgs false
abbrev HX : ByteArray := ⟨#[48, 49, 50, 51, 52, 53, 54, 55, 56, 57, 65, 66, 67, 68, 69, 70]⟩
def hexU (n : Nat) : UInt8 := (L HX).getD n 0
def escP (c : UInt8) : List UInt8 := if bt tab2 (c.toNat : Int) = 0 then [c] else [37, hexU (c.toNat / 16), hexU (c.toNat % 16)]
theorem and15 : ∀ c : Fin 256, Go.bits .and .u8 ((c : Nat) : Int) 15 = (((c : Nat) % 16 : Nat) : Int) := by decide +kernel
theorem bt_HX (n : Nat) (h : n < 16) : bt HX (n : Int) = ((hexU n).toNat : Int) := by
  rw [bt_nat HX n (by simpa using h)]
  unfold hexU
  rw [List.getD_eq_getElem?_getD, List.getElem?_eq_getElem (show n < (L HX).length from h)]
  rfl
theorem and15' (c : UInt8) : Go.bits .and .u8 (c.toNat : Int) 15 = ((c.toNat % 16 : Nat) : Int) := and15 ⟨c.toNat, c.toNat_lt⟩
theorem hi_nib (c : UInt8) : (c.toNat : Int) / 16 = ((c.toNat / 16 : Nat) : Int) := by omega
theorem escP_len (c : UInt8) : (escP c).length ≤ 3 := by unfold escP; split <;> simp
theorem wrap_b (c : UInt8) : wrap64 (c.toNat : Int) = (c.toNat : Int) := by have := c.toNat_lt; exact wrap_id (by omega) (by omega)
theorem tabP_size : tab2.size = 256 := by decide +kernel
theorem hex3 (c : UInt8) : ([37, bt HX ((c.toNat : Int) / 16), bt HX (Go.bits .and .u8 (c.toNat : Int) 15)] : List Int) = toI [37, hexU (c.toNat / 16), hexU (c.toNat % 16)] := by
  have hc := c.toNat_lt
  rw [hi_nib, and15', bt_HX _ (by omega), bt_HX _ (by omega)]
  rfl
theorem path_l (xs : List UInt8) (hx : xs.length ≤ 1000000000000) : ∀ (suf pre acc : List UInt8), xs = pre ++ suf → acc.length + 3 * suf.length ≤ 100000000000000 →
    Ev (fun k => hertzconv_AppendQuotedPath.l0 k (toI acc) (toI xs) (xs.length : Int) (pre.length : Int)) (toI (acc ++ suf.flatMap escP))
  | [], pre, acc, h, hl => by
    refine Ev.step (f := fun _ => some (toI acc)) (fun k => ?_) (Ev.same (Ev.now _) (by simp))
    simp only [hertzconv_AppendQuotedPath.l0]
    rw [if_neg (ln_not h)]
  | c :: t, pre, acc, h, hl => by
    have hc := c.toNat_lt
    simp only [List.length_cons] at hl
    have ih := path_l xs hx t (pre ++ [c]) (acc ++ escP c) (lmid_next h) (by have := escP_len c; rw [List.length_append]; omega)
    have hw := wrap_lmid h (by omega)
    refine Ev.step (fun k => ?_) (Ev.same ih (by simp))
    simp only [hertzconv_AppendQuotedPath.l0]
    rw [if_pos (ln_mid h), if_pos (by omega), toI_length, if_pos (ln_mid h), rd_mid h, hw, toI_append]
    unfold escP
    rw [wrap_b, if_pos (by omega), tabP_size, if_pos (by omega)]
    by_cases h0 : bt tab2 (c.toNat : Int) = 0
    · rw [if_pos h0, if_pos (by rw [toI_length]; omega), if_pos h0]
      rfl
    · rw [if_neg h0, if_pos (by omega), if_pos (by omega), and15', if_pos (by omega), if_pos (by omega), if_neg h0, ← and15', hex3, Option.bind_some, if_pos (by rw [toI_length, toI_length]; simp; omega)]
def quoteP (xs : List UInt8) : List UInt8 := if xs = [42] then [42] else xs.flatMap escP
theorem path_ev (xs acc : List UInt8) (hx : xs.length ≤ 1000000000000) (hl : acc.length + 3 * xs.length + 3 ≤ 100000000000000) : Ev (fun k => hertzconv_AppendQuotedPath.f k (toI acc) (toI xs)) (toI (acc ++ quoteP xs)) := by
  have hgo := path_l xs hx xs [] acc rfl (by omega)
  have hj : Ev (fun k => hertzconv_AppendQuotedPath.j0 k (toI acc) (toI xs) false) (toI (acc ++ xs.flatMap escP)) := by
    refine Ev.step (fun k => ?_) hgo
    simp only [hertzconv_AppendQuotedPath.j0]
    rw [if_neg (by decide), toI_length]
    rfl
  unfold hertzconv_AppendQuotedPath.f quoteP
  match xs with
  | [] => exact Ev.neg (by simp [toI]) (by rw [if_neg (by simp)]; exact hj)
  | [c] =>
    refine Ev.pos rfl (Ev.pos (by simp [toI]) ?_)
    have hr : rd (toI [c]) 0 = (c.toNat : Int) := rfl
    rw [hr]
    by_cases h : c = 42
    · rw [if_pos (by rw [h])]
      have : ((c.toNat : Int) == 42) = true := by rw [h]; rfl
      rw [this]
      refine Ev.step (f := fun _ => some (toI (acc ++ [42]))) (fun k => ?_) (Ev.now _)
      simp only [hertzconv_AppendQuotedPath.j0]
      rw [if_pos trivial, if_pos (by rw [toI_length]; simp at hl; omega), toI_append]
      rfl
    · rw [if_neg (by simpa using h)]
      have : ((c.toNat : Int) == 42) = false := by
        rw [beq_eq_false_iff_ne]
        intro e
        exact h (UInt8.toNat_inj.1 (show c.toNat = (42 : UInt8).toNat from by show c.toNat = 42; omega))
      rw [this]
      exact hj
  | c :: d :: t => exact Ev.neg (by rw [toI_length]; simp; omega) (by rw [if_neg (by simp)]; exact hj)
end Go.Proofs.Ytbkeakeldegkeaa.SpA
end
section
namespace Go.Proofs.Ytbkeakeldegkeaa.SpA
open Go.RowKit Go.Proofs.Ytbkeakeldegkeaa.Q Go.Proofs.YtbkeakeldegkeaaW.PrintWords Go.Proofs.YtbkeakeldegkeaaW.PrintLast Go.Proofs.YtbkeakeldegkeaaKit
set_option linter.unusedVariables false
set_option linter.unusedSimpArgs false
structure UR where
  scheme : List UInt8
  host : List UInt8
  orig : List UInt8
  path : List UInt8
  query : List UInt8
  hash : List UInt8
  user : List UInt8
  pass : List UInt8
def lowU (c : UInt8) : UInt8 := if 65 ≤ c.toNat ∧ c.toNat ≤ 90 then c + 32 else c
def upto (c : UInt8) (l : List UInt8) : List UInt8 := l.takeWhile (· != c)
def past (c : UInt8) (l : List UInt8) : List UInt8 := (l.dropWhile (· != c)).drop 1
def isAl (c : UInt8) : Bool := (decide (97 ≤ c.toNat) && decide (c.toNat ≤ 122)) || (decide (65 ≤ c.toNat) && decide (c.toNat ≤ 90))
def isSg (c : UInt8) : Bool := (decide (48 ≤ c.toNat) && decide (c.toNat ≤ 57)) || c == 43 || c == 45 || c == 46
def schEnd : Nat → List UInt8 → Option Nat
  | _, [] => none
  | i, c :: t => if isAl c then schEnd (i + 1) t else if isSg c then (if i = 0 then none else schEnd (i + 1) t) else if c = 58 then (if i = 0 then none else some i) else none
def HTTP : List UInt8 := [104, 116, 116, 112]
def partU (host uri : List UInt8) : Option (List UInt8 × List UInt8 × List UInt8) :=
  match schEnd 0 uri with
  | none => some (HTTP, host, uri)
  | some i =>
    if (uri.drop (i + 1)).length < 2 then none
    else if (47 : UInt8) ∈ uri.drop (i + 3) then some (uri.take i, upto 47 (uri.drop (i + 3)), (uri.drop (i + 3)).dropWhile (· != 47))
    else if (63 : UInt8) ∈ uri.drop (i + 3) then some (uri.take i, upto 63 (uri.drop (i + 3)), (uri.drop (i + 3)).dropWhile (· != 63))
    else some (uri.take i, uri.drop (i + 3), [47])
def isCtl (c : UInt8) : Bool := decide (c.toNat < 32) || c == 127
def authU (h : List UInt8) : List UInt8 × List UInt8 × List UInt8 :=
  if (64 : UInt8) ∈ h then (if (58 : UInt8) ∈ upto 64 h then (upto 58 (upto 64 h), past 58 (upto 64 h), past 64 h) else (upto 64 h, [], past 64 h)) else ([], [], h)
def pathU (u : List UInt8) : List UInt8 × List UInt8 × List UInt8 := (upto 63 (upto 35 u), past 63 (upto 35 u), past 35 u)
def restU (s h u : List UInt8) : UR := ⟨s, (authU h).2.2.map lowU, (pathU u).1, norm (pathU u).1, (pathU u).2.1, (pathU u).2.2, (authU h).1, (authU h).2.1⟩
def SEP : List UInt8 := [58, 47, 47]
def parseU (host uri : List UInt8) : Option UR :=
  if uri.any isCtl then some ⟨[], [], [], [], [], [], [], []⟩
  else if host = [] ∨ 0 ≤ ix SEP uri 0 then (partU host uri).map fun x => restU (x.1.map lowU) x.2.1 x.2.2
  else some (restU [] host uri)
def UR.sch (u : UR) : List UInt8 := if u.scheme = [] then HTTP else u.scheme
end Go.Proofs.Ytbkeakeldegkeaa.SpA
end
