-- Written by a program of this session out of the translation, with the kit's printer. Not trusted: Lean checks it.
import Derived.Test.YtipmmjbjgbfgjaaQ0
namespace Go.Proofs.Ytipmmjbjgbfgjaa.Q
open Go.RowKit Go.Proofs.YtipmmjbjgbfgjaaW.PrintWords Go.Proofs.YtipmmjbjgbfgjaaW.PrintLast Go.Proofs.YtipmmjbjgbfgjaaW.PrintMore
attribute [local go_sem] max2_int min2_int max_two min_two max_three min_three max_four min_four   -- for this text's walks alone
set_option linter.unusedVariables false
set_option linter.unusedSimpArgs false

/-! ### fiberutils_EqualFold: function 60 -/
def fiberutils_EqualFold.l0 : Nat → ByteArray → ByteArray → Int → Option (Bool)
  | 0, _, _, _ => none
  | k + 1, x0, x1, x5 => if x5 ≥ 0 then (if 0 ≤ x5 then (if x5 < (x0.size : Int) then (if 0 ≤ (bt x0 x5) then (if (bt x0 x5) < (tab1.size : Int) then (if x5 < (x1.size : Int) then (if 0 ≤ (bt x1 x5) then (if (bt x1 x5) < (tab1.size : Int) then (if (bt tab1 (bt x0 x5)) = (bt tab1 (bt x1 x5)) then (fiberutils_EqualFold.l0 k x0 x1 (wrap64 (x5 - 1))) else (some false)) else (none)) else (none)) else (none)) else (none)) else (none)) else (none)) else (none)) else (some true)
def fiberutils_EqualFold.f (k : Nat) (a0 : ByteArray) (a1 : ByteArray) : Option (Bool) := if (a0.size : Int) = (a1.size : Int) then (fiberutils_EqualFold.l0 k a0 a1 (wrap64 ((a0.size : Int) - 1))) else (some false)
theorem fiberutils_EqualFold.mono_l : ∀ k, (∀ y0 y1 y2, LeO (fiberutils_EqualFold.l0 k y0 y1 y2) (fiberutils_EqualFold.l0 (k + 1) y0 y1 y2))
  | 0 => fun _ _ _ r h => by simp [fiberutils_EqualFold.l0] at h
  | k + 1 => by
    have ih0 := fiberutils_EqualFold.mono_l k
    · intro y0 y1 y2
      unfold fiberutils_EqualFold.l0
      repeat' first
      | (with_reducible exact ih0 _ _ _)
      | (with_reducible exact LeO.refl _)
      | (with_reducible exact LeO.none _)
      | (with_reducible refine LeO.ite ?_ ?_)
      | (with_reducible refine LeO.bind ?_ (fun _ => ?_))
      | exact ih0 _ _ _
      | exact LeO.none _
      | refine LeO.ite ?_ ?_
      | refine LeO.bind ?_ (fun _ => ?_)
theorem fiberutils_EqualFold.mono : ∀ a0 a1 k, LeO (fiberutils_EqualFold.f k a0 a1) (fiberutils_EqualFold.f (k + 1) a0 a1) := by
  intro a0 a1 k
  have ih0 := fiberutils_EqualFold.mono_l k
  unfold fiberutils_EqualFold.f
  repeat' first
      | (with_reducible exact ih0 _ _ _)
      | (with_reducible exact LeO.refl _)
      | (with_reducible exact LeO.none _)
      | (with_reducible refine LeO.ite ?_ ?_)
      | (with_reducible refine LeO.bind ?_ (fun _ => ?_))
      | exact ih0 _ _ _
      | exact LeO.none _
      | refine LeO.ite ?_ ?_
      | refine LeO.bind ?_ (fun _ => ?_)
set_option maxHeartbeats 8000000 in
set_option maxRecDepth 100000 in
theorem fiberutils_EqualFold.calls (k : Nat) (a0 : ByteArray) (a1 : ByteArray) (r : Bool) (w : World) (h : fiberutils_EqualFold.f k a0 a1 = some r) :
    Calls Try.prog 60 #[.string a0, .string a1] w fun e w' => e = .returned (.bool r) ∧ Drawn0 w w' := by
  have H : (if (a0.size : Int) = (a1.size : Int) then (fiberutils_EqualFold.l0 k a0 a1 (wrap64 ((a0.size : Int) - 1))) else (some false)) = some r := h
  clear h
  by_cases c3 : (a0.size : Int) = (a1.size : Int)
  · rw [if_pos c3] at H
    have c3b0 : ((a0.size : Int) == (a1.size : Int)) = true := beq_iff_eq.mpr c3
    have c3b1 : ((a0.size : Int) != (a1.size : Int)) = false := bne_eq_false_iff_eq.mpr c3
    have c3b2 : (a0.size == a1.size) = true := by first | simpa using c3 | (simp at c3 ⊢; omega)
    clear c3
    have H' := Aside0.mk H
    clear H
    go_enter Try.func60, Try.ntmps60
    go_wp2
    have hw8_ := Go.Proofs.YtipmmjbjgbfgjaaX.wrap_u8; have hw64_ := Go.Proofs.YtipmmjbjgbfgjaaX.wrap_i64; repeat (go_quiet (fail); try go_wp2)
    go_loopg [5] k (fun kq v5 w' => ∃ (x5_1 : Int), v5 = .int .i64 x5_1 ∧ Aside0 (fiberutils_EqualFold.l0 kq a0 a1 x5_1 = some r) ∧ Aside0 (kq ≤ k) ∧ Drawn0 w w')
    case atStart => exact ⟨(wrap64 ((a0.size : Int) - 1)), (by first | rfl | (simp; done) | (simp [*]; done) | (simp [Go.Proofs.YtipmmjbjgbfgjaaX.isEmpty_ne]; done)), H', ⟨Nat.le_refl _⟩, by repeat (first | exact Drawn0.refl _ | apply Drawn0.step)⟩
    case round =>
      clear H'
      try clear p2
      try clear c3
      try clear c3b0
      try clear c3b1
      try clear c3b2
      obtain ⟨x5_1, rfl, HA, HK1, ⟨m1, rfl⟩⟩ := hrel
      cases gk with
      | zero => exact absurd HA.out (by simp [fiberutils_EqualFold.l0])
      | succ k1 =>
        have H := HA.out
        clear HA
        simp only [fiberutils_EqualFold.l0] at H
        by_cases c4 : x5_1 ≥ 0
        · rw [if_pos c4] at H
          have c4b0 : decide (0 ≤ x5_1) = true := decide_eq_true c4
          clear c4
          by_cases c5 : 0 ≤ x5_1
          · rw [if_pos c5] at H
            have c5b0 : decide (0 ≤ x5_1) = true := decide_eq_true c5
            clear c5
            by_cases c6 : x5_1 < (a0.size : Int)
            · rw [if_pos c6] at H
              have c6b0 : decide (x5_1 < (a0.size : Int)) = true := decide_eq_true c6
              clear c6
              by_cases c8 : 0 ≤ (bt a0 x5_1)
              · rw [if_pos c8] at H
                have c8b0 : decide (0 ≤ (bt a0 x5_1)) = true := decide_eq_true c8
                clear c8
                by_cases c9 : (bt a0 x5_1) < (tab1.size : Int)
                · rw [if_pos c9] at H
                  have c9b0 : decide ((bt a0 x5_1) < (tab1.size : Int)) = true := decide_eq_true c9
                  clear c9
                  by_cases c11 : x5_1 < (a1.size : Int)
                  · rw [if_pos c11] at H
                    have c11b0 : decide (x5_1 < (a1.size : Int)) = true := decide_eq_true c11
                    clear c11
                    by_cases c13 : 0 ≤ (bt a1 x5_1)
                    · rw [if_pos c13] at H
                      have c13b0 : decide (0 ≤ (bt a1 x5_1)) = true := decide_eq_true c13
                      clear c13
                      by_cases c14 : (bt a1 x5_1) < (tab1.size : Int)
                      · rw [if_pos c14] at H
                        have c14b0 : decide ((bt a1 x5_1) < (tab1.size : Int)) = true := decide_eq_true c14
                        clear c14
                        by_cases c16 : (bt tab1 (bt a0 x5_1)) = (bt tab1 (bt a1 x5_1))
                        · rw [if_pos c16] at H
                          have c16b0 : ((bt tab1 (bt a0 x5_1)) == (bt tab1 (bt a1 x5_1))) = true := beq_iff_eq.mpr c16
                          have c16b1 : ((bt tab1 (bt a0 x5_1)) != (bt tab1 (bt a1 x5_1))) = false := bne_eq_false_iff_eq.mpr c16
                          clear c16
                          have H' := Aside0.mk H
                          clear H
                          have p7 : 0 ≤ (x5_1 : Int) := of_decide_eq_true (by first | (with_reducible assumption) | assumption)
                          have q7 : x5_1 < (a0.size : Int) := of_decide_eq_true (by first | (with_reducible assumption) | assumption)
                          have hx7 := bt_at a0 x5_1
                          replace p7 := eq_true p7
                          replace q7 := eq_true q7
                          have p12 : 0 ≤ (x5_1 : Int) := of_decide_eq_true (by first | (with_reducible assumption) | assumption)
                          have q12 : x5_1 < (a1.size : Int) := of_decide_eq_true (by first | (with_reducible assumption) | assumption)
                          have hx12 := bt_at a1 x5_1
                          replace p12 := eq_true p12
                          replace q12 := eq_true q12
                          go_wp2_with (first | ((with_reducible refine gate_dst (N := 21) rfl ?_); refine Go.Proofs.YtipmmjbjgbfgjaaX.index_tab (some 21) rfl rfl 9 _ _ rfl Try.underlying9 tab1 (by kernel_rfl) .u8 (bt a0 x5_1) rfl (by first | exact of_decide_eq_true (by first | (with_reducible assumption) | assumption) | exact (bt_range _ _).1 | omega) (of_decide_eq_true (by first | (with_reducible assumption) | assumption)) ?_) | ((with_reducible refine gate_dst (N := 25) rfl ?_); refine Go.Proofs.YtipmmjbjgbfgjaaX.index_tab (some 25) rfl rfl 9 _ _ rfl Try.underlying9 tab1 (by kernel_rfl) .u8 (bt a1 x5_1) rfl (by first | exact of_decide_eq_true (by first | (with_reducible assumption) | assumption) | exact (bt_range _ _).1 | omega) (of_decide_eq_true (by first | (with_reducible assumption) | assumption)) ?_))
                          repeat (refine wp_region_quiet_lit (by kernel_rfl) (by kernel_rfl) ?_; (repeat (first | (refine Go.Proofs.YtipmmjbjgbfgjaaX.quiet_tab (some 21) rfl rfl 9 _ _ rfl Try.underlying9 tab1 (by kernel_rfl) .u8 (bt a0 x5_1) rfl (by first | exact of_decide_eq_true (by first | (with_reducible assumption) | assumption) | exact (bt_range _ _).1 | omega) (of_decide_eq_true (by first | (with_reducible assumption) | assumption)) ?_) | (refine Go.Proofs.YtipmmjbjgbfgjaaX.quiet_tab (some 25) rfl rfl 9 _ _ rfl Try.underlying9 tab1 (by kernel_rfl) .u8 (bt a1 x5_1) rfl (by first | exact of_decide_eq_true (by first | (with_reducible assumption) | assumption) | exact (bt_range _ _).1 | omega) (of_decide_eq_true (by first | (with_reducible assumption) | assumption)) ?_) | (refine wpQuiet_step (fun K hK => ?_); go_simp; first | (refine hK _ ?_; clear hK K) | (apply Exists.intro; refine ⟨fun _ => ?_, hK _ ?_⟩; (first | ((with_reducible refine gate_dst (N := 21) rfl ?_); refine Go.Proofs.YtipmmjbjgbfgjaaX.index_tab (some 21) rfl rfl 9 _ _ rfl Try.underlying9 tab1 (by kernel_rfl) .u8 (bt a0 x5_1) rfl (by first | exact of_decide_eq_true (by first | (with_reducible assumption) | assumption) | exact (bt_range _ _).1 | omega) (of_decide_eq_true (by first | (with_reducible assumption) | assumption)) ?_) | ((with_reducible refine gate_dst (N := 25) rfl ?_); refine Go.Proofs.YtipmmjbjgbfgjaaX.index_tab (some 25) rfl rfl 9 _ _ rfl Try.underlying9 tab1 (by kernel_rfl) .u8 (bt a1 x5_1) rfl (by first | exact of_decide_eq_true (by first | (with_reducible assumption) | assumption) | exact (bt_range _ _).1 | omega) (of_decide_eq_true (by first | (with_reducible assumption) | assumption)) ?_)); clear hK K)))); refine wpQuiet_nil ?_; intro _ hw'; obtain ⟨nq, hw''⟩ := hw'; subst hw''; try go_wp2_with (first | ((with_reducible refine gate_dst (N := 21) rfl ?_); refine Go.Proofs.YtipmmjbjgbfgjaaX.index_tab (some 21) rfl rfl 9 _ _ rfl Try.underlying9 tab1 (by kernel_rfl) .u8 (bt a0 x5_1) rfl (by first | exact of_decide_eq_true (by first | (with_reducible assumption) | assumption) | exact (bt_range _ _).1 | omega) (of_decide_eq_true (by first | (with_reducible assumption) | assumption)) ?_) | ((with_reducible refine gate_dst (N := 25) rfl ?_); refine Go.Proofs.YtipmmjbjgbfgjaaX.index_tab (some 25) rfl rfl 9 _ _ rfl Try.underlying9 tab1 (by kernel_rfl) .u8 (bt a1 x5_1) rfl (by first | exact of_decide_eq_true (by first | (with_reducible assumption) | assumption) | exact (bt_range _ _).1 | omega) (of_decide_eq_true (by first | (with_reducible assumption) | assumption)) ?_)))
                          go_roundg k1
                          case measure => have := HK1.out; omega
                          case rel => exact ⟨(wrap64 (x5_1 - 1)), (by first | rfl | (simp; done) | (simp [*]; done) | (simp [Go.Proofs.YtipmmjbjgbfgjaaX.isEmpty_ne]; done)), H', ⟨by have := HK1.out; omega⟩, by repeat (first | exact Drawn0.refl _ | apply Drawn0.step)⟩
                        · rw [if_neg c16] at H
                          have c16b0 : ((bt tab1 (bt a0 x5_1)) == (bt tab1 (bt a1 x5_1))) = false := beq_eq_false_iff_ne.mpr c16
                          have c16b1 : ((bt tab1 (bt a0 x5_1)) != (bt tab1 (bt a1 x5_1))) = true := bne_iff_ne.mpr c16
                          obtain rfl := Option.some.inj H
                          have p7 : 0 ≤ (x5_1 : Int) := of_decide_eq_true (by first | (with_reducible assumption) | assumption)
                          have q7 : x5_1 < (a0.size : Int) := of_decide_eq_true (by first | (with_reducible assumption) | assumption)
                          have hx7 := bt_at a0 x5_1
                          replace p7 := eq_true p7
                          replace q7 := eq_true q7
                          have p12 : 0 ≤ (x5_1 : Int) := of_decide_eq_true (by first | (with_reducible assumption) | assumption)
                          have q12 : x5_1 < (a1.size : Int) := of_decide_eq_true (by first | (with_reducible assumption) | assumption)
                          have hx12 := bt_at a1 x5_1
                          replace p12 := eq_true p12
                          replace q12 := eq_true q12
                          go_wp2_with (first | ((with_reducible refine gate_dst (N := 21) rfl ?_); refine Go.Proofs.YtipmmjbjgbfgjaaX.index_tab (some 21) rfl rfl 9 _ _ rfl Try.underlying9 tab1 (by kernel_rfl) .u8 (bt a0 x5_1) rfl (by first | exact of_decide_eq_true (by first | (with_reducible assumption) | assumption) | exact (bt_range _ _).1 | omega) (of_decide_eq_true (by first | (with_reducible assumption) | assumption)) ?_) | ((with_reducible refine gate_dst (N := 25) rfl ?_); refine Go.Proofs.YtipmmjbjgbfgjaaX.index_tab (some 25) rfl rfl 9 _ _ rfl Try.underlying9 tab1 (by kernel_rfl) .u8 (bt a1 x5_1) rfl (by first | exact of_decide_eq_true (by first | (with_reducible assumption) | assumption) | exact (bt_range _ _).1 | omega) (of_decide_eq_true (by first | (with_reducible assumption) | assumption)) ?_))
                          repeat (refine wp_region_quiet_lit (by kernel_rfl) (by kernel_rfl) ?_; (repeat (first | (refine Go.Proofs.YtipmmjbjgbfgjaaX.quiet_tab (some 21) rfl rfl 9 _ _ rfl Try.underlying9 tab1 (by kernel_rfl) .u8 (bt a0 x5_1) rfl (by first | exact of_decide_eq_true (by first | (with_reducible assumption) | assumption) | exact (bt_range _ _).1 | omega) (of_decide_eq_true (by first | (with_reducible assumption) | assumption)) ?_) | (refine Go.Proofs.YtipmmjbjgbfgjaaX.quiet_tab (some 25) rfl rfl 9 _ _ rfl Try.underlying9 tab1 (by kernel_rfl) .u8 (bt a1 x5_1) rfl (by first | exact of_decide_eq_true (by first | (with_reducible assumption) | assumption) | exact (bt_range _ _).1 | omega) (of_decide_eq_true (by first | (with_reducible assumption) | assumption)) ?_) | (refine wpQuiet_step (fun K hK => ?_); go_simp; first | (refine hK _ ?_; clear hK K) | (apply Exists.intro; refine ⟨fun _ => ?_, hK _ ?_⟩; (first | ((with_reducible refine gate_dst (N := 21) rfl ?_); refine Go.Proofs.YtipmmjbjgbfgjaaX.index_tab (some 21) rfl rfl 9 _ _ rfl Try.underlying9 tab1 (by kernel_rfl) .u8 (bt a0 x5_1) rfl (by first | exact of_decide_eq_true (by first | (with_reducible assumption) | assumption) | exact (bt_range _ _).1 | omega) (of_decide_eq_true (by first | (with_reducible assumption) | assumption)) ?_) | ((with_reducible refine gate_dst (N := 25) rfl ?_); refine Go.Proofs.YtipmmjbjgbfgjaaX.index_tab (some 25) rfl rfl 9 _ _ rfl Try.underlying9 tab1 (by kernel_rfl) .u8 (bt a1 x5_1) rfl (by first | exact of_decide_eq_true (by first | (with_reducible assumption) | assumption) | exact (bt_range _ _).1 | omega) (of_decide_eq_true (by first | (with_reducible assumption) | assumption)) ?_)); clear hK K)))); refine wpQuiet_nil ?_; intro _ hw'; obtain ⟨nq, hw''⟩ := hw'; subst hw''; try go_wp2_with (first | ((with_reducible refine gate_dst (N := 21) rfl ?_); refine Go.Proofs.YtipmmjbjgbfgjaaX.index_tab (some 21) rfl rfl 9 _ _ rfl Try.underlying9 tab1 (by kernel_rfl) .u8 (bt a0 x5_1) rfl (by first | exact of_decide_eq_true (by first | (with_reducible assumption) | assumption) | exact (bt_range _ _).1 | omega) (of_decide_eq_true (by first | (with_reducible assumption) | assumption)) ?_) | ((with_reducible refine gate_dst (N := 25) rfl ?_); refine Go.Proofs.YtipmmjbjgbfgjaaX.index_tab (some 25) rfl rfl 9 _ _ rfl Try.underlying9 tab1 (by kernel_rfl) .u8 (bt a1 x5_1) rfl (by first | exact of_decide_eq_true (by first | (with_reducible assumption) | assumption) | exact (bt_range _ _).1 | omega) (of_decide_eq_true (by first | (with_reducible assumption) | assumption)) ?_)))
                          go_ret
                          exact ⟨by first | rfl | (simp; done) | (simp [*]; done) | (simp [Go.Proofs.YtipmmjbjgbfgjaaX.isEmpty_ne]; done), by repeat (first | exact Drawn0.refl _ | apply Drawn0.step)⟩
                      · rw [if_neg c14] at H
                        exact absurd H (by simp)
                    · rw [if_neg c13] at H
                      exact absurd H (by simp)
                  · rw [if_neg c11] at H
                    exact absurd H (by simp)
                · rw [if_neg c9] at H
                  exact absurd H (by simp)
              · rw [if_neg c8] at H
                exact absurd H (by simp)
            · rw [if_neg c6] at H
              exact absurd H (by simp)
          · rw [if_neg c5] at H
            exact absurd H (by simp)
        · rw [if_neg c4] at H
          have c4b0 : decide (0 ≤ x5_1) = false := decide_eq_false c4
          clear c4
          obtain rfl := Option.some.inj H
          go_wp2
          have hw8_ := Go.Proofs.YtipmmjbjgbfgjaaX.wrap_u8; have hw64_ := Go.Proofs.YtipmmjbjgbfgjaaX.wrap_i64; repeat (go_quiet (fail); try go_wp2)
          go_ret
          exact ⟨by first | rfl | (simp; done) | (simp [*]; done) | (simp [Go.Proofs.YtipmmjbjgbfgjaaX.isEmpty_ne]; done), by repeat (first | exact Drawn0.refl _ | apply Drawn0.step)⟩
  · rw [if_neg c3] at H
    have c3b0 : ((a0.size : Int) == (a1.size : Int)) = false := beq_eq_false_iff_ne.mpr c3
    have c3b1 : ((a0.size : Int) != (a1.size : Int)) = true := bne_iff_ne.mpr c3
    have c3b2 : (a0.size == a1.size) = false := by first | simpa using c3 | (simp at c3 ⊢; omega)
    obtain rfl := Option.some.inj H
    go_enter Try.func60, Try.ntmps60
    go_wp2
    have hw8_ := Go.Proofs.YtipmmjbjgbfgjaaX.wrap_u8; have hw64_ := Go.Proofs.YtipmmjbjgbfgjaaX.wrap_i64; repeat (go_quiet (fail); try go_wp2)
    go_ret
    exact ⟨by first | rfl | (simp; done) | (simp [*]; done) | (simp [Go.Proofs.YtipmmjbjgbfgjaaX.isEmpty_ne]; done), by repeat (first | exact Drawn0.refl _ | apply Drawn0.step)⟩

end Go.Proofs.Ytipmmjbjgbfgjaa.Q
