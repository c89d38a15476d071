-- Written by a program of this session out of the translation, with the kit's printer. Not trusted: Lean checks it.
import Derived.Test.YtjmcndbkmknemaaQ0
import Derived.Test.YtjmcndbkmknemaaQ16
namespace Go.Proofs.Ytjmcndbkmknemaa.Q
open Go.RowKit Go.Proofs.YtjmcndbkmknemaaW.PrintWords Go.Proofs.YtjmcndbkmknemaaW.PrintLast Go.Proofs.YtjmcndbkmknemaaW.PrintMore
attribute [local go_sem] max2_int min2_int max_two min_two max_three min_three max_four min_four   -- for this text's walks alone
set_option linter.unusedVariables false
set_option linter.unusedSimpArgs false

/-! ### laws_four: function 32 -/
mutual
def laws_four.l0 : Nat → ByteArray → Int → Int → Option (Bool)
  | 0, _, _, _ => none
  | k + 1, x0, x3, x4 => if x4 ≤ (x0.size : Int) then ((laws_until.f k x0 x4 46).bind fun t183 => (laws_four.l1 k x0 x3 x4 t183 0 x4)) else (some (x3 == 4))
def laws_four.l1 : Nat → ByteArray → Int → Int → Int → Int → Int → Option (Bool)
  | 0, _, _, _, _, _, _ => none
  | k + 1, x0, x3, x4, x5, x6, x7 => if x7 < x5 then (if 0 ≤ x7 then (if x7 < (x0.size : Int) then (if (bt x0 x7) < 48 then (some false) else (if (bt x0 x7) > 57 then (some false) else (if (wrap64 (x5 - x4)) > 3 then (some false) else (laws_four.l1 k x0 x3 x4 x5 (wrap64 ((wrap64 (10 * x6)) + (((bt x0 x7) - 48) % 256))) (wrap64 (x7 + 1)))))) else (none)) else (none)) else (if x4 = x5 then (some false) else (if x6 > 255 then (some false) else (if (wrap64 (x5 - x4)) > 1 then (if 0 ≤ x4 then (if x4 < (x0.size : Int) then (if (bt x0 x4) = 48 then (some false) else (laws_four.l0 k x0 (wrap64 (x3 + 1)) (wrap64 (x5 + 1)))) else (none)) else (none)) else (laws_four.l0 k x0 (wrap64 (x3 + 1)) (wrap64 (x5 + 1))))))
end
def laws_four.f (k : Nat) (a0 : ByteArray) : Option (Bool) := laws_four.l0 k a0 0 0
theorem laws_four.mono_l : ∀ k, (∀ y0 y1 y2, LeO (laws_four.l0 k y0 y1 y2) (laws_four.l0 (k + 1) y0 y1 y2)) ∧ (∀ y0 y1 y2 y3 y4 y5, LeO (laws_four.l1 k y0 y1 y2 y3 y4 y5) (laws_four.l1 (k + 1) y0 y1 y2 y3 y4 y5))
  | 0 => ⟨fun _ _ _ r h => by simp [laws_four.l0] at h, fun _ _ _ _ _ _ r h => by simp [laws_four.l1] at h⟩
  | k + 1 => by
    obtain ⟨ih0, ih1⟩ := laws_four.mono_l k
    refine ⟨?_, ?_⟩
    · intro y0 y1 y2
      unfold laws_four.l0
      repeat' first
      | (with_reducible exact ih0 _ _ _)
      | (with_reducible exact ih1 _ _ _ _ _ _)
      | (with_reducible exact laws_until.mono _ _ _ _)
      | (with_reducible exact LeO.refl _)
      | (with_reducible exact LeO.none _)
      | (with_reducible refine LeO.ite ?_ ?_)
      | (with_reducible refine LeO.bind ?_ (fun _ => ?_))
      | exact ih0 _ _ _
      | exact ih1 _ _ _ _ _ _
      | exact laws_until.mono _ _ _ _
      | exact LeO.none _
      | refine LeO.ite ?_ ?_
      | refine LeO.bind ?_ (fun _ => ?_)
    · intro y0 y1 y2 y3 y4 y5
      unfold laws_four.l1
      repeat' first
      | (with_reducible exact ih0 _ _ _)
      | (with_reducible exact ih1 _ _ _ _ _ _)
      | (with_reducible exact laws_until.mono _ _ _ _)
      | (with_reducible exact LeO.refl _)
      | (with_reducible exact LeO.none _)
      | (with_reducible refine LeO.ite ?_ ?_)
      | (with_reducible refine LeO.bind ?_ (fun _ => ?_))
      | exact ih0 _ _ _
      | exact ih1 _ _ _ _ _ _
      | exact laws_until.mono _ _ _ _
      | exact LeO.none _
      | refine LeO.ite ?_ ?_
      | refine LeO.bind ?_ (fun _ => ?_)
theorem laws_four.mono : ∀ a0 k, LeO (laws_four.f k a0) (laws_four.f (k + 1) a0) := by
  intro a0 k
  obtain ⟨ih0, ih1⟩ := laws_four.mono_l k
  unfold laws_four.f
  repeat' first
      | (with_reducible exact ih0 _ _ _)
      | (with_reducible exact ih1 _ _ _ _ _ _)
      | (with_reducible exact laws_until.mono _ _ _ _)
      | (with_reducible exact LeO.refl _)
      | (with_reducible exact LeO.none _)
      | (with_reducible refine LeO.ite ?_ ?_)
      | (with_reducible refine LeO.bind ?_ (fun _ => ?_))
      | exact ih0 _ _ _
      | exact ih1 _ _ _ _ _ _
      | exact laws_until.mono _ _ _ _
      | exact LeO.none _
      | refine LeO.ite ?_ ?_
      | refine LeO.bind ?_ (fun _ => ?_)
set_option maxHeartbeats 8000000 in
set_option maxRecDepth 100000 in
theorem laws_four.calls (k : Nat) (a0 : ByteArray) (r : Bool) (w : World) (h : laws_four.f k a0 = some r) :
    Calls Try.prog 32 #[.string a0] w fun e w' => e = .returned (.bool r) ∧ Drawn0 w w' := by
  have H : (laws_four.l0 k a0 0 0) = some r := h
  clear h
  have H' := Aside0.mk H
  clear H
  go_enter Try.func32, Try.ntmps32
  go_wp2
  go_loopg [3, 4] k (fun kq v3 v4 w' => ∃ (x3_1 : Int) (x4_1 : Int), v3 = .int .i64 x3_1 ∧ v4 = .int .i64 x4_1 ∧ Aside0 (laws_four.l0 kq a0 x3_1 x4_1 = some r) ∧ Aside0 (kq ≤ k) ∧ Drawn0 w w')
  case atStart => exact ⟨(0), (0), (by first | rfl | (simp; done) | (simp [*]; done) | (simp [Go.Proofs.YtjmcndbkmknemaaX.isEmpty_ne]; done)), (by first | rfl | (simp; done) | (simp [*]; done) | (simp [Go.Proofs.YtjmcndbkmknemaaX.isEmpty_ne]; done)), H', ⟨Nat.le_refl _⟩, by repeat (first | exact Drawn0.refl _ | apply Drawn0.step)⟩
  case round =>
    clear H'
    obtain ⟨x3_1, x4_1, rfl, rfl, HA, HK1, ⟨m1, rfl⟩⟩ := hrel
    cases gk with
    | zero => exact absurd HA.out (by simp [laws_four.l0])
    | succ k1 =>
      have H := HA.out
      clear HA
      simp only [laws_four.l0] at H
      by_cases c2 : x4_1 ≤ (a0.size : Int)
      · rw [if_pos c2] at H
        have c2b0 : decide (x4_1 ≤ (a0.size : Int)) = true := decide_eq_true c2
        clear c2
        replace H := Option.bind_eq_some_iff.mp H
        obtain ⟨t183, A30, H⟩ := H
        replace H : (laws_four.l1 k1 a0 x3_1 x4_1 t183 0 x4_1) = some r := H
        have A3 := Aside0.mk A30
        clear A30
        have H' := Aside0.mk H
        clear H
        go_wp2_with (first | ((with_reducible refine gate_callee (f := 53) rfl ?_); refine goesL_ (some 16) rfl rfl Try.func53 (by kernel_rfl) rfl #[.string a0, .int .i64 x4_1, .int .u8 46] rfl (by (try simp only [List.map_toArray, List.map_cons, List.map_nil]); first | done | rfl | (simp only [List.length_drop, List.length_take]; rfl)) ?_; (with_reducible refine (laws_until.calls k1 a0 x4_1 46 t183 _ A3.out).mono ?_); rintro e w' ⟨rfl, ⟨nd, rfl⟩⟩; refine ⟨_, rfl, ?_⟩))
        go_loopg [6, 7] k1 (fun kq v6 v7 w' => ∃ (x6_2 : Int) (x7_2 : Int), v6 = .int .i64 x6_2 ∧ v7 = .int .i64 x7_2 ∧ Aside0 (laws_four.l1 kq a0 x3_1 x4_1 t183 x6_2 x7_2 = some r) ∧ Aside0 (kq ≤ k1) ∧ Drawn0 w w')
        case atStart => exact ⟨(0), (x4_1), (by first | rfl | (simp; done) | (simp [*]; done) | (simp [Go.Proofs.YtjmcndbkmknemaaX.isEmpty_ne]; done)), (by first | rfl | (simp; done) | (simp [*]; done) | (simp [Go.Proofs.YtjmcndbkmknemaaX.isEmpty_ne]; done)), H', ⟨Nat.le_refl _⟩, by repeat (first | exact Drawn0.refl _ | apply Drawn0.step)⟩
        case round =>
          clear H'
          try clear c2
          try clear c2b0
          try clear p2
          try clear c3
          obtain ⟨x6_2, x7_2, rfl, rfl, HA, HK2, ⟨m2, rfl⟩⟩ := hrel
          cases gk with
          | zero => exact absurd HA.out (by simp [laws_four.l1])
          | succ k2 =>
            have H := HA.out
            clear HA
            simp only [laws_four.l1] at H
            by_cases c4 : x7_2 < t183
            · rw [if_pos c4] at H
              have c4b0 : decide (x7_2 < t183) = true := decide_eq_true c4
              clear c4
              by_cases c5 : 0 ≤ x7_2
              · rw [if_pos c5] at H
                have c5b0 : decide (0 ≤ x7_2) = true := decide_eq_true c5
                clear c5
                by_cases c6 : x7_2 < (a0.size : Int)
                · rw [if_pos c6] at H
                  have c6b0 : decide (x7_2 < (a0.size : Int)) = true := decide_eq_true c6
                  clear c6
                  by_cases c8 : (bt a0 x7_2) < 48
                  · rw [if_pos c8] at H
                    have c8b0 : decide ((bt a0 x7_2) < 48) = true := decide_eq_true c8
                    clear c8
                    obtain rfl := Option.some.inj H
                    have p7 : 0 ≤ (x7_2 : Int) := of_decide_eq_true (by first | (with_reducible assumption) | assumption)
                    have q7 : x7_2 < (a0.size : Int) := of_decide_eq_true (by first | (with_reducible assumption) | assumption)
                    have hx7 := bt_at a0 x7_2
                    replace p7 := eq_true p7
                    replace q7 := eq_true q7
                    go_wp2
                    go_ret
                    exact ⟨by first | rfl | (simp; done) | (simp [*]; done) | (simp [Go.Proofs.YtjmcndbkmknemaaX.isEmpty_ne]; done), by repeat (first | exact Drawn0.refl _ | apply Drawn0.step)⟩
                  · rw [if_neg c8] at H
                    have c8b0 : decide ((bt a0 x7_2) < 48) = false := decide_eq_false c8
                    clear c8
                    by_cases c10 : (bt a0 x7_2) > 57
                    · rw [if_pos c10] at H
                      have c10b0 : decide (57 < (bt a0 x7_2)) = true := decide_eq_true c10
                      clear c10
                      obtain rfl := Option.some.inj H
                      have p7 : 0 ≤ (x7_2 : Int) := of_decide_eq_true (by first | (with_reducible assumption) | assumption)
                      have q7 : x7_2 < (a0.size : Int) := of_decide_eq_true (by first | (with_reducible assumption) | assumption)
                      have hx7 := bt_at a0 x7_2
                      replace p7 := eq_true p7
                      replace q7 := eq_true q7
                      have p9 : 0 ≤ (x7_2 : Int) := of_decide_eq_true (by first | (with_reducible assumption) | assumption)
                      have q9 : x7_2 < (a0.size : Int) := of_decide_eq_true (by first | (with_reducible assumption) | assumption)
                      have hx9 := bt_at a0 x7_2
                      replace p9 := eq_true p9
                      replace q9 := eq_true q9
                      go_wp2
                      go_ret
                      exact ⟨by first | rfl | (simp; done) | (simp [*]; done) | (simp [Go.Proofs.YtjmcndbkmknemaaX.isEmpty_ne]; done), by repeat (first | exact Drawn0.refl _ | apply Drawn0.step)⟩
                    · rw [if_neg c10] at H
                      have c10b0 : decide (57 < (bt a0 x7_2)) = false := decide_eq_false c10
                      clear c10
                      by_cases c11 : (wrap64 (t183 - x4_1)) > 3
                      · rw [if_pos c11] at H
                        have c11b0 : decide (3 < (wrap64 (t183 - x4_1))) = true := decide_eq_true c11
                        clear c11
                        obtain rfl := Option.some.inj H
                        have p7 : 0 ≤ (x7_2 : Int) := of_decide_eq_true (by first | (with_reducible assumption) | assumption)
                        have q7 : x7_2 < (a0.size : Int) := of_decide_eq_true (by first | (with_reducible assumption) | assumption)
                        have hx7 := bt_at a0 x7_2
                        replace p7 := eq_true p7
                        replace q7 := eq_true q7
                        have p9 : 0 ≤ (x7_2 : Int) := of_decide_eq_true (by first | (with_reducible assumption) | assumption)
                        have q9 : x7_2 < (a0.size : Int) := of_decide_eq_true (by first | (with_reducible assumption) | assumption)
                        have hx9 := bt_at a0 x7_2
                        replace p9 := eq_true p9
                        replace q9 := eq_true q9
                        go_wp2
                        go_ret
                        exact ⟨by first | rfl | (simp; done) | (simp [*]; done) | (simp [Go.Proofs.YtjmcndbkmknemaaX.isEmpty_ne]; done), by repeat (first | exact Drawn0.refl _ | apply Drawn0.step)⟩
                      · rw [if_neg c11] at H
                        have c11b0 : decide (3 < (wrap64 (t183 - x4_1))) = false := decide_eq_false c11
                        clear c11
                        have H' := Aside0.mk H
                        clear H
                        have p7 : 0 ≤ (x7_2 : Int) := of_decide_eq_true (by first | (with_reducible assumption) | assumption)
                        have q7 : x7_2 < (a0.size : Int) := of_decide_eq_true (by first | (with_reducible assumption) | assumption)
                        have hx7 := bt_at a0 x7_2
                        replace p7 := eq_true p7
                        replace q7 := eq_true q7
                        have p9 : 0 ≤ (x7_2 : Int) := of_decide_eq_true (by first | (with_reducible assumption) | assumption)
                        have q9 : x7_2 < (a0.size : Int) := of_decide_eq_true (by first | (with_reducible assumption) | assumption)
                        have hx9 := bt_at a0 x7_2
                        replace p9 := eq_true p9
                        replace q9 := eq_true q9
                        have p12 : 0 ≤ (x7_2 : Int) := of_decide_eq_true (by first | (with_reducible assumption) | assumption)
                        have q12 : x7_2 < (a0.size : Int) := of_decide_eq_true (by first | (with_reducible assumption) | assumption)
                        have hx12 := bt_at a0 x7_2
                        replace p12 := eq_true p12
                        replace q12 := eq_true q12
                        go_wp2
                        go_roundg k2
                        case measure => have := HK1.out; have := HK2.out; omega
                        case rel => exact ⟨(wrap64 ((wrap64 (10 * x6_2)) + (((bt a0 x7_2) - 48) % 256))), (wrap64 (x7_2 + 1)), (by first | rfl | (simp; done) | (simp [*]; done) | (simp [Go.Proofs.YtjmcndbkmknemaaX.isEmpty_ne]; done)), (by first | rfl | (simp; done) | (simp [*]; done) | (simp [Go.Proofs.YtjmcndbkmknemaaX.isEmpty_ne]; done)), H', ⟨by have := HK1.out; have := HK2.out; omega⟩, by repeat (first | exact Drawn0.refl _ | apply Drawn0.step)⟩
                · rw [if_neg c6] at H
                  exact absurd H (by simp)
              · rw [if_neg c5] at H
                exact absurd H (by simp)
            · rw [if_neg c4] at H
              have c4b0 : decide (x7_2 < t183) = false := decide_eq_false c4
              clear c4
              by_cases c13 : x4_1 = t183
              · rw [if_pos c13] at H
                have c13b0 : (x4_1 == t183) = true := beq_iff_eq.mpr c13
                have c13b1 : (x4_1 != t183) = false := bne_eq_false_iff_eq.mpr c13
                clear c13
                obtain rfl := Option.some.inj H
                go_wp2
                go_ret
                exact ⟨by first | rfl | (simp; done) | (simp [*]; done) | (simp [Go.Proofs.YtjmcndbkmknemaaX.isEmpty_ne]; done), by repeat (first | exact Drawn0.refl _ | apply Drawn0.step)⟩
              · rw [if_neg c13] at H
                have c13b0 : (x4_1 == t183) = false := beq_eq_false_iff_ne.mpr c13
                have c13b1 : (x4_1 != t183) = true := bne_iff_ne.mpr c13
                by_cases c14 : x6_2 > 255
                · rw [if_pos c14] at H
                  have c14b0 : decide (255 < x6_2) = true := decide_eq_true c14
                  clear c14
                  obtain rfl := Option.some.inj H
                  go_wp2
                  go_ret
                  exact ⟨by first | rfl | (simp; done) | (simp [*]; done) | (simp [Go.Proofs.YtjmcndbkmknemaaX.isEmpty_ne]; done), by repeat (first | exact Drawn0.refl _ | apply Drawn0.step)⟩
                · rw [if_neg c14] at H
                  have c14b0 : decide (255 < x6_2) = false := decide_eq_false c14
                  clear c14
                  by_cases c15 : (wrap64 (t183 - x4_1)) > 1
                  · rw [if_pos c15] at H
                    have c15b0 : decide (1 < (wrap64 (t183 - x4_1))) = true := decide_eq_true c15
                    clear c15
                    by_cases c16 : 0 ≤ x4_1
                    · rw [if_pos c16] at H
                      have c16b0 : decide (0 ≤ x4_1) = true := decide_eq_true c16
                      clear c16
                      by_cases c17 : x4_1 < (a0.size : Int)
                      · rw [if_pos c17] at H
                        have c17b0 : decide (x4_1 < (a0.size : Int)) = true := decide_eq_true c17
                        clear c17
                        by_cases c19 : (bt a0 x4_1) = 48
                        · rw [if_pos c19] at H
                          have c19b0 : ((bt a0 x4_1) == 48) = true := beq_iff_eq.mpr c19
                          have c19b1 : ((bt a0 x4_1) != 48) = false := bne_eq_false_iff_eq.mpr c19
                          clear c19
                          obtain rfl := Option.some.inj H
                          have p18 : 0 ≤ (x4_1 : Int) := of_decide_eq_true (by first | (with_reducible assumption) | assumption)
                          have q18 : x4_1 < (a0.size : Int) := of_decide_eq_true (by first | (with_reducible assumption) | assumption)
                          have hx18 := bt_at a0 x4_1
                          replace p18 := eq_true p18
                          replace q18 := eq_true q18
                          go_wp2
                          go_ret
                          exact ⟨by first | rfl | (simp; done) | (simp [*]; done) | (simp [Go.Proofs.YtjmcndbkmknemaaX.isEmpty_ne]; done), by repeat (first | exact Drawn0.refl _ | apply Drawn0.step)⟩
                        · rw [if_neg c19] at H
                          have c19b0 : ((bt a0 x4_1) == 48) = false := beq_eq_false_iff_ne.mpr c19
                          have c19b1 : ((bt a0 x4_1) != 48) = true := bne_iff_ne.mpr c19
                          have H' := Aside0.mk H
                          clear H
                          have p18 : 0 ≤ (x4_1 : Int) := of_decide_eq_true (by first | (with_reducible assumption) | assumption)
                          have q18 : x4_1 < (a0.size : Int) := of_decide_eq_true (by first | (with_reducible assumption) | assumption)
                          have hx18 := bt_at a0 x4_1
                          replace p18 := eq_true p18
                          replace q18 := eq_true q18
                          go_wp2
                          go_roundg k2
                          case measure => have := HK1.out; have := HK2.out; omega
                          case rel => exact ⟨(wrap64 (x3_1 + 1)), (wrap64 (t183 + 1)), (by first | rfl | (simp; done) | (simp [*]; done) | (simp [Go.Proofs.YtjmcndbkmknemaaX.isEmpty_ne]; done)), (by first | rfl | (simp; done) | (simp [*]; done) | (simp [Go.Proofs.YtjmcndbkmknemaaX.isEmpty_ne]; done)), H', ⟨by have := HK1.out; have := HK2.out; omega⟩, by repeat (first | exact Drawn0.refl _ | apply Drawn0.step)⟩
                      · rw [if_neg c17] at H
                        exact absurd H (by simp)
                    · rw [if_neg c16] at H
                      exact absurd H (by simp)
                  · rw [if_neg c15] at H
                    have c15b0 : decide (1 < (wrap64 (t183 - x4_1))) = false := decide_eq_false c15
                    clear c15
                    have H' := Aside0.mk H
                    clear H
                    go_wp2
                    go_roundg k2
                    case measure => have := HK1.out; have := HK2.out; omega
                    case rel => exact ⟨(wrap64 (x3_1 + 1)), (wrap64 (t183 + 1)), (by first | rfl | (simp; done) | (simp [*]; done) | (simp [Go.Proofs.YtjmcndbkmknemaaX.isEmpty_ne]; done)), (by first | rfl | (simp; done) | (simp [*]; done) | (simp [Go.Proofs.YtjmcndbkmknemaaX.isEmpty_ne]; done)), H', ⟨by have := HK1.out; have := HK2.out; omega⟩, by repeat (first | exact Drawn0.refl _ | apply Drawn0.step)⟩
      · rw [if_neg c2] at H
        have c2b0 : decide (x4_1 ≤ (a0.size : Int)) = false := decide_eq_false c2
        clear c2
        obtain rfl := Option.some.inj H
        go_wp2
        go_ret
        exact ⟨by first | rfl | (simp; done) | (simp [*]; done) | (simp [Go.Proofs.YtjmcndbkmknemaaX.isEmpty_ne]; done), by repeat (first | exact Drawn0.refl _ | apply Drawn0.step)⟩

end Go.Proofs.Ytjmcndbkmknemaa.Q
