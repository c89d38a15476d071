/- FnCookieSays: the law's function, called with any arguments, returns true and leaves its arguments as they were: every input, no condition. Part 8 of 12. -/
import Derived.Test.YtfbllodbcmcndaaZFnCookieSays6
import Derived.Test.YtfbllodbcmcndaaZFnCookieSays1
section
namespace Go.Proofs.Ytfbllodbcmcndaa.Q
open Go.RowKit Go.Proofs.YtfbllodbcmcndaaW.PrintWords Go.Proofs.YtfbllodbcmcndaaW.PrintLast Go.Proofs.YtfbllodbcmcndaaW.PrintMore
attribute [local go_sem] max2_int min2_int max_two min_two max_three min_three max_four min_four
set_option linter.unusedVariables false
set_option linter.unusedSimpArgs false
def spec_token.l0 : Nat → ByteArray → Int → Option (Bool)
  | 0, _, _ => none
  | k + 1, x0, x3 => if x3 < (x0.size : Int) then (if 0 ≤ x3 then (if (bt x0 x3) < 97 then (if (bt x0 x3) < 65 then (if (bt x0 x3) < 48 then (if (bt x0 x3) = 45 then (spec_token.l0 k x0 (wrap64 (x3 + 1))) else (if (bt x0 x3) = 46 then (spec_token.l0 k x0 (wrap64 (x3 + 1))) else (if (bt x0 x3) = 95 then (spec_token.l0 k x0 (wrap64 (x3 + 1))) else (if (bt x0 x3) = 126 then (spec_token.l0 k x0 (wrap64 (x3 + 1))) else (some false))))) else (if (bt x0 x3) > 57 then (if (bt x0 x3) = 45 then (spec_token.l0 k x0 (wrap64 (x3 + 1))) else (if (bt x0 x3) = 46 then (spec_token.l0 k x0 (wrap64 (x3 + 1))) else (if (bt x0 x3) = 95 then (spec_token.l0 k x0 (wrap64 (x3 + 1))) else (if (bt x0 x3) = 126 then (spec_token.l0 k x0 (wrap64 (x3 + 1))) else (some false))))) else (spec_token.l0 k x0 (wrap64 (x3 + 1))))) else (if (bt x0 x3) > 90 then (if (bt x0 x3) < 48 then (if (bt x0 x3) = 45 then (spec_token.l0 k x0 (wrap64 (x3 + 1))) else (if (bt x0 x3) = 46 then (spec_token.l0 k x0 (wrap64 (x3 + 1))) else (if (bt x0 x3) = 95 then (spec_token.l0 k x0 (wrap64 (x3 + 1))) else (if (bt x0 x3) = 126 then (spec_token.l0 k x0 (wrap64 (x3 + 1))) else (some false))))) else (if (bt x0 x3) > 57 then (if (bt x0 x3) = 45 then (spec_token.l0 k x0 (wrap64 (x3 + 1))) else (if (bt x0 x3) = 46 then (spec_token.l0 k x0 (wrap64 (x3 + 1))) else (if (bt x0 x3) = 95 then (spec_token.l0 k x0 (wrap64 (x3 + 1))) else (if (bt x0 x3) = 126 then (spec_token.l0 k x0 (wrap64 (x3 + 1))) else (some false))))) else (spec_token.l0 k x0 (wrap64 (x3 + 1))))) else (spec_token.l0 k x0 (wrap64 (x3 + 1))))) else (if (bt x0 x3) > 122 then (if (bt x0 x3) < 65 then (if (bt x0 x3) < 48 then (if (bt x0 x3) = 45 then (spec_token.l0 k x0 (wrap64 (x3 + 1))) else (if (bt x0 x3) = 46 then (spec_token.l0 k x0 (wrap64 (x3 + 1))) else (if (bt x0 x3) = 95 then (spec_token.l0 k x0 (wrap64 (x3 + 1))) else (if (bt x0 x3) = 126 then (spec_token.l0 k x0 (wrap64 (x3 + 1))) else (some false))))) else (if (bt x0 x3) > 57 then (if (bt x0 x3) = 45 then (spec_token.l0 k x0 (wrap64 (x3 + 1))) else (if (bt x0 x3) = 46 then (spec_token.l0 k x0 (wrap64 (x3 + 1))) else (if (bt x0 x3) = 95 then (spec_token.l0 k x0 (wrap64 (x3 + 1))) else (if (bt x0 x3) = 126 then (spec_token.l0 k x0 (wrap64 (x3 + 1))) else (some false))))) else (spec_token.l0 k x0 (wrap64 (x3 + 1))))) else (if (bt x0 x3) > 90 then (if (bt x0 x3) < 48 then (if (bt x0 x3) = 45 then (spec_token.l0 k x0 (wrap64 (x3 + 1))) else (if (bt x0 x3) = 46 then (spec_token.l0 k x0 (wrap64 (x3 + 1))) else (if (bt x0 x3) = 95 then (spec_token.l0 k x0 (wrap64 (x3 + 1))) else (if (bt x0 x3) = 126 then (spec_token.l0 k x0 (wrap64 (x3 + 1))) else (some false))))) else (if (bt x0 x3) > 57 then (if (bt x0 x3) = 45 then (spec_token.l0 k x0 (wrap64 (x3 + 1))) else (if (bt x0 x3) = 46 then (spec_token.l0 k x0 (wrap64 (x3 + 1))) else (if (bt x0 x3) = 95 then (spec_token.l0 k x0 (wrap64 (x3 + 1))) else (if (bt x0 x3) = 126 then (spec_token.l0 k x0 (wrap64 (x3 + 1))) else (some false))))) else (spec_token.l0 k x0 (wrap64 (x3 + 1))))) else (spec_token.l0 k x0 (wrap64 (x3 + 1))))) else (spec_token.l0 k x0 (wrap64 (x3 + 1))))) else (none)) else (some (x0.toList != ([] : List UInt8)))
def spec_token.f (k : Nat) (a0 : ByteArray) : Option (Bool) := spec_token.l0 k a0 0
set_option maxHeartbeats 8000000 in
set_option maxRecDepth 100000 in
theorem spec_token.calls (k : Nat) (a0 : ByteArray) (r : Bool) (w : World) (h : spec_token.f k a0 = some r) :
    Calls Try.prog 62 #[.string a0] w fun e w' => e = .returned (.bool r) ∧ Drawn0 w w' := by
  have H : (spec_token.l0 k a0 0) = some r := h
  clear h
  have H' := Aside0.mk H
  clear H
  go_enter Try.func62, Try.ntmps62
  go_wp2
  go_loopg [3] k (fun kq v3 w' => ∃ (x3_1 : Int), v3 = .int .i64 x3_1 ∧ Aside0 (spec_token.l0 kq a0 x3_1 = some r) ∧ Aside0 (kq ≤ k) ∧ Drawn0 w w')
  case atStart => exact ⟨(0), (by first | rfl | (simp; done) | (simp [*]; done) | (simp [Go.Proofs.YtfbllodbcmcndaaX.isEmpty_ne]; done)), H', ⟨Nat.le_refl _⟩, by repeat (first | exact Drawn0.refl _ | apply Drawn0.step)⟩
  case round =>
    clear H'
    obtain ⟨x3_1, rfl, HA, HK1, ⟨m1, rfl⟩⟩ := hrel
    cases gk with
    | zero => exact absurd HA.out (by simp [spec_token.l0])
    | succ k1 =>
      have H := HA.out
      clear HA
      simp only [spec_token.l0] at H
      by_cases c2 : x3_1 < (a0.size : Int)
      · rw [if_pos c2] at H
        have c2b0 : decide (x3_1 < (a0.size : Int)) = true := decide_eq_true c2
        clear c2
        by_cases c3 : 0 ≤ x3_1
        · rw [if_pos c3] at H
          have c3b0 : decide (0 ≤ x3_1) = true := decide_eq_true c3
          clear c3
          by_cases c5 : (bt a0 x3_1) < 97
          · rw [if_pos c5] at H
            have c5b0 : decide ((bt a0 x3_1) < 97) = true := decide_eq_true c5
            clear c5
            by_cases c6 : (bt a0 x3_1) < 65
            · rw [if_pos c6] at H
              have c6b0 : decide ((bt a0 x3_1) < 65) = true := decide_eq_true c6
              clear c6
              by_cases c7 : (bt a0 x3_1) < 48
              · rw [if_pos c7] at H
                have c7b0 : decide ((bt a0 x3_1) < 48) = true := decide_eq_true c7
                clear c7
                by_cases c8 : (bt a0 x3_1) = 45
                · rw [if_pos c8] at H
                  have c8b0 : ((bt a0 x3_1) == 45) = true := beq_iff_eq.mpr c8
                  have c8b1 : ((bt a0 x3_1) != 45) = false := bne_eq_false_iff_eq.mpr c8
                  clear c8
                  have H' := Aside0.mk H
                  clear H
                  have p4 : 0 ≤ (x3_1 : Int) := of_decide_eq_true (by first | (with_reducible assumption) | assumption)
                  have q4 : x3_1 < (a0.size : Int) := of_decide_eq_true (by first | (with_reducible assumption) | assumption)
                  have hx4 := bt_at a0 x3_1
                  replace p4 := eq_true p4
                  replace q4 := eq_true q4
                  go_wp2
                  go_roundg k1
                  case measure => have := HK1.out; omega
                  case rel => exact ⟨(wrap64 (x3_1 + 1)), (by first | rfl | (simp; done) | (simp [*]; done) | (simp [Go.Proofs.YtfbllodbcmcndaaX.isEmpty_ne]; done)), H', ⟨by have := HK1.out; omega⟩, by repeat (first | exact Drawn0.refl _ | apply Drawn0.step)⟩
                · rw [if_neg c8] at H
                  have c8b0 : ((bt a0 x3_1) == 45) = false := beq_eq_false_iff_ne.mpr c8
                  have c8b1 : ((bt a0 x3_1) != 45) = true := bne_iff_ne.mpr c8
                  by_cases c9 : (bt a0 x3_1) = 46
                  · rw [if_pos c9] at H
                    have c9b0 : ((bt a0 x3_1) == 46) = true := beq_iff_eq.mpr c9
                    have c9b1 : ((bt a0 x3_1) != 46) = false := bne_eq_false_iff_eq.mpr c9
                    clear c9
                    have H' := Aside0.mk H
                    clear H
                    have p4 : 0 ≤ (x3_1 : Int) := of_decide_eq_true (by first | (with_reducible assumption) | assumption)
                    have q4 : x3_1 < (a0.size : Int) := of_decide_eq_true (by first | (with_reducible assumption) | assumption)
                    have hx4 := bt_at a0 x3_1
                    replace p4 := eq_true p4
                    replace q4 := eq_true q4
                    go_wp2
                    go_roundg k1
                    case measure => have := HK1.out; omega
                    case rel => exact ⟨(wrap64 (x3_1 + 1)), (by first | rfl | (simp; done) | (simp [*]; done) | (simp [Go.Proofs.YtfbllodbcmcndaaX.isEmpty_ne]; done)), H', ⟨by have := HK1.out; omega⟩, by repeat (first | exact Drawn0.refl _ | apply Drawn0.step)⟩
                  · rw [if_neg c9] at H
                    have c9b0 : ((bt a0 x3_1) == 46) = false := beq_eq_false_iff_ne.mpr c9
                    have c9b1 : ((bt a0 x3_1) != 46) = true := bne_iff_ne.mpr c9
                    by_cases c10 : (bt a0 x3_1) = 95
                    · rw [if_pos c10] at H
                      have c10b0 : ((bt a0 x3_1) == 95) = true := beq_iff_eq.mpr c10
                      have c10b1 : ((bt a0 x3_1) != 95) = false := bne_eq_false_iff_eq.mpr c10
                      clear c10
                      have H' := Aside0.mk H
                      clear H
                      have p4 : 0 ≤ (x3_1 : Int) := of_decide_eq_true (by first | (with_reducible assumption) | assumption)
                      have q4 : x3_1 < (a0.size : Int) := of_decide_eq_true (by first | (with_reducible assumption) | assumption)
                      have hx4 := bt_at a0 x3_1
                      replace p4 := eq_true p4
                      replace q4 := eq_true q4
                      go_wp2
                      go_roundg k1
                      case measure => have := HK1.out; omega
                      case rel => exact ⟨(wrap64 (x3_1 + 1)), (by first | rfl | (simp; done) | (simp [*]; done) | (simp [Go.Proofs.YtfbllodbcmcndaaX.isEmpty_ne]; done)), H', ⟨by have := HK1.out; omega⟩, by repeat (first | exact Drawn0.refl _ | apply Drawn0.step)⟩
                    · rw [if_neg c10] at H
                      have c10b0 : ((bt a0 x3_1) == 95) = false := beq_eq_false_iff_ne.mpr c10
                      have c10b1 : ((bt a0 x3_1) != 95) = true := bne_iff_ne.mpr c10
                      by_cases c11 : (bt a0 x3_1) = 126
                      · rw [if_pos c11] at H
                        have c11b0 : ((bt a0 x3_1) == 126) = true := beq_iff_eq.mpr c11
                        have c11b1 : ((bt a0 x3_1) != 126) = false := bne_eq_false_iff_eq.mpr c11
                        clear c11
                        have H' := Aside0.mk H
                        clear H
                        have p4 : 0 ≤ (x3_1 : Int) := of_decide_eq_true (by first | (with_reducible assumption) | assumption)
                        have q4 : x3_1 < (a0.size : Int) := of_decide_eq_true (by first | (with_reducible assumption) | assumption)
                        have hx4 := bt_at a0 x3_1
                        replace p4 := eq_true p4
                        replace q4 := eq_true q4
                        go_wp2
                        go_roundg k1
                        case measure => have := HK1.out; omega
                        case rel => exact ⟨(wrap64 (x3_1 + 1)), (by first | rfl | (simp; done) | (simp [*]; done) | (simp [Go.Proofs.YtfbllodbcmcndaaX.isEmpty_ne]; done)), H', ⟨by have := HK1.out; omega⟩, by repeat (first | exact Drawn0.refl _ | apply Drawn0.step)⟩
                      · rw [if_neg c11] at H
                        have c11b0 : ((bt a0 x3_1) == 126) = false := beq_eq_false_iff_ne.mpr c11
                        have c11b1 : ((bt a0 x3_1) != 126) = true := bne_iff_ne.mpr c11
                        obtain rfl := Option.some.inj H
                        have p4 : 0 ≤ (x3_1 : Int) := of_decide_eq_true (by first | (with_reducible assumption) | assumption)
                        have q4 : x3_1 < (a0.size : Int) := of_decide_eq_true (by first | (with_reducible assumption) | assumption)
                        have hx4 := bt_at a0 x3_1
                        replace p4 := eq_true p4
                        replace q4 := eq_true q4
                        go_wp2
                        go_ret
                        exact ⟨by first | rfl | (simp; done) | (simp [*]; done) | (simp [Go.Proofs.YtfbllodbcmcndaaX.isEmpty_ne]; done), by repeat (first | exact Drawn0.refl _ | apply Drawn0.step)⟩
              · rw [if_neg c7] at H
                have c7b0 : decide ((bt a0 x3_1) < 48) = false := decide_eq_false c7
                clear c7
                by_cases c12 : (bt a0 x3_1) > 57
                · rw [if_pos c12] at H
                  have c12b0 : decide (57 < (bt a0 x3_1)) = true := decide_eq_true c12
                  clear c12
                  by_cases c13 : (bt a0 x3_1) = 45
                  · rw [if_pos c13] at H
                    have c13b0 : ((bt a0 x3_1) == 45) = true := beq_iff_eq.mpr c13
                    have c13b1 : ((bt a0 x3_1) != 45) = false := bne_eq_false_iff_eq.mpr c13
                    clear c13
                    have H' := Aside0.mk H
                    clear H
                    have p4 : 0 ≤ (x3_1 : Int) := of_decide_eq_true (by first | (with_reducible assumption) | assumption)
                    have q4 : x3_1 < (a0.size : Int) := of_decide_eq_true (by first | (with_reducible assumption) | assumption)
                    have hx4 := bt_at a0 x3_1
                    replace p4 := eq_true p4
                    replace q4 := eq_true q4
                    go_wp2
                    go_roundg k1
                    case measure => have := HK1.out; omega
                    case rel => exact ⟨(wrap64 (x3_1 + 1)), (by first | rfl | (simp; done) | (simp [*]; done) | (simp [Go.Proofs.YtfbllodbcmcndaaX.isEmpty_ne]; done)), H', ⟨by have := HK1.out; omega⟩, by repeat (first | exact Drawn0.refl _ | apply Drawn0.step)⟩
                  · rw [if_neg c13] at H
                    have c13b0 : ((bt a0 x3_1) == 45) = false := beq_eq_false_iff_ne.mpr c13
                    have c13b1 : ((bt a0 x3_1) != 45) = true := bne_iff_ne.mpr c13
                    by_cases c14 : (bt a0 x3_1) = 46
                    · rw [if_pos c14] at H
                      have c14b0 : ((bt a0 x3_1) == 46) = true := beq_iff_eq.mpr c14
                      have c14b1 : ((bt a0 x3_1) != 46) = false := bne_eq_false_iff_eq.mpr c14
                      clear c14
                      have H' := Aside0.mk H
                      clear H
                      have p4 : 0 ≤ (x3_1 : Int) := of_decide_eq_true (by first | (with_reducible assumption) | assumption)
                      have q4 : x3_1 < (a0.size : Int) := of_decide_eq_true (by first | (with_reducible assumption) | assumption)
                      have hx4 := bt_at a0 x3_1
                      replace p4 := eq_true p4
                      replace q4 := eq_true q4
                      go_wp2
                      go_roundg k1
                      case measure => have := HK1.out; omega
                      case rel => exact ⟨(wrap64 (x3_1 + 1)), (by first | rfl | (simp; done) | (simp [*]; done) | (simp [Go.Proofs.YtfbllodbcmcndaaX.isEmpty_ne]; done)), H', ⟨by have := HK1.out; omega⟩, by repeat (first | exact Drawn0.refl _ | apply Drawn0.step)⟩
                    · rw [if_neg c14] at H
                      have c14b0 : ((bt a0 x3_1) == 46) = false := beq_eq_false_iff_ne.mpr c14
                      have c14b1 : ((bt a0 x3_1) != 46) = true := bne_iff_ne.mpr c14
                      by_cases c15 : (bt a0 x3_1) = 95
                      · rw [if_pos c15] at H
                        have c15b0 : ((bt a0 x3_1) == 95) = true := beq_iff_eq.mpr c15
                        have c15b1 : ((bt a0 x3_1) != 95) = false := bne_eq_false_iff_eq.mpr c15
                        clear c15
                        have H' := Aside0.mk H
                        clear H
                        have p4 : 0 ≤ (x3_1 : Int) := of_decide_eq_true (by first | (with_reducible assumption) | assumption)
                        have q4 : x3_1 < (a0.size : Int) := of_decide_eq_true (by first | (with_reducible assumption) | assumption)
                        have hx4 := bt_at a0 x3_1
                        replace p4 := eq_true p4
                        replace q4 := eq_true q4
                        go_wp2
                        go_roundg k1
                        case measure => have := HK1.out; omega
                        case rel => exact ⟨(wrap64 (x3_1 + 1)), (by first | rfl | (simp; done) | (simp [*]; done) | (simp [Go.Proofs.YtfbllodbcmcndaaX.isEmpty_ne]; done)), H', ⟨by have := HK1.out; omega⟩, by repeat (first | exact Drawn0.refl _ | apply Drawn0.step)⟩
                      · rw [if_neg c15] at H
                        have c15b0 : ((bt a0 x3_1) == 95) = false := beq_eq_false_iff_ne.mpr c15
                        have c15b1 : ((bt a0 x3_1) != 95) = true := bne_iff_ne.mpr c15
                        by_cases c16 : (bt a0 x3_1) = 126
                        · rw [if_pos c16] at H
                          have c16b0 : ((bt a0 x3_1) == 126) = true := beq_iff_eq.mpr c16
                          have c16b1 : ((bt a0 x3_1) != 126) = false := bne_eq_false_iff_eq.mpr c16
                          clear c16
                          have H' := Aside0.mk H
                          clear H
                          have p4 : 0 ≤ (x3_1 : Int) := of_decide_eq_true (by first | (with_reducible assumption) | assumption)
                          have q4 : x3_1 < (a0.size : Int) := of_decide_eq_true (by first | (with_reducible assumption) | assumption)
                          have hx4 := bt_at a0 x3_1
                          replace p4 := eq_true p4
                          replace q4 := eq_true q4
                          go_wp2
                          go_roundg k1
                          case measure => have := HK1.out; omega
                          case rel => exact ⟨(wrap64 (x3_1 + 1)), (by first | rfl | (simp; done) | (simp [*]; done) | (simp [Go.Proofs.YtfbllodbcmcndaaX.isEmpty_ne]; done)), H', ⟨by have := HK1.out; omega⟩, by repeat (first | exact Drawn0.refl _ | apply Drawn0.step)⟩
                        · rw [if_neg c16] at H
                          have c16b0 : ((bt a0 x3_1) == 126) = false := beq_eq_false_iff_ne.mpr c16
                          have c16b1 : ((bt a0 x3_1) != 126) = true := bne_iff_ne.mpr c16
                          obtain rfl := Option.some.inj H
                          have p4 : 0 ≤ (x3_1 : Int) := of_decide_eq_true (by first | (with_reducible assumption) | assumption)
                          have q4 : x3_1 < (a0.size : Int) := of_decide_eq_true (by first | (with_reducible assumption) | assumption)
                          have hx4 := bt_at a0 x3_1
                          replace p4 := eq_true p4
                          replace q4 := eq_true q4
                          go_wp2
                          go_ret
                          exact ⟨by first | rfl | (simp; done) | (simp [*]; done) | (simp [Go.Proofs.YtfbllodbcmcndaaX.isEmpty_ne]; done), by repeat (first | exact Drawn0.refl _ | apply Drawn0.step)⟩
                · rw [if_neg c12] at H
                  have c12b0 : decide (57 < (bt a0 x3_1)) = false := decide_eq_false c12
                  clear c12
                  have H' := Aside0.mk H
                  clear H
                  have p4 : 0 ≤ (x3_1 : Int) := of_decide_eq_true (by first | (with_reducible assumption) | assumption)
                  have q4 : x3_1 < (a0.size : Int) := of_decide_eq_true (by first | (with_reducible assumption) | assumption)
                  have hx4 := bt_at a0 x3_1
                  replace p4 := eq_true p4
                  replace q4 := eq_true q4
                  go_wp2
                  go_roundg k1
                  case measure => have := HK1.out; omega
                  case rel => exact ⟨(wrap64 (x3_1 + 1)), (by first | rfl | (simp; done) | (simp [*]; done) | (simp [Go.Proofs.YtfbllodbcmcndaaX.isEmpty_ne]; done)), H', ⟨by have := HK1.out; omega⟩, by repeat (first | exact Drawn0.refl _ | apply Drawn0.step)⟩
            · rw [if_neg c6] at H
              have c6b0 : decide ((bt a0 x3_1) < 65) = false := decide_eq_false c6
              clear c6
              by_cases c17 : (bt a0 x3_1) > 90
              · rw [if_pos c17] at H
                have c17b0 : decide (90 < (bt a0 x3_1)) = true := decide_eq_true c17
                clear c17
                by_cases c18 : (bt a0 x3_1) < 48
                · rw [if_pos c18] at H
                  have c18b0 : decide ((bt a0 x3_1) < 48) = true := decide_eq_true c18
                  clear c18
                  by_cases c19 : (bt a0 x3_1) = 45
                  · rw [if_pos c19] at H
                    have c19b0 : ((bt a0 x3_1) == 45) = true := beq_iff_eq.mpr c19
                    have c19b1 : ((bt a0 x3_1) != 45) = false := bne_eq_false_iff_eq.mpr c19
                    clear c19
                    have H' := Aside0.mk H
                    clear H
                    have p4 : 0 ≤ (x3_1 : Int) := of_decide_eq_true (by first | (with_reducible assumption) | assumption)
                    have q4 : x3_1 < (a0.size : Int) := of_decide_eq_true (by first | (with_reducible assumption) | assumption)
                    have hx4 := bt_at a0 x3_1
                    replace p4 := eq_true p4
                    replace q4 := eq_true q4
                    go_wp2
                    go_roundg k1
                    case measure => have := HK1.out; omega
                    case rel => exact ⟨(wrap64 (x3_1 + 1)), (by first | rfl | (simp; done) | (simp [*]; done) | (simp [Go.Proofs.YtfbllodbcmcndaaX.isEmpty_ne]; done)), H', ⟨by have := HK1.out; omega⟩, by repeat (first | exact Drawn0.refl _ | apply Drawn0.step)⟩
                  · rw [if_neg c19] at H
                    have c19b0 : ((bt a0 x3_1) == 45) = false := beq_eq_false_iff_ne.mpr c19
                    have c19b1 : ((bt a0 x3_1) != 45) = true := bne_iff_ne.mpr c19
                    by_cases c20 : (bt a0 x3_1) = 46
                    · rw [if_pos c20] at H
                      have c20b0 : ((bt a0 x3_1) == 46) = true := beq_iff_eq.mpr c20
                      have c20b1 : ((bt a0 x3_1) != 46) = false := bne_eq_false_iff_eq.mpr c20
                      clear c20
                      have H' := Aside0.mk H
                      clear H
                      have p4 : 0 ≤ (x3_1 : Int) := of_decide_eq_true (by first | (with_reducible assumption) | assumption)
                      have q4 : x3_1 < (a0.size : Int) := of_decide_eq_true (by first | (with_reducible assumption) | assumption)
                      have hx4 := bt_at a0 x3_1
                      replace p4 := eq_true p4
                      replace q4 := eq_true q4
                      go_wp2
                      go_roundg k1
                      case measure => have := HK1.out; omega
                      case rel => exact ⟨(wrap64 (x3_1 + 1)), (by first | rfl | (simp; done) | (simp [*]; done) | (simp [Go.Proofs.YtfbllodbcmcndaaX.isEmpty_ne]; done)), H', ⟨by have := HK1.out; omega⟩, by repeat (first | exact Drawn0.refl _ | apply Drawn0.step)⟩
                    · rw [if_neg c20] at H
                      have c20b0 : ((bt a0 x3_1) == 46) = false := beq_eq_false_iff_ne.mpr c20
                      have c20b1 : ((bt a0 x3_1) != 46) = true := bne_iff_ne.mpr c20
                      by_cases c21 : (bt a0 x3_1) = 95
                      · rw [if_pos c21] at H
                        have c21b0 : ((bt a0 x3_1) == 95) = true := beq_iff_eq.mpr c21
                        have c21b1 : ((bt a0 x3_1) != 95) = false := bne_eq_false_iff_eq.mpr c21
                        clear c21
                        have H' := Aside0.mk H
                        clear H
                        have p4 : 0 ≤ (x3_1 : Int) := of_decide_eq_true (by first | (with_reducible assumption) | assumption)
                        have q4 : x3_1 < (a0.size : Int) := of_decide_eq_true (by first | (with_reducible assumption) | assumption)
                        have hx4 := bt_at a0 x3_1
                        replace p4 := eq_true p4
                        replace q4 := eq_true q4
                        go_wp2
                        go_roundg k1
                        case measure => have := HK1.out; omega
                        case rel => exact ⟨(wrap64 (x3_1 + 1)), (by first | rfl | (simp; done) | (simp [*]; done) | (simp [Go.Proofs.YtfbllodbcmcndaaX.isEmpty_ne]; done)), H', ⟨by have := HK1.out; omega⟩, by repeat (first | exact Drawn0.refl _ | apply Drawn0.step)⟩
                      · rw [if_neg c21] at H
                        have c21b0 : ((bt a0 x3_1) == 95) = false := beq_eq_false_iff_ne.mpr c21
                        have c21b1 : ((bt a0 x3_1) != 95) = true := bne_iff_ne.mpr c21
                        by_cases c22 : (bt a0 x3_1) = 126
                        · rw [if_pos c22] at H
                          have c22b0 : ((bt a0 x3_1) == 126) = true := beq_iff_eq.mpr c22
                          have c22b1 : ((bt a0 x3_1) != 126) = false := bne_eq_false_iff_eq.mpr c22
                          clear c22
                          have H' := Aside0.mk H
                          clear H
                          have p4 : 0 ≤ (x3_1 : Int) := of_decide_eq_true (by first | (with_reducible assumption) | assumption)
                          have q4 : x3_1 < (a0.size : Int) := of_decide_eq_true (by first | (with_reducible assumption) | assumption)
                          have hx4 := bt_at a0 x3_1
                          replace p4 := eq_true p4
                          replace q4 := eq_true q4
                          go_wp2
                          go_roundg k1
                          case measure => have := HK1.out; omega
                          case rel => exact ⟨(wrap64 (x3_1 + 1)), (by first | rfl | (simp; done) | (simp [*]; done) | (simp [Go.Proofs.YtfbllodbcmcndaaX.isEmpty_ne]; done)), H', ⟨by have := HK1.out; omega⟩, by repeat (first | exact Drawn0.refl _ | apply Drawn0.step)⟩
                        · rw [if_neg c22] at H
                          have c22b0 : ((bt a0 x3_1) == 126) = false := beq_eq_false_iff_ne.mpr c22
                          have c22b1 : ((bt a0 x3_1) != 126) = true := bne_iff_ne.mpr c22
                          obtain rfl := Option.some.inj H
                          have p4 : 0 ≤ (x3_1 : Int) := of_decide_eq_true (by first | (with_reducible assumption) | assumption)
                          have q4 : x3_1 < (a0.size : Int) := of_decide_eq_true (by first | (with_reducible assumption) | assumption)
                          have hx4 := bt_at a0 x3_1
                          replace p4 := eq_true p4
                          replace q4 := eq_true q4
                          go_wp2
                          go_ret
                          exact ⟨by first | rfl | (simp; done) | (simp [*]; done) | (simp [Go.Proofs.YtfbllodbcmcndaaX.isEmpty_ne]; done), by repeat (first | exact Drawn0.refl _ | apply Drawn0.step)⟩
                · rw [if_neg c18] at H
                  have c18b0 : decide ((bt a0 x3_1) < 48) = false := decide_eq_false c18
                  clear c18
                  by_cases c23 : (bt a0 x3_1) > 57
                  · rw [if_pos c23] at H
                    have c23b0 : decide (57 < (bt a0 x3_1)) = true := decide_eq_true c23
                    clear c23
                    by_cases c24 : (bt a0 x3_1) = 45
                    · rw [if_pos c24] at H
                      have c24b0 : ((bt a0 x3_1) == 45) = true := beq_iff_eq.mpr c24
                      have c24b1 : ((bt a0 x3_1) != 45) = false := bne_eq_false_iff_eq.mpr c24
                      clear c24
                      have H' := Aside0.mk H
                      clear H
                      have p4 : 0 ≤ (x3_1 : Int) := of_decide_eq_true (by first | (with_reducible assumption) | assumption)
                      have q4 : x3_1 < (a0.size : Int) := of_decide_eq_true (by first | (with_reducible assumption) | assumption)
                      have hx4 := bt_at a0 x3_1
                      replace p4 := eq_true p4
                      replace q4 := eq_true q4
                      go_wp2
                      go_roundg k1
                      case measure => have := HK1.out; omega
                      case rel => exact ⟨(wrap64 (x3_1 + 1)), (by first | rfl | (simp; done) | (simp [*]; done) | (simp [Go.Proofs.YtfbllodbcmcndaaX.isEmpty_ne]; done)), H', ⟨by have := HK1.out; omega⟩, by repeat (first | exact Drawn0.refl _ | apply Drawn0.step)⟩
                    · rw [if_neg c24] at H
                      have c24b0 : ((bt a0 x3_1) == 45) = false := beq_eq_false_iff_ne.mpr c24
                      have c24b1 : ((bt a0 x3_1) != 45) = true := bne_iff_ne.mpr c24
                      by_cases c25 : (bt a0 x3_1) = 46
                      · rw [if_pos c25] at H
                        have c25b0 : ((bt a0 x3_1) == 46) = true := beq_iff_eq.mpr c25
                        have c25b1 : ((bt a0 x3_1) != 46) = false := bne_eq_false_iff_eq.mpr c25
                        clear c25
                        have H' := Aside0.mk H
                        clear H
                        have p4 : 0 ≤ (x3_1 : Int) := of_decide_eq_true (by first | (with_reducible assumption) | assumption)
                        have q4 : x3_1 < (a0.size : Int) := of_decide_eq_true (by first | (with_reducible assumption) | assumption)
                        have hx4 := bt_at a0 x3_1
                        replace p4 := eq_true p4
                        replace q4 := eq_true q4
                        go_wp2
                        go_roundg k1
                        case measure => have := HK1.out; omega
                        case rel => exact ⟨(wrap64 (x3_1 + 1)), (by first | rfl | (simp; done) | (simp [*]; done) | (simp [Go.Proofs.YtfbllodbcmcndaaX.isEmpty_ne]; done)), H', ⟨by have := HK1.out; omega⟩, by repeat (first | exact Drawn0.refl _ | apply Drawn0.step)⟩
                      · rw [if_neg c25] at H
                        have c25b0 : ((bt a0 x3_1) == 46) = false := beq_eq_false_iff_ne.mpr c25
                        have c25b1 : ((bt a0 x3_1) != 46) = true := bne_iff_ne.mpr c25
                        by_cases c26 : (bt a0 x3_1) = 95
                        · rw [if_pos c26] at H
                          have c26b0 : ((bt a0 x3_1) == 95) = true := beq_iff_eq.mpr c26
                          have c26b1 : ((bt a0 x3_1) != 95) = false := bne_eq_false_iff_eq.mpr c26
                          clear c26
                          have H' := Aside0.mk H
                          clear H
                          have p4 : 0 ≤ (x3_1 : Int) := of_decide_eq_true (by first | (with_reducible assumption) | assumption)
                          have q4 : x3_1 < (a0.size : Int) := of_decide_eq_true (by first | (with_reducible assumption) | assumption)
                          have hx4 := bt_at a0 x3_1
                          replace p4 := eq_true p4
                          replace q4 := eq_true q4
                          go_wp2
                          go_roundg k1
                          case measure => have := HK1.out; omega
                          case rel => exact ⟨(wrap64 (x3_1 + 1)), (by first | rfl | (simp; done) | (simp [*]; done) | (simp [Go.Proofs.YtfbllodbcmcndaaX.isEmpty_ne]; done)), H', ⟨by have := HK1.out; omega⟩, by repeat (first | exact Drawn0.refl _ | apply Drawn0.step)⟩
                        · rw [if_neg c26] at H
                          have c26b0 : ((bt a0 x3_1) == 95) = false := beq_eq_false_iff_ne.mpr c26
                          have c26b1 : ((bt a0 x3_1) != 95) = true := bne_iff_ne.mpr c26
                          by_cases c27 : (bt a0 x3_1) = 126
                          · rw [if_pos c27] at H
                            have c27b0 : ((bt a0 x3_1) == 126) = true := beq_iff_eq.mpr c27
                            have c27b1 : ((bt a0 x3_1) != 126) = false := bne_eq_false_iff_eq.mpr c27
                            clear c27
                            have H' := Aside0.mk H
                            clear H
                            have p4 : 0 ≤ (x3_1 : Int) := of_decide_eq_true (by first | (with_reducible assumption) | assumption)
                            have q4 : x3_1 < (a0.size : Int) := of_decide_eq_true (by first | (with_reducible assumption) | assumption)
                            have hx4 := bt_at a0 x3_1
                            replace p4 := eq_true p4
                            replace q4 := eq_true q4
                            go_wp2
                            go_roundg k1
                            case measure => have := HK1.out; omega
                            case rel => exact ⟨(wrap64 (x3_1 + 1)), (by first | rfl | (simp; done) | (simp [*]; done) | (simp [Go.Proofs.YtfbllodbcmcndaaX.isEmpty_ne]; done)), H', ⟨by have := HK1.out; omega⟩, by repeat (first | exact Drawn0.refl _ | apply Drawn0.step)⟩
                          · rw [if_neg c27] at H
                            have c27b0 : ((bt a0 x3_1) == 126) = false := beq_eq_false_iff_ne.mpr c27
                            have c27b1 : ((bt a0 x3_1) != 126) = true := bne_iff_ne.mpr c27
                            obtain rfl := Option.some.inj H
                            have p4 : 0 ≤ (x3_1 : Int) := of_decide_eq_true (by first | (with_reducible assumption) | assumption)
                            have q4 : x3_1 < (a0.size : Int) := of_decide_eq_true (by first | (with_reducible assumption) | assumption)
                            have hx4 := bt_at a0 x3_1
                            replace p4 := eq_true p4
                            replace q4 := eq_true q4
                            go_wp2
                            go_ret
                            exact ⟨by first | rfl | (simp; done) | (simp [*]; done) | (simp [Go.Proofs.YtfbllodbcmcndaaX.isEmpty_ne]; done), by repeat (first | exact Drawn0.refl _ | apply Drawn0.step)⟩
                  · rw [if_neg c23] at H
                    have c23b0 : decide (57 < (bt a0 x3_1)) = false := decide_eq_false c23
                    clear c23
                    have H' := Aside0.mk H
                    clear H
                    have p4 : 0 ≤ (x3_1 : Int) := of_decide_eq_true (by first | (with_reducible assumption) | assumption)
                    have q4 : x3_1 < (a0.size : Int) := of_decide_eq_true (by first | (with_reducible assumption) | assumption)
                    have hx4 := bt_at a0 x3_1
                    replace p4 := eq_true p4
                    replace q4 := eq_true q4
                    go_wp2
                    go_roundg k1
                    case measure => have := HK1.out; omega
                    case rel => exact ⟨(wrap64 (x3_1 + 1)), (by first | rfl | (simp; done) | (simp [*]; done) | (simp [Go.Proofs.YtfbllodbcmcndaaX.isEmpty_ne]; done)), H', ⟨by have := HK1.out; omega⟩, by repeat (first | exact Drawn0.refl _ | apply Drawn0.step)⟩
              · rw [if_neg c17] at H
                have c17b0 : decide (90 < (bt a0 x3_1)) = false := decide_eq_false c17
                clear c17
                have H' := Aside0.mk H
                clear H
                have p4 : 0 ≤ (x3_1 : Int) := of_decide_eq_true (by first | (with_reducible assumption) | assumption)
                have q4 : x3_1 < (a0.size : Int) := of_decide_eq_true (by first | (with_reducible assumption) | assumption)
                have hx4 := bt_at a0 x3_1
                replace p4 := eq_true p4
                replace q4 := eq_true q4
                go_wp2
                go_roundg k1
                case measure => have := HK1.out; omega
                case rel => exact ⟨(wrap64 (x3_1 + 1)), (by first | rfl | (simp; done) | (simp [*]; done) | (simp [Go.Proofs.YtfbllodbcmcndaaX.isEmpty_ne]; done)), H', ⟨by have := HK1.out; omega⟩, by repeat (first | exact Drawn0.refl _ | apply Drawn0.step)⟩
          · rw [if_neg c5] at H
            have c5b0 : decide ((bt a0 x3_1) < 97) = false := decide_eq_false c5
            clear c5
            by_cases c28 : (bt a0 x3_1) > 122
            · rw [if_pos c28] at H
              have c28b0 : decide (122 < (bt a0 x3_1)) = true := decide_eq_true c28
              clear c28
              by_cases c29 : (bt a0 x3_1) < 65
              · rw [if_pos c29] at H
                have c29b0 : decide ((bt a0 x3_1) < 65) = true := decide_eq_true c29
                clear c29
                by_cases c30 : (bt a0 x3_1) < 48
                · rw [if_pos c30] at H
                  have c30b0 : decide ((bt a0 x3_1) < 48) = true := decide_eq_true c30
                  clear c30
                  by_cases c31 : (bt a0 x3_1) = 45
                  · rw [if_pos c31] at H
                    have c31b0 : ((bt a0 x3_1) == 45) = true := beq_iff_eq.mpr c31
                    have c31b1 : ((bt a0 x3_1) != 45) = false := bne_eq_false_iff_eq.mpr c31
                    clear c31
                    have H' := Aside0.mk H
                    clear H
                    have p4 : 0 ≤ (x3_1 : Int) := of_decide_eq_true (by first | (with_reducible assumption) | assumption)
                    have q4 : x3_1 < (a0.size : Int) := of_decide_eq_true (by first | (with_reducible assumption) | assumption)
                    have hx4 := bt_at a0 x3_1
                    replace p4 := eq_true p4
                    replace q4 := eq_true q4
                    go_wp2
                    go_roundg k1
                    case measure => have := HK1.out; omega
                    case rel => exact ⟨(wrap64 (x3_1 + 1)), (by first | rfl | (simp; done) | (simp [*]; done) | (simp [Go.Proofs.YtfbllodbcmcndaaX.isEmpty_ne]; done)), H', ⟨by have := HK1.out; omega⟩, by repeat (first | exact Drawn0.refl _ | apply Drawn0.step)⟩
                  · rw [if_neg c31] at H
                    have c31b0 : ((bt a0 x3_1) == 45) = false := beq_eq_false_iff_ne.mpr c31
                    have c31b1 : ((bt a0 x3_1) != 45) = true := bne_iff_ne.mpr c31
                    by_cases c32 : (bt a0 x3_1) = 46
                    · rw [if_pos c32] at H
                      have c32b0 : ((bt a0 x3_1) == 46) = true := beq_iff_eq.mpr c32
                      have c32b1 : ((bt a0 x3_1) != 46) = false := bne_eq_false_iff_eq.mpr c32
                      clear c32
                      have H' := Aside0.mk H
                      clear H
                      have p4 : 0 ≤ (x3_1 : Int) := of_decide_eq_true (by first | (with_reducible assumption) | assumption)
                      have q4 : x3_1 < (a0.size : Int) := of_decide_eq_true (by first | (with_reducible assumption) | assumption)
                      have hx4 := bt_at a0 x3_1
                      replace p4 := eq_true p4
                      replace q4 := eq_true q4
                      go_wp2
                      go_roundg k1
                      case measure => have := HK1.out; omega
                      case rel => exact ⟨(wrap64 (x3_1 + 1)), (by first | rfl | (simp; done) | (simp [*]; done) | (simp [Go.Proofs.YtfbllodbcmcndaaX.isEmpty_ne]; done)), H', ⟨by have := HK1.out; omega⟩, by repeat (first | exact Drawn0.refl _ | apply Drawn0.step)⟩
                    · rw [if_neg c32] at H
                      have c32b0 : ((bt a0 x3_1) == 46) = false := beq_eq_false_iff_ne.mpr c32
                      have c32b1 : ((bt a0 x3_1) != 46) = true := bne_iff_ne.mpr c32
                      by_cases c33 : (bt a0 x3_1) = 95
                      · rw [if_pos c33] at H
                        have c33b0 : ((bt a0 x3_1) == 95) = true := beq_iff_eq.mpr c33
                        have c33b1 : ((bt a0 x3_1) != 95) = false := bne_eq_false_iff_eq.mpr c33
                        clear c33
                        have H' := Aside0.mk H
                        clear H
                        have p4 : 0 ≤ (x3_1 : Int) := of_decide_eq_true (by first | (with_reducible assumption) | assumption)
                        have q4 : x3_1 < (a0.size : Int) := of_decide_eq_true (by first | (with_reducible assumption) | assumption)
                        have hx4 := bt_at a0 x3_1
                        replace p4 := eq_true p4
                        replace q4 := eq_true q4
                        go_wp2
                        go_roundg k1
                        case measure => have := HK1.out; omega
                        case rel => exact ⟨(wrap64 (x3_1 + 1)), (by first | rfl | (simp; done) | (simp [*]; done) | (simp [Go.Proofs.YtfbllodbcmcndaaX.isEmpty_ne]; done)), H', ⟨by have := HK1.out; omega⟩, by repeat (first | exact Drawn0.refl _ | apply Drawn0.step)⟩
                      · rw [if_neg c33] at H
                        have c33b0 : ((bt a0 x3_1) == 95) = false := beq_eq_false_iff_ne.mpr c33
                        have c33b1 : ((bt a0 x3_1) != 95) = true := bne_iff_ne.mpr c33
                        by_cases c34 : (bt a0 x3_1) = 126
                        · rw [if_pos c34] at H
                          have c34b0 : ((bt a0 x3_1) == 126) = true := beq_iff_eq.mpr c34
                          have c34b1 : ((bt a0 x3_1) != 126) = false := bne_eq_false_iff_eq.mpr c34
                          clear c34
                          have H' := Aside0.mk H
                          clear H
                          have p4 : 0 ≤ (x3_1 : Int) := of_decide_eq_true (by first | (with_reducible assumption) | assumption)
                          have q4 : x3_1 < (a0.size : Int) := of_decide_eq_true (by first | (with_reducible assumption) | assumption)
                          have hx4 := bt_at a0 x3_1
                          replace p4 := eq_true p4
                          replace q4 := eq_true q4
                          go_wp2
                          go_roundg k1
                          case measure => have := HK1.out; omega
                          case rel => exact ⟨(wrap64 (x3_1 + 1)), (by first | rfl | (simp; done) | (simp [*]; done) | (simp [Go.Proofs.YtfbllodbcmcndaaX.isEmpty_ne]; done)), H', ⟨by have := HK1.out; omega⟩, by repeat (first | exact Drawn0.refl _ | apply Drawn0.step)⟩
                        · rw [if_neg c34] at H
                          have c34b0 : ((bt a0 x3_1) == 126) = false := beq_eq_false_iff_ne.mpr c34
                          have c34b1 : ((bt a0 x3_1) != 126) = true := bne_iff_ne.mpr c34
                          obtain rfl := Option.some.inj H
                          have p4 : 0 ≤ (x3_1 : Int) := of_decide_eq_true (by first | (with_reducible assumption) | assumption)
                          have q4 : x3_1 < (a0.size : Int) := of_decide_eq_true (by first | (with_reducible assumption) | assumption)
                          have hx4 := bt_at a0 x3_1
                          replace p4 := eq_true p4
                          replace q4 := eq_true q4
                          go_wp2
                          go_ret
                          exact ⟨by first | rfl | (simp; done) | (simp [*]; done) | (simp [Go.Proofs.YtfbllodbcmcndaaX.isEmpty_ne]; done), by repeat (first | exact Drawn0.refl _ | apply Drawn0.step)⟩
                · rw [if_neg c30] at H
                  have c30b0 : decide ((bt a0 x3_1) < 48) = false := decide_eq_false c30
                  clear c30
                  by_cases c35 : (bt a0 x3_1) > 57
                  · rw [if_pos c35] at H
                    have c35b0 : decide (57 < (bt a0 x3_1)) = true := decide_eq_true c35
                    clear c35
                    by_cases c36 : (bt a0 x3_1) = 45
                    · rw [if_pos c36] at H
                      have c36b0 : ((bt a0 x3_1) == 45) = true := beq_iff_eq.mpr c36
                      have c36b1 : ((bt a0 x3_1) != 45) = false := bne_eq_false_iff_eq.mpr c36
                      clear c36
                      have H' := Aside0.mk H
                      clear H
                      have p4 : 0 ≤ (x3_1 : Int) := of_decide_eq_true (by first | (with_reducible assumption) | assumption)
                      have q4 : x3_1 < (a0.size : Int) := of_decide_eq_true (by first | (with_reducible assumption) | assumption)
                      have hx4 := bt_at a0 x3_1
                      replace p4 := eq_true p4
                      replace q4 := eq_true q4
                      go_wp2
                      go_roundg k1
                      case measure => have := HK1.out; omega
                      case rel => exact ⟨(wrap64 (x3_1 + 1)), (by first | rfl | (simp; done) | (simp [*]; done) | (simp [Go.Proofs.YtfbllodbcmcndaaX.isEmpty_ne]; done)), H', ⟨by have := HK1.out; omega⟩, by repeat (first | exact Drawn0.refl _ | apply Drawn0.step)⟩
                    · rw [if_neg c36] at H
                      have c36b0 : ((bt a0 x3_1) == 45) = false := beq_eq_false_iff_ne.mpr c36
                      have c36b1 : ((bt a0 x3_1) != 45) = true := bne_iff_ne.mpr c36
                      by_cases c37 : (bt a0 x3_1) = 46
                      · rw [if_pos c37] at H
                        have c37b0 : ((bt a0 x3_1) == 46) = true := beq_iff_eq.mpr c37
                        have c37b1 : ((bt a0 x3_1) != 46) = false := bne_eq_false_iff_eq.mpr c37
                        clear c37
                        have H' := Aside0.mk H
                        clear H
                        have p4 : 0 ≤ (x3_1 : Int) := of_decide_eq_true (by first | (with_reducible assumption) | assumption)
                        have q4 : x3_1 < (a0.size : Int) := of_decide_eq_true (by first | (with_reducible assumption) | assumption)
                        have hx4 := bt_at a0 x3_1
                        replace p4 := eq_true p4
                        replace q4 := eq_true q4
                        go_wp2
                        go_roundg k1
                        case measure => have := HK1.out; omega
                        case rel => exact ⟨(wrap64 (x3_1 + 1)), (by first | rfl | (simp; done) | (simp [*]; done) | (simp [Go.Proofs.YtfbllodbcmcndaaX.isEmpty_ne]; done)), H', ⟨by have := HK1.out; omega⟩, by repeat (first | exact Drawn0.refl _ | apply Drawn0.step)⟩
                      · rw [if_neg c37] at H
                        have c37b0 : ((bt a0 x3_1) == 46) = false := beq_eq_false_iff_ne.mpr c37
                        have c37b1 : ((bt a0 x3_1) != 46) = true := bne_iff_ne.mpr c37
                        by_cases c38 : (bt a0 x3_1) = 95
                        · rw [if_pos c38] at H
                          have c38b0 : ((bt a0 x3_1) == 95) = true := beq_iff_eq.mpr c38
                          have c38b1 : ((bt a0 x3_1) != 95) = false := bne_eq_false_iff_eq.mpr c38
                          clear c38
                          have H' := Aside0.mk H
                          clear H
                          have p4 : 0 ≤ (x3_1 : Int) := of_decide_eq_true (by first | (with_reducible assumption) | assumption)
                          have q4 : x3_1 < (a0.size : Int) := of_decide_eq_true (by first | (with_reducible assumption) | assumption)
                          have hx4 := bt_at a0 x3_1
                          replace p4 := eq_true p4
                          replace q4 := eq_true q4
                          go_wp2
                          go_roundg k1
                          case measure => have := HK1.out; omega
                          case rel => exact ⟨(wrap64 (x3_1 + 1)), (by first | rfl | (simp; done) | (simp [*]; done) | (simp [Go.Proofs.YtfbllodbcmcndaaX.isEmpty_ne]; done)), H', ⟨by have := HK1.out; omega⟩, by repeat (first | exact Drawn0.refl _ | apply Drawn0.step)⟩
                        · rw [if_neg c38] at H
                          have c38b0 : ((bt a0 x3_1) == 95) = false := beq_eq_false_iff_ne.mpr c38
                          have c38b1 : ((bt a0 x3_1) != 95) = true := bne_iff_ne.mpr c38
                          by_cases c39 : (bt a0 x3_1) = 126
                          · rw [if_pos c39] at H
                            have c39b0 : ((bt a0 x3_1) == 126) = true := beq_iff_eq.mpr c39
                            have c39b1 : ((bt a0 x3_1) != 126) = false := bne_eq_false_iff_eq.mpr c39
                            clear c39
                            have H' := Aside0.mk H
                            clear H
                            have p4 : 0 ≤ (x3_1 : Int) := of_decide_eq_true (by first | (with_reducible assumption) | assumption)
                            have q4 : x3_1 < (a0.size : Int) := of_decide_eq_true (by first | (with_reducible assumption) | assumption)
                            have hx4 := bt_at a0 x3_1
                            replace p4 := eq_true p4
                            replace q4 := eq_true q4
                            go_wp2
                            go_roundg k1
                            case measure => have := HK1.out; omega
                            case rel => exact ⟨(wrap64 (x3_1 + 1)), (by first | rfl | (simp; done) | (simp [*]; done) | (simp [Go.Proofs.YtfbllodbcmcndaaX.isEmpty_ne]; done)), H', ⟨by have := HK1.out; omega⟩, by repeat (first | exact Drawn0.refl _ | apply Drawn0.step)⟩
                          · rw [if_neg c39] at H
                            have c39b0 : ((bt a0 x3_1) == 126) = false := beq_eq_false_iff_ne.mpr c39
                            have c39b1 : ((bt a0 x3_1) != 126) = true := bne_iff_ne.mpr c39
                            obtain rfl := Option.some.inj H
                            have p4 : 0 ≤ (x3_1 : Int) := of_decide_eq_true (by first | (with_reducible assumption) | assumption)
                            have q4 : x3_1 < (a0.size : Int) := of_decide_eq_true (by first | (with_reducible assumption) | assumption)
                            have hx4 := bt_at a0 x3_1
                            replace p4 := eq_true p4
                            replace q4 := eq_true q4
                            go_wp2
                            go_ret
                            exact ⟨by first | rfl | (simp; done) | (simp [*]; done) | (simp [Go.Proofs.YtfbllodbcmcndaaX.isEmpty_ne]; done), by repeat (first | exact Drawn0.refl _ | apply Drawn0.step)⟩
                  · rw [if_neg c35] at H
                    have c35b0 : decide (57 < (bt a0 x3_1)) = false := decide_eq_false c35
                    clear c35
                    have H' := Aside0.mk H
                    clear H
                    have p4 : 0 ≤ (x3_1 : Int) := of_decide_eq_true (by first | (with_reducible assumption) | assumption)
                    have q4 : x3_1 < (a0.size : Int) := of_decide_eq_true (by first | (with_reducible assumption) | assumption)
                    have hx4 := bt_at a0 x3_1
                    replace p4 := eq_true p4
                    replace q4 := eq_true q4
                    go_wp2
                    go_roundg k1
                    case measure => have := HK1.out; omega
                    case rel => exact ⟨(wrap64 (x3_1 + 1)), (by first | rfl | (simp; done) | (simp [*]; done) | (simp [Go.Proofs.YtfbllodbcmcndaaX.isEmpty_ne]; done)), H', ⟨by have := HK1.out; omega⟩, by repeat (first | exact Drawn0.refl _ | apply Drawn0.step)⟩
              · rw [if_neg c29] at H
                have c29b0 : decide ((bt a0 x3_1) < 65) = false := decide_eq_false c29
                clear c29
                by_cases c40 : (bt a0 x3_1) > 90
                · rw [if_pos c40] at H
                  have c40b0 : decide (90 < (bt a0 x3_1)) = true := decide_eq_true c40
                  clear c40
                  by_cases c41 : (bt a0 x3_1) < 48
                  · rw [if_pos c41] at H
                    have c41b0 : decide ((bt a0 x3_1) < 48) = true := decide_eq_true c41
                    clear c41
                    by_cases c42 : (bt a0 x3_1) = 45
                    · rw [if_pos c42] at H
                      have c42b0 : ((bt a0 x3_1) == 45) = true := beq_iff_eq.mpr c42
                      have c42b1 : ((bt a0 x3_1) != 45) = false := bne_eq_false_iff_eq.mpr c42
                      clear c42
                      have H' := Aside0.mk H
                      clear H
                      have p4 : 0 ≤ (x3_1 : Int) := of_decide_eq_true (by first | (with_reducible assumption) | assumption)
                      have q4 : x3_1 < (a0.size : Int) := of_decide_eq_true (by first | (with_reducible assumption) | assumption)
                      have hx4 := bt_at a0 x3_1
                      replace p4 := eq_true p4
                      replace q4 := eq_true q4
                      go_wp2
                      go_roundg k1
                      case measure => have := HK1.out; omega
                      case rel => exact ⟨(wrap64 (x3_1 + 1)), (by first | rfl | (simp; done) | (simp [*]; done) | (simp [Go.Proofs.YtfbllodbcmcndaaX.isEmpty_ne]; done)), H', ⟨by have := HK1.out; omega⟩, by repeat (first | exact Drawn0.refl _ | apply Drawn0.step)⟩
                    · rw [if_neg c42] at H
                      have c42b0 : ((bt a0 x3_1) == 45) = false := beq_eq_false_iff_ne.mpr c42
                      have c42b1 : ((bt a0 x3_1) != 45) = true := bne_iff_ne.mpr c42
                      by_cases c43 : (bt a0 x3_1) = 46
                      · rw [if_pos c43] at H
                        have c43b0 : ((bt a0 x3_1) == 46) = true := beq_iff_eq.mpr c43
                        have c43b1 : ((bt a0 x3_1) != 46) = false := bne_eq_false_iff_eq.mpr c43
                        clear c43
                        have H' := Aside0.mk H
                        clear H
                        have p4 : 0 ≤ (x3_1 : Int) := of_decide_eq_true (by first | (with_reducible assumption) | assumption)
                        have q4 : x3_1 < (a0.size : Int) := of_decide_eq_true (by first | (with_reducible assumption) | assumption)
                        have hx4 := bt_at a0 x3_1
                        replace p4 := eq_true p4
                        replace q4 := eq_true q4
                        go_wp2
                        go_roundg k1
                        case measure => have := HK1.out; omega
                        case rel => exact ⟨(wrap64 (x3_1 + 1)), (by first | rfl | (simp; done) | (simp [*]; done) | (simp [Go.Proofs.YtfbllodbcmcndaaX.isEmpty_ne]; done)), H', ⟨by have := HK1.out; omega⟩, by repeat (first | exact Drawn0.refl _ | apply Drawn0.step)⟩
                      · rw [if_neg c43] at H
                        have c43b0 : ((bt a0 x3_1) == 46) = false := beq_eq_false_iff_ne.mpr c43
                        have c43b1 : ((bt a0 x3_1) != 46) = true := bne_iff_ne.mpr c43
                        by_cases c44 : (bt a0 x3_1) = 95
                        · rw [if_pos c44] at H
                          have c44b0 : ((bt a0 x3_1) == 95) = true := beq_iff_eq.mpr c44
                          have c44b1 : ((bt a0 x3_1) != 95) = false := bne_eq_false_iff_eq.mpr c44
                          clear c44
                          have H' := Aside0.mk H
                          clear H
                          have p4 : 0 ≤ (x3_1 : Int) := of_decide_eq_true (by first | (with_reducible assumption) | assumption)
                          have q4 : x3_1 < (a0.size : Int) := of_decide_eq_true (by first | (with_reducible assumption) | assumption)
                          have hx4 := bt_at a0 x3_1
                          replace p4 := eq_true p4
                          replace q4 := eq_true q4
                          go_wp2
                          go_roundg k1
                          case measure => have := HK1.out; omega
                          case rel => exact ⟨(wrap64 (x3_1 + 1)), (by first | rfl | (simp; done) | (simp [*]; done) | (simp [Go.Proofs.YtfbllodbcmcndaaX.isEmpty_ne]; done)), H', ⟨by have := HK1.out; omega⟩, by repeat (first | exact Drawn0.refl _ | apply Drawn0.step)⟩
                        · rw [if_neg c44] at H
                          have c44b0 : ((bt a0 x3_1) == 95) = false := beq_eq_false_iff_ne.mpr c44
                          have c44b1 : ((bt a0 x3_1) != 95) = true := bne_iff_ne.mpr c44
                          by_cases c45 : (bt a0 x3_1) = 126
                          · rw [if_pos c45] at H
                            have c45b0 : ((bt a0 x3_1) == 126) = true := beq_iff_eq.mpr c45
                            have c45b1 : ((bt a0 x3_1) != 126) = false := bne_eq_false_iff_eq.mpr c45
                            clear c45
                            have H' := Aside0.mk H
                            clear H
                            have p4 : 0 ≤ (x3_1 : Int) := of_decide_eq_true (by first | (with_reducible assumption) | assumption)
                            have q4 : x3_1 < (a0.size : Int) := of_decide_eq_true (by first | (with_reducible assumption) | assumption)
                            have hx4 := bt_at a0 x3_1
                            replace p4 := eq_true p4
                            replace q4 := eq_true q4
                            go_wp2
                            go_roundg k1
                            case measure => have := HK1.out; omega
                            case rel => exact ⟨(wrap64 (x3_1 + 1)), (by first | rfl | (simp; done) | (simp [*]; done) | (simp [Go.Proofs.YtfbllodbcmcndaaX.isEmpty_ne]; done)), H', ⟨by have := HK1.out; omega⟩, by repeat (first | exact Drawn0.refl _ | apply Drawn0.step)⟩
                          · rw [if_neg c45] at H
                            have c45b0 : ((bt a0 x3_1) == 126) = false := beq_eq_false_iff_ne.mpr c45
                            have c45b1 : ((bt a0 x3_1) != 126) = true := bne_iff_ne.mpr c45
                            obtain rfl := Option.some.inj H
                            have p4 : 0 ≤ (x3_1 : Int) := of_decide_eq_true (by first | (with_reducible assumption) | assumption)
                            have q4 : x3_1 < (a0.size : Int) := of_decide_eq_true (by first | (with_reducible assumption) | assumption)
                            have hx4 := bt_at a0 x3_1
                            replace p4 := eq_true p4
                            replace q4 := eq_true q4
                            go_wp2
                            go_ret
                            exact ⟨by first | rfl | (simp; done) | (simp [*]; done) | (simp [Go.Proofs.YtfbllodbcmcndaaX.isEmpty_ne]; done), by repeat (first | exact Drawn0.refl _ | apply Drawn0.step)⟩
                  · rw [if_neg c41] at H
                    have c41b0 : decide ((bt a0 x3_1) < 48) = false := decide_eq_false c41
                    clear c41
                    by_cases c46 : (bt a0 x3_1) > 57
                    · rw [if_pos c46] at H
                      have c46b0 : decide (57 < (bt a0 x3_1)) = true := decide_eq_true c46
                      clear c46
                      by_cases c47 : (bt a0 x3_1) = 45
                      · rw [if_pos c47] at H
                        have c47b0 : ((bt a0 x3_1) == 45) = true := beq_iff_eq.mpr c47
                        have c47b1 : ((bt a0 x3_1) != 45) = false := bne_eq_false_iff_eq.mpr c47
                        clear c47
                        have H' := Aside0.mk H
                        clear H
                        have p4 : 0 ≤ (x3_1 : Int) := of_decide_eq_true (by first | (with_reducible assumption) | assumption)
                        have q4 : x3_1 < (a0.size : Int) := of_decide_eq_true (by first | (with_reducible assumption) | assumption)
                        have hx4 := bt_at a0 x3_1
                        replace p4 := eq_true p4
                        replace q4 := eq_true q4
                        go_wp2
                        go_roundg k1
                        case measure => have := HK1.out; omega
                        case rel => exact ⟨(wrap64 (x3_1 + 1)), (by first | rfl | (simp; done) | (simp [*]; done) | (simp [Go.Proofs.YtfbllodbcmcndaaX.isEmpty_ne]; done)), H', ⟨by have := HK1.out; omega⟩, by repeat (first | exact Drawn0.refl _ | apply Drawn0.step)⟩
                      · rw [if_neg c47] at H
                        have c47b0 : ((bt a0 x3_1) == 45) = false := beq_eq_false_iff_ne.mpr c47
                        have c47b1 : ((bt a0 x3_1) != 45) = true := bne_iff_ne.mpr c47
                        by_cases c48 : (bt a0 x3_1) = 46
                        · rw [if_pos c48] at H
                          have c48b0 : ((bt a0 x3_1) == 46) = true := beq_iff_eq.mpr c48
                          have c48b1 : ((bt a0 x3_1) != 46) = false := bne_eq_false_iff_eq.mpr c48
                          clear c48
                          have H' := Aside0.mk H
                          clear H
                          have p4 : 0 ≤ (x3_1 : Int) := of_decide_eq_true (by first | (with_reducible assumption) | assumption)
                          have q4 : x3_1 < (a0.size : Int) := of_decide_eq_true (by first | (with_reducible assumption) | assumption)
                          have hx4 := bt_at a0 x3_1
                          replace p4 := eq_true p4
                          replace q4 := eq_true q4
                          go_wp2
                          go_roundg k1
                          case measure => have := HK1.out; omega
                          case rel => exact ⟨(wrap64 (x3_1 + 1)), (by first | rfl | (simp; done) | (simp [*]; done) | (simp [Go.Proofs.YtfbllodbcmcndaaX.isEmpty_ne]; done)), H', ⟨by have := HK1.out; omega⟩, by repeat (first | exact Drawn0.refl _ | apply Drawn0.step)⟩
                        · rw [if_neg c48] at H
                          have c48b0 : ((bt a0 x3_1) == 46) = false := beq_eq_false_iff_ne.mpr c48
                          have c48b1 : ((bt a0 x3_1) != 46) = true := bne_iff_ne.mpr c48
                          by_cases c49 : (bt a0 x3_1) = 95
                          · rw [if_pos c49] at H
                            have c49b0 : ((bt a0 x3_1) == 95) = true := beq_iff_eq.mpr c49
                            have c49b1 : ((bt a0 x3_1) != 95) = false := bne_eq_false_iff_eq.mpr c49
                            clear c49
                            have H' := Aside0.mk H
                            clear H
                            have p4 : 0 ≤ (x3_1 : Int) := of_decide_eq_true (by first | (with_reducible assumption) | assumption)
                            have q4 : x3_1 < (a0.size : Int) := of_decide_eq_true (by first | (with_reducible assumption) | assumption)
                            have hx4 := bt_at a0 x3_1
                            replace p4 := eq_true p4
                            replace q4 := eq_true q4
                            go_wp2
                            go_roundg k1
                            case measure => have := HK1.out; omega
                            case rel => exact ⟨(wrap64 (x3_1 + 1)), (by first | rfl | (simp; done) | (simp [*]; done) | (simp [Go.Proofs.YtfbllodbcmcndaaX.isEmpty_ne]; done)), H', ⟨by have := HK1.out; omega⟩, by repeat (first | exact Drawn0.refl _ | apply Drawn0.step)⟩
                          · rw [if_neg c49] at H
                            have c49b0 : ((bt a0 x3_1) == 95) = false := beq_eq_false_iff_ne.mpr c49
                            have c49b1 : ((bt a0 x3_1) != 95) = true := bne_iff_ne.mpr c49
                            by_cases c50 : (bt a0 x3_1) = 126
                            · rw [if_pos c50] at H
                              have c50b0 : ((bt a0 x3_1) == 126) = true := beq_iff_eq.mpr c50
                              have c50b1 : ((bt a0 x3_1) != 126) = false := bne_eq_false_iff_eq.mpr c50
                              clear c50
                              have H' := Aside0.mk H
                              clear H
                              have p4 : 0 ≤ (x3_1 : Int) := of_decide_eq_true (by first | (with_reducible assumption) | assumption)
                              have q4 : x3_1 < (a0.size : Int) := of_decide_eq_true (by first | (with_reducible assumption) | assumption)
                              have hx4 := bt_at a0 x3_1
                              replace p4 := eq_true p4
                              replace q4 := eq_true q4
                              go_wp2
                              go_roundg k1
                              case measure => have := HK1.out; omega
                              case rel => exact ⟨(wrap64 (x3_1 + 1)), (by first | rfl | (simp; done) | (simp [*]; done) | (simp [Go.Proofs.YtfbllodbcmcndaaX.isEmpty_ne]; done)), H', ⟨by have := HK1.out; omega⟩, by repeat (first | exact Drawn0.refl _ | apply Drawn0.step)⟩
                            · rw [if_neg c50] at H
                              have c50b0 : ((bt a0 x3_1) == 126) = false := beq_eq_false_iff_ne.mpr c50
                              have c50b1 : ((bt a0 x3_1) != 126) = true := bne_iff_ne.mpr c50
                              obtain rfl := Option.some.inj H
                              have p4 : 0 ≤ (x3_1 : Int) := of_decide_eq_true (by first | (with_reducible assumption) | assumption)
                              have q4 : x3_1 < (a0.size : Int) := of_decide_eq_true (by first | (with_reducible assumption) | assumption)
                              have hx4 := bt_at a0 x3_1
                              replace p4 := eq_true p4
                              replace q4 := eq_true q4
                              go_wp2
                              go_ret
                              exact ⟨by first | rfl | (simp; done) | (simp [*]; done) | (simp [Go.Proofs.YtfbllodbcmcndaaX.isEmpty_ne]; done), by repeat (first | exact Drawn0.refl _ | apply Drawn0.step)⟩
                    · rw [if_neg c46] at H
                      have c46b0 : decide (57 < (bt a0 x3_1)) = false := decide_eq_false c46
                      clear c46
                      have H' := Aside0.mk H
                      clear H
                      have p4 : 0 ≤ (x3_1 : Int) := of_decide_eq_true (by first | (with_reducible assumption) | assumption)
                      have q4 : x3_1 < (a0.size : Int) := of_decide_eq_true (by first | (with_reducible assumption) | assumption)
                      have hx4 := bt_at a0 x3_1
                      replace p4 := eq_true p4
                      replace q4 := eq_true q4
                      go_wp2
                      go_roundg k1
                      case measure => have := HK1.out; omega
                      case rel => exact ⟨(wrap64 (x3_1 + 1)), (by first | rfl | (simp; done) | (simp [*]; done) | (simp [Go.Proofs.YtfbllodbcmcndaaX.isEmpty_ne]; done)), H', ⟨by have := HK1.out; omega⟩, by repeat (first | exact Drawn0.refl _ | apply Drawn0.step)⟩
                · rw [if_neg c40] at H
                  have c40b0 : decide (90 < (bt a0 x3_1)) = false := decide_eq_false c40
                  clear c40
                  have H' := Aside0.mk H
                  clear H
                  have p4 : 0 ≤ (x3_1 : Int) := of_decide_eq_true (by first | (with_reducible assumption) | assumption)
                  have q4 : x3_1 < (a0.size : Int) := of_decide_eq_true (by first | (with_reducible assumption) | assumption)
                  have hx4 := bt_at a0 x3_1
                  replace p4 := eq_true p4
                  replace q4 := eq_true q4
                  go_wp2
                  go_roundg k1
                  case measure => have := HK1.out; omega
                  case rel => exact ⟨(wrap64 (x3_1 + 1)), (by first | rfl | (simp; done) | (simp [*]; done) | (simp [Go.Proofs.YtfbllodbcmcndaaX.isEmpty_ne]; done)), H', ⟨by have := HK1.out; omega⟩, by repeat (first | exact Drawn0.refl _ | apply Drawn0.step)⟩
            · rw [if_neg c28] at H
              have c28b0 : decide (122 < (bt a0 x3_1)) = false := decide_eq_false c28
              clear c28
              have H' := Aside0.mk H
              clear H
              have p4 : 0 ≤ (x3_1 : Int) := of_decide_eq_true (by first | (with_reducible assumption) | assumption)
              have q4 : x3_1 < (a0.size : Int) := of_decide_eq_true (by first | (with_reducible assumption) | assumption)
              have hx4 := bt_at a0 x3_1
              replace p4 := eq_true p4
              replace q4 := eq_true q4
              go_wp2
              go_roundg k1
              case measure => have := HK1.out; omega
              case rel => exact ⟨(wrap64 (x3_1 + 1)), (by first | rfl | (simp; done) | (simp [*]; done) | (simp [Go.Proofs.YtfbllodbcmcndaaX.isEmpty_ne]; done)), H', ⟨by have := HK1.out; omega⟩, by repeat (first | exact Drawn0.refl _ | apply Drawn0.step)⟩
        · rw [if_neg c3] at H
          exact absurd H (by simp)
      · rw [if_neg c2] at H
        have c2b0 : decide (x3_1 < (a0.size : Int)) = false := decide_eq_false c2
        clear c2
        obtain rfl := Option.some.inj H
        go_wp2
        go_ret
        exact ⟨by first | rfl | (simp; done) | (simp [*]; done) | (simp [Go.Proofs.YtfbllodbcmcndaaX.isEmpty_ne]; done), by repeat (first | exact Drawn0.refl _ | apply Drawn0.step)⟩
end Go.Proofs.Ytfbllodbcmcndaa.Q
end
section
namespace Go.Proofs.Ytfbllodbcmcndaa.Q
open Go.RowKit Go.Proofs.YtfbllodbcmcndaaW.PrintWords Go.Proofs.YtfbllodbcmcndaaW.PrintLast Go.Proofs.YtfbllodbcmcndaaW.PrintMore
attribute [local go_sem] max2_int min2_int max_two min_two max_three min_three max_four min_four
set_option linter.unusedVariables false
set_option linter.unusedSimpArgs false
def spec_indexOf.l0 : Nat → ByteArray → Int → Int → Option (Int)
  | 0, _, _, _ => none
  | k + 1, x0, x1, x5 => if x5 < (x0.size : Int) then (if 0 ≤ x5 then (if (bt x0 x5) = x1 then (some x5) else (spec_indexOf.l0 k x0 x1 (wrap64 (x5 + 1)))) else (none)) else (some (-1))
def spec_indexOf.f (k : Nat) (a0 : ByteArray) (a1 : Int) : Option (Int) := spec_indexOf.l0 k a0 a1 0
set_option maxHeartbeats 8000000 in
set_option maxRecDepth 100000 in
theorem spec_indexOf.calls (k : Nat) (a0 : ByteArray) (a1 : Int) (r : Int) (w : World) (h : spec_indexOf.f k a0 a1 = some r) :
    Calls Try.prog 79 #[.string a0, .int .u8 a1] w fun e w' => e = .returned (.int .i64 r) ∧ Drawn0 w w' := by
  have H : (spec_indexOf.l0 k a0 a1 0) = some r := h
  clear h
  have H' := Aside0.mk H
  clear H
  go_enter Try.func79, Try.ntmps79
  go_wp2
  go_loopg [5] k (fun kq v5 w' => ∃ (x5_1 : Int), v5 = .int .i64 x5_1 ∧ Aside0 (spec_indexOf.l0 kq a0 a1 x5_1 = some r) ∧ Aside0 (kq ≤ k) ∧ Drawn0 w w')
  case atStart => exact ⟨(0), (by first | rfl | (simp; done) | (simp [*]; done) | (simp [Go.Proofs.YtfbllodbcmcndaaX.isEmpty_ne]; done)), H', ⟨Nat.le_refl _⟩, by repeat (first | exact Drawn0.refl _ | apply Drawn0.step)⟩
  case round =>
    clear H'
    try clear p2
    obtain ⟨x5_1, rfl, HA, HK1, ⟨m1, rfl⟩⟩ := hrel
    cases gk with
    | zero => exact absurd HA.out (by simp [spec_indexOf.l0])
    | succ k1 =>
      have H := HA.out
      clear HA
      simp only [spec_indexOf.l0] at H
      by_cases c3 : x5_1 < (a0.size : Int)
      · rw [if_pos c3] at H
        have c3b0 : decide (x5_1 < (a0.size : Int)) = true := decide_eq_true c3
        clear c3
        by_cases c4 : 0 ≤ x5_1
        · rw [if_pos c4] at H
          have c4b0 : decide (0 ≤ x5_1) = true := decide_eq_true c4
          clear c4
          by_cases c6 : (bt a0 x5_1) = a1
          · rw [if_pos c6] at H
            have c6b0 : ((bt a0 x5_1) == a1) = true := beq_iff_eq.mpr c6
            have c6b1 : ((bt a0 x5_1) != a1) = false := bne_eq_false_iff_eq.mpr c6
            clear c6
            obtain rfl := Option.some.inj H
            have p5 : 0 ≤ (x5_1 : Int) := of_decide_eq_true (by first | (with_reducible assumption) | assumption)
            have q5 : x5_1 < (a0.size : Int) := of_decide_eq_true (by first | (with_reducible assumption) | assumption)
            have hx5 := bt_at a0 x5_1
            replace p5 := eq_true p5
            replace q5 := eq_true q5
            go_wp2
            go_ret
            exact ⟨by first | rfl | (simp; done) | (simp [*]; done) | (simp [Go.Proofs.YtfbllodbcmcndaaX.isEmpty_ne]; done), by repeat (first | exact Drawn0.refl _ | apply Drawn0.step)⟩
          · rw [if_neg c6] at H
            have c6b0 : ((bt a0 x5_1) == a1) = false := beq_eq_false_iff_ne.mpr c6
            have c6b1 : ((bt a0 x5_1) != a1) = true := bne_iff_ne.mpr c6
            have H' := Aside0.mk H
            clear H
            have p5 : 0 ≤ (x5_1 : Int) := of_decide_eq_true (by first | (with_reducible assumption) | assumption)
            have q5 : x5_1 < (a0.size : Int) := of_decide_eq_true (by first | (with_reducible assumption) | assumption)
            have hx5 := bt_at a0 x5_1
            replace p5 := eq_true p5
            replace q5 := eq_true q5
            go_wp2
            go_roundg k1
            case measure => have := HK1.out; omega
            case rel => exact ⟨(wrap64 (x5_1 + 1)), (by first | rfl | (simp; done) | (simp [*]; done) | (simp [Go.Proofs.YtfbllodbcmcndaaX.isEmpty_ne]; done)), H', ⟨by have := HK1.out; omega⟩, by repeat (first | exact Drawn0.refl _ | apply Drawn0.step)⟩
        · rw [if_neg c4] at H
          exact absurd H (by simp)
      · rw [if_neg c3] at H
        have c3b0 : decide (x5_1 < (a0.size : Int)) = false := decide_eq_false c3
        clear c3
        obtain rfl := Option.some.inj H
        go_wp2
        go_ret
        exact ⟨by first | rfl | (simp; done) | (simp [*]; done) | (simp [Go.Proofs.YtfbllodbcmcndaaX.isEmpty_ne]; done), by repeat (first | exact Drawn0.refl _ | apply Drawn0.step)⟩
end Go.Proofs.Ytfbllodbcmcndaa.Q
end
section
namespace Go.Proofs.Ytfbllodbcmcndaa.Q
open Go.RowKit Go.Proofs.YtfbllodbcmcndaaW.PrintWords Go.Proofs.YtfbllodbcmcndaaW.PrintLast Go.Proofs.YtfbllodbcmcndaaW.PrintMore
attribute [local go_sem] max2_int min2_int max_two min_two max_three min_three max_four min_four
set_option linter.unusedVariables false
set_option linter.unusedSimpArgs false
def spec_unreserved.f (a0 : Int) : Option (Bool) := if a0 ≥ 97 then (if a0 ≤ 122 then (some true) else (if a0 ≥ 65 then (if a0 ≤ 90 then (some true) else (if a0 ≥ 48 then (if a0 ≤ 57 then (some true) else (if a0 = 45 then (some true) else (if a0 = 46 then (some true) else (if a0 = 95 then (some true) else (some (a0 == 126)))))) else (if a0 = 45 then (some true) else (if a0 = 46 then (some true) else (if a0 = 95 then (some true) else (some (a0 == 126))))))) else (if a0 ≥ 48 then (if a0 ≤ 57 then (some true) else (if a0 = 45 then (some true) else (if a0 = 46 then (some true) else (if a0 = 95 then (some true) else (some (a0 == 126)))))) else (if a0 = 45 then (some true) else (if a0 = 46 then (some true) else (if a0 = 95 then (some true) else (some (a0 == 126)))))))) else (if a0 ≥ 65 then (if a0 ≤ 90 then (some true) else (if a0 ≥ 48 then (if a0 ≤ 57 then (some true) else (if a0 = 45 then (some true) else (if a0 = 46 then (some true) else (if a0 = 95 then (some true) else (some (a0 == 126)))))) else (if a0 = 45 then (some true) else (if a0 = 46 then (some true) else (if a0 = 95 then (some true) else (some (a0 == 126))))))) else (if a0 ≥ 48 then (if a0 ≤ 57 then (some true) else (if a0 = 45 then (some true) else (if a0 = 46 then (some true) else (if a0 = 95 then (some true) else (some (a0 == 126)))))) else (if a0 = 45 then (some true) else (if a0 = 46 then (some true) else (if a0 = 95 then (some true) else (some (a0 == 126)))))))
set_option maxHeartbeats 8000000 in
set_option maxRecDepth 100000 in
theorem spec_unreserved.calls (a0 : Int) (r : Bool) (w : World) (h : spec_unreserved.f a0 = some r) :
    Calls Try.prog 85 #[.int .u8 a0] w fun e w' => e = .returned (.bool r) ∧ Drawn0 w w' := by
  have H : (if a0 ≥ 97 then (if a0 ≤ 122 then (some true) else (if a0 ≥ 65 then (if a0 ≤ 90 then (some true) else (if a0 ≥ 48 then (if a0 ≤ 57 then (some true) else (if a0 = 45 then (some true) else (if a0 = 46 then (some true) else (if a0 = 95 then (some true) else (some (a0 == 126)))))) else (if a0 = 45 then (some true) else (if a0 = 46 then (some true) else (if a0 = 95 then (some true) else (some (a0 == 126))))))) else (if a0 ≥ 48 then (if a0 ≤ 57 then (some true) else (if a0 = 45 then (some true) else (if a0 = 46 then (some true) else (if a0 = 95 then (some true) else (some (a0 == 126)))))) else (if a0 = 45 then (some true) else (if a0 = 46 then (some true) else (if a0 = 95 then (some true) else (some (a0 == 126)))))))) else (if a0 ≥ 65 then (if a0 ≤ 90 then (some true) else (if a0 ≥ 48 then (if a0 ≤ 57 then (some true) else (if a0 = 45 then (some true) else (if a0 = 46 then (some true) else (if a0 = 95 then (some true) else (some (a0 == 126)))))) else (if a0 = 45 then (some true) else (if a0 = 46 then (some true) else (if a0 = 95 then (some true) else (some (a0 == 126))))))) else (if a0 ≥ 48 then (if a0 ≤ 57 then (some true) else (if a0 = 45 then (some true) else (if a0 = 46 then (some true) else (if a0 = 95 then (some true) else (some (a0 == 126)))))) else (if a0 = 45 then (some true) else (if a0 = 46 then (some true) else (if a0 = 95 then (some true) else (some (a0 == 126)))))))) = some r := h
  clear h
  by_cases c2 : a0 ≥ 97
  · rw [if_pos c2] at H
    have c2b0 : decide (97 ≤ a0) = true := decide_eq_true c2
    clear c2
    by_cases c3 : a0 ≤ 122
    · rw [if_pos c3] at H
      have c3b0 : decide (a0 ≤ 122) = true := decide_eq_true c3
      clear c3
      obtain rfl := Option.some.inj H
      go_enter Try.func85, Try.ntmps85
      go_wp2
      go_ret
      exact ⟨by first | rfl | (simp; done) | (simp [*]; done) | (simp [Go.Proofs.YtfbllodbcmcndaaX.isEmpty_ne]; done), by repeat (first | exact Drawn0.refl _ | apply Drawn0.step)⟩
    · rw [if_neg c3] at H
      have c3b0 : decide (a0 ≤ 122) = false := decide_eq_false c3
      clear c3
      by_cases c4 : a0 ≥ 65
      · rw [if_pos c4] at H
        have c4b0 : decide (65 ≤ a0) = true := decide_eq_true c4
        clear c4
        by_cases c5 : a0 ≤ 90
        · rw [if_pos c5] at H
          have c5b0 : decide (a0 ≤ 90) = true := decide_eq_true c5
          clear c5
          obtain rfl := Option.some.inj H
          go_enter Try.func85, Try.ntmps85
          go_wp2
          go_ret
          exact ⟨by first | rfl | (simp; done) | (simp [*]; done) | (simp [Go.Proofs.YtfbllodbcmcndaaX.isEmpty_ne]; done), by repeat (first | exact Drawn0.refl _ | apply Drawn0.step)⟩
        · rw [if_neg c5] at H
          have c5b0 : decide (a0 ≤ 90) = false := decide_eq_false c5
          clear c5
          by_cases c6 : a0 ≥ 48
          · rw [if_pos c6] at H
            have c6b0 : decide (48 ≤ a0) = true := decide_eq_true c6
            clear c6
            by_cases c7 : a0 ≤ 57
            · rw [if_pos c7] at H
              have c7b0 : decide (a0 ≤ 57) = true := decide_eq_true c7
              clear c7
              obtain rfl := Option.some.inj H
              go_enter Try.func85, Try.ntmps85
              go_wp2
              go_ret
              exact ⟨by first | rfl | (simp; done) | (simp [*]; done) | (simp [Go.Proofs.YtfbllodbcmcndaaX.isEmpty_ne]; done), by repeat (first | exact Drawn0.refl _ | apply Drawn0.step)⟩
            · rw [if_neg c7] at H
              have c7b0 : decide (a0 ≤ 57) = false := decide_eq_false c7
              clear c7
              by_cases c8 : a0 = 45
              · rw [if_pos c8] at H
                have c8b0 : (a0 == 45) = true := beq_iff_eq.mpr c8
                have c8b1 : (a0 != 45) = false := bne_eq_false_iff_eq.mpr c8
                clear c8
                obtain rfl := Option.some.inj H
                go_enter Try.func85, Try.ntmps85
                go_wp2
                go_ret
                exact ⟨by first | rfl | (simp; done) | (simp [*]; done) | (simp [Go.Proofs.YtfbllodbcmcndaaX.isEmpty_ne]; done), by repeat (first | exact Drawn0.refl _ | apply Drawn0.step)⟩
              · rw [if_neg c8] at H
                have c8b0 : (a0 == 45) = false := beq_eq_false_iff_ne.mpr c8
                have c8b1 : (a0 != 45) = true := bne_iff_ne.mpr c8
                by_cases c9 : a0 = 46
                · rw [if_pos c9] at H
                  have c9b0 : (a0 == 46) = true := beq_iff_eq.mpr c9
                  have c9b1 : (a0 != 46) = false := bne_eq_false_iff_eq.mpr c9
                  clear c9
                  obtain rfl := Option.some.inj H
                  go_enter Try.func85, Try.ntmps85
                  go_wp2
                  go_ret
                  exact ⟨by first | rfl | (simp; done) | (simp [*]; done) | (simp [Go.Proofs.YtfbllodbcmcndaaX.isEmpty_ne]; done), by repeat (first | exact Drawn0.refl _ | apply Drawn0.step)⟩
                · rw [if_neg c9] at H
                  have c9b0 : (a0 == 46) = false := beq_eq_false_iff_ne.mpr c9
                  have c9b1 : (a0 != 46) = true := bne_iff_ne.mpr c9
                  by_cases c10 : a0 = 95
                  · rw [if_pos c10] at H
                    have c10b0 : (a0 == 95) = true := beq_iff_eq.mpr c10
                    have c10b1 : (a0 != 95) = false := bne_eq_false_iff_eq.mpr c10
                    clear c10
                    obtain rfl := Option.some.inj H
                    go_enter Try.func85, Try.ntmps85
                    go_wp2
                    go_ret
                    exact ⟨by first | rfl | (simp; done) | (simp [*]; done) | (simp [Go.Proofs.YtfbllodbcmcndaaX.isEmpty_ne]; done), by repeat (first | exact Drawn0.refl _ | apply Drawn0.step)⟩
                  · rw [if_neg c10] at H
                    have c10b0 : (a0 == 95) = false := beq_eq_false_iff_ne.mpr c10
                    have c10b1 : (a0 != 95) = true := bne_iff_ne.mpr c10
                    obtain rfl := Option.some.inj H
                    go_enter Try.func85, Try.ntmps85
                    go_wp2
                    go_ret
                    exact ⟨by first | rfl | (simp; done) | (simp [*]; done) | (simp [Go.Proofs.YtfbllodbcmcndaaX.isEmpty_ne]; done), by repeat (first | exact Drawn0.refl _ | apply Drawn0.step)⟩
          · rw [if_neg c6] at H
            have c6b0 : decide (48 ≤ a0) = false := decide_eq_false c6
            clear c6
            by_cases c11 : a0 = 45
            · rw [if_pos c11] at H
              have c11b0 : (a0 == 45) = true := beq_iff_eq.mpr c11
              have c11b1 : (a0 != 45) = false := bne_eq_false_iff_eq.mpr c11
              clear c11
              obtain rfl := Option.some.inj H
              go_enter Try.func85, Try.ntmps85
              go_wp2
              go_ret
              exact ⟨by first | rfl | (simp; done) | (simp [*]; done) | (simp [Go.Proofs.YtfbllodbcmcndaaX.isEmpty_ne]; done), by repeat (first | exact Drawn0.refl _ | apply Drawn0.step)⟩
            · rw [if_neg c11] at H
              have c11b0 : (a0 == 45) = false := beq_eq_false_iff_ne.mpr c11
              have c11b1 : (a0 != 45) = true := bne_iff_ne.mpr c11
              by_cases c12 : a0 = 46
              · rw [if_pos c12] at H
                have c12b0 : (a0 == 46) = true := beq_iff_eq.mpr c12
                have c12b1 : (a0 != 46) = false := bne_eq_false_iff_eq.mpr c12
                clear c12
                obtain rfl := Option.some.inj H
                go_enter Try.func85, Try.ntmps85
                go_wp2
                go_ret
                exact ⟨by first | rfl | (simp; done) | (simp [*]; done) | (simp [Go.Proofs.YtfbllodbcmcndaaX.isEmpty_ne]; done), by repeat (first | exact Drawn0.refl _ | apply Drawn0.step)⟩
              · rw [if_neg c12] at H
                have c12b0 : (a0 == 46) = false := beq_eq_false_iff_ne.mpr c12
                have c12b1 : (a0 != 46) = true := bne_iff_ne.mpr c12
                by_cases c13 : a0 = 95
                · rw [if_pos c13] at H
                  have c13b0 : (a0 == 95) = true := beq_iff_eq.mpr c13
                  have c13b1 : (a0 != 95) = false := bne_eq_false_iff_eq.mpr c13
                  clear c13
                  obtain rfl := Option.some.inj H
                  go_enter Try.func85, Try.ntmps85
                  go_wp2
                  go_ret
                  exact ⟨by first | rfl | (simp; done) | (simp [*]; done) | (simp [Go.Proofs.YtfbllodbcmcndaaX.isEmpty_ne]; done), by repeat (first | exact Drawn0.refl _ | apply Drawn0.step)⟩
                · rw [if_neg c13] at H
                  have c13b0 : (a0 == 95) = false := beq_eq_false_iff_ne.mpr c13
                  have c13b1 : (a0 != 95) = true := bne_iff_ne.mpr c13
                  obtain rfl := Option.some.inj H
                  go_enter Try.func85, Try.ntmps85
                  go_wp2
                  go_ret
                  exact ⟨by first | rfl | (simp; done) | (simp [*]; done) | (simp [Go.Proofs.YtfbllodbcmcndaaX.isEmpty_ne]; done), by repeat (first | exact Drawn0.refl _ | apply Drawn0.step)⟩
      · rw [if_neg c4] at H
        have c4b0 : decide (65 ≤ a0) = false := decide_eq_false c4
        clear c4
        by_cases c14 : a0 ≥ 48
        · rw [if_pos c14] at H
          have c14b0 : decide (48 ≤ a0) = true := decide_eq_true c14
          clear c14
          by_cases c15 : a0 ≤ 57
          · rw [if_pos c15] at H
            have c15b0 : decide (a0 ≤ 57) = true := decide_eq_true c15
            clear c15
            obtain rfl := Option.some.inj H
            go_enter Try.func85, Try.ntmps85
            go_wp2
            go_ret
            exact ⟨by first | rfl | (simp; done) | (simp [*]; done) | (simp [Go.Proofs.YtfbllodbcmcndaaX.isEmpty_ne]; done), by repeat (first | exact Drawn0.refl _ | apply Drawn0.step)⟩
          · rw [if_neg c15] at H
            have c15b0 : decide (a0 ≤ 57) = false := decide_eq_false c15
            clear c15
            by_cases c16 : a0 = 45
            · rw [if_pos c16] at H
              have c16b0 : (a0 == 45) = true := beq_iff_eq.mpr c16
              have c16b1 : (a0 != 45) = false := bne_eq_false_iff_eq.mpr c16
              clear c16
              obtain rfl := Option.some.inj H
              go_enter Try.func85, Try.ntmps85
              go_wp2
              go_ret
              exact ⟨by first | rfl | (simp; done) | (simp [*]; done) | (simp [Go.Proofs.YtfbllodbcmcndaaX.isEmpty_ne]; done), by repeat (first | exact Drawn0.refl _ | apply Drawn0.step)⟩
            · rw [if_neg c16] at H
              have c16b0 : (a0 == 45) = false := beq_eq_false_iff_ne.mpr c16
              have c16b1 : (a0 != 45) = true := bne_iff_ne.mpr c16
              by_cases c17 : a0 = 46
              · rw [if_pos c17] at H
                have c17b0 : (a0 == 46) = true := beq_iff_eq.mpr c17
                have c17b1 : (a0 != 46) = false := bne_eq_false_iff_eq.mpr c17
                clear c17
                obtain rfl := Option.some.inj H
                go_enter Try.func85, Try.ntmps85
                go_wp2
                go_ret
                exact ⟨by first | rfl | (simp; done) | (simp [*]; done) | (simp [Go.Proofs.YtfbllodbcmcndaaX.isEmpty_ne]; done), by repeat (first | exact Drawn0.refl _ | apply Drawn0.step)⟩
              · rw [if_neg c17] at H
                have c17b0 : (a0 == 46) = false := beq_eq_false_iff_ne.mpr c17
                have c17b1 : (a0 != 46) = true := bne_iff_ne.mpr c17
                by_cases c18 : a0 = 95
                · rw [if_pos c18] at H
                  have c18b0 : (a0 == 95) = true := beq_iff_eq.mpr c18
                  have c18b1 : (a0 != 95) = false := bne_eq_false_iff_eq.mpr c18
                  clear c18
                  obtain rfl := Option.some.inj H
                  go_enter Try.func85, Try.ntmps85
                  go_wp2
                  go_ret
                  exact ⟨by first | rfl | (simp; done) | (simp [*]; done) | (simp [Go.Proofs.YtfbllodbcmcndaaX.isEmpty_ne]; done), by repeat (first | exact Drawn0.refl _ | apply Drawn0.step)⟩
                · rw [if_neg c18] at H
                  have c18b0 : (a0 == 95) = false := beq_eq_false_iff_ne.mpr c18
                  have c18b1 : (a0 != 95) = true := bne_iff_ne.mpr c18
                  obtain rfl := Option.some.inj H
                  go_enter Try.func85, Try.ntmps85
                  go_wp2
                  go_ret
                  exact ⟨by first | rfl | (simp; done) | (simp [*]; done) | (simp [Go.Proofs.YtfbllodbcmcndaaX.isEmpty_ne]; done), by repeat (first | exact Drawn0.refl _ | apply Drawn0.step)⟩
        · rw [if_neg c14] at H
          have c14b0 : decide (48 ≤ a0) = false := decide_eq_false c14
          clear c14
          by_cases c19 : a0 = 45
          · rw [if_pos c19] at H
            have c19b0 : (a0 == 45) = true := beq_iff_eq.mpr c19
            have c19b1 : (a0 != 45) = false := bne_eq_false_iff_eq.mpr c19
            clear c19
            obtain rfl := Option.some.inj H
            go_enter Try.func85, Try.ntmps85
            go_wp2
            go_ret
            exact ⟨by first | rfl | (simp; done) | (simp [*]; done) | (simp [Go.Proofs.YtfbllodbcmcndaaX.isEmpty_ne]; done), by repeat (first | exact Drawn0.refl _ | apply Drawn0.step)⟩
          · rw [if_neg c19] at H
            have c19b0 : (a0 == 45) = false := beq_eq_false_iff_ne.mpr c19
            have c19b1 : (a0 != 45) = true := bne_iff_ne.mpr c19
            by_cases c20 : a0 = 46
            · rw [if_pos c20] at H
              have c20b0 : (a0 == 46) = true := beq_iff_eq.mpr c20
              have c20b1 : (a0 != 46) = false := bne_eq_false_iff_eq.mpr c20
              clear c20
              obtain rfl := Option.some.inj H
              go_enter Try.func85, Try.ntmps85
              go_wp2
              go_ret
              exact ⟨by first | rfl | (simp; done) | (simp [*]; done) | (simp [Go.Proofs.YtfbllodbcmcndaaX.isEmpty_ne]; done), by repeat (first | exact Drawn0.refl _ | apply Drawn0.step)⟩
            · rw [if_neg c20] at H
              have c20b0 : (a0 == 46) = false := beq_eq_false_iff_ne.mpr c20
              have c20b1 : (a0 != 46) = true := bne_iff_ne.mpr c20
              by_cases c21 : a0 = 95
              · rw [if_pos c21] at H
                have c21b0 : (a0 == 95) = true := beq_iff_eq.mpr c21
                have c21b1 : (a0 != 95) = false := bne_eq_false_iff_eq.mpr c21
                clear c21
                obtain rfl := Option.some.inj H
                go_enter Try.func85, Try.ntmps85
                go_wp2
                go_ret
                exact ⟨by first | rfl | (simp; done) | (simp [*]; done) | (simp [Go.Proofs.YtfbllodbcmcndaaX.isEmpty_ne]; done), by repeat (first | exact Drawn0.refl _ | apply Drawn0.step)⟩
              · rw [if_neg c21] at H
                have c21b0 : (a0 == 95) = false := beq_eq_false_iff_ne.mpr c21
                have c21b1 : (a0 != 95) = true := bne_iff_ne.mpr c21
                obtain rfl := Option.some.inj H
                go_enter Try.func85, Try.ntmps85
                go_wp2
                go_ret
                exact ⟨by first | rfl | (simp; done) | (simp [*]; done) | (simp [Go.Proofs.YtfbllodbcmcndaaX.isEmpty_ne]; done), by repeat (first | exact Drawn0.refl _ | apply Drawn0.step)⟩
  · rw [if_neg c2] at H
    have c2b0 : decide (97 ≤ a0) = false := decide_eq_false c2
    clear c2
    by_cases c22 : a0 ≥ 65
    · rw [if_pos c22] at H
      have c22b0 : decide (65 ≤ a0) = true := decide_eq_true c22
      clear c22
      by_cases c23 : a0 ≤ 90
      · rw [if_pos c23] at H
        have c23b0 : decide (a0 ≤ 90) = true := decide_eq_true c23
        clear c23
        obtain rfl := Option.some.inj H
        go_enter Try.func85, Try.ntmps85
        go_wp2
        go_ret
        exact ⟨by first | rfl | (simp; done) | (simp [*]; done) | (simp [Go.Proofs.YtfbllodbcmcndaaX.isEmpty_ne]; done), by repeat (first | exact Drawn0.refl _ | apply Drawn0.step)⟩
      · rw [if_neg c23] at H
        have c23b0 : decide (a0 ≤ 90) = false := decide_eq_false c23
        clear c23
        by_cases c24 : a0 ≥ 48
        · rw [if_pos c24] at H
          have c24b0 : decide (48 ≤ a0) = true := decide_eq_true c24
          clear c24
          by_cases c25 : a0 ≤ 57
          · rw [if_pos c25] at H
            have c25b0 : decide (a0 ≤ 57) = true := decide_eq_true c25
            clear c25
            obtain rfl := Option.some.inj H
            go_enter Try.func85, Try.ntmps85
            go_wp2
            go_ret
            exact ⟨by first | rfl | (simp; done) | (simp [*]; done) | (simp [Go.Proofs.YtfbllodbcmcndaaX.isEmpty_ne]; done), by repeat (first | exact Drawn0.refl _ | apply Drawn0.step)⟩
          · rw [if_neg c25] at H
            have c25b0 : decide (a0 ≤ 57) = false := decide_eq_false c25
            clear c25
            by_cases c26 : a0 = 45
            · rw [if_pos c26] at H
              have c26b0 : (a0 == 45) = true := beq_iff_eq.mpr c26
              have c26b1 : (a0 != 45) = false := bne_eq_false_iff_eq.mpr c26
              clear c26
              obtain rfl := Option.some.inj H
              go_enter Try.func85, Try.ntmps85
              go_wp2
              go_ret
              exact ⟨by first | rfl | (simp; done) | (simp [*]; done) | (simp [Go.Proofs.YtfbllodbcmcndaaX.isEmpty_ne]; done), by repeat (first | exact Drawn0.refl _ | apply Drawn0.step)⟩
            · rw [if_neg c26] at H
              have c26b0 : (a0 == 45) = false := beq_eq_false_iff_ne.mpr c26
              have c26b1 : (a0 != 45) = true := bne_iff_ne.mpr c26
              by_cases c27 : a0 = 46
              · rw [if_pos c27] at H
                have c27b0 : (a0 == 46) = true := beq_iff_eq.mpr c27
                have c27b1 : (a0 != 46) = false := bne_eq_false_iff_eq.mpr c27
                clear c27
                obtain rfl := Option.some.inj H
                go_enter Try.func85, Try.ntmps85
                go_wp2
                go_ret
                exact ⟨by first | rfl | (simp; done) | (simp [*]; done) | (simp [Go.Proofs.YtfbllodbcmcndaaX.isEmpty_ne]; done), by repeat (first | exact Drawn0.refl _ | apply Drawn0.step)⟩
              · rw [if_neg c27] at H
                have c27b0 : (a0 == 46) = false := beq_eq_false_iff_ne.mpr c27
                have c27b1 : (a0 != 46) = true := bne_iff_ne.mpr c27
                by_cases c28 : a0 = 95
                · rw [if_pos c28] at H
                  have c28b0 : (a0 == 95) = true := beq_iff_eq.mpr c28
                  have c28b1 : (a0 != 95) = false := bne_eq_false_iff_eq.mpr c28
                  clear c28
                  obtain rfl := Option.some.inj H
                  go_enter Try.func85, Try.ntmps85
                  go_wp2
                  go_ret
                  exact ⟨by first | rfl | (simp; done) | (simp [*]; done) | (simp [Go.Proofs.YtfbllodbcmcndaaX.isEmpty_ne]; done), by repeat (first | exact Drawn0.refl _ | apply Drawn0.step)⟩
                · rw [if_neg c28] at H
                  have c28b0 : (a0 == 95) = false := beq_eq_false_iff_ne.mpr c28
                  have c28b1 : (a0 != 95) = true := bne_iff_ne.mpr c28
                  obtain rfl := Option.some.inj H
                  go_enter Try.func85, Try.ntmps85
                  go_wp2
                  go_ret
                  exact ⟨by first | rfl | (simp; done) | (simp [*]; done) | (simp [Go.Proofs.YtfbllodbcmcndaaX.isEmpty_ne]; done), by repeat (first | exact Drawn0.refl _ | apply Drawn0.step)⟩
        · rw [if_neg c24] at H
          have c24b0 : decide (48 ≤ a0) = false := decide_eq_false c24
          clear c24
          by_cases c29 : a0 = 45
          · rw [if_pos c29] at H
            have c29b0 : (a0 == 45) = true := beq_iff_eq.mpr c29
            have c29b1 : (a0 != 45) = false := bne_eq_false_iff_eq.mpr c29
            clear c29
            obtain rfl := Option.some.inj H
            go_enter Try.func85, Try.ntmps85
            go_wp2
            go_ret
            exact ⟨by first | rfl | (simp; done) | (simp [*]; done) | (simp [Go.Proofs.YtfbllodbcmcndaaX.isEmpty_ne]; done), by repeat (first | exact Drawn0.refl _ | apply Drawn0.step)⟩
          · rw [if_neg c29] at H
            have c29b0 : (a0 == 45) = false := beq_eq_false_iff_ne.mpr c29
            have c29b1 : (a0 != 45) = true := bne_iff_ne.mpr c29
            by_cases c30 : a0 = 46
            · rw [if_pos c30] at H
              have c30b0 : (a0 == 46) = true := beq_iff_eq.mpr c30
              have c30b1 : (a0 != 46) = false := bne_eq_false_iff_eq.mpr c30
              clear c30
              obtain rfl := Option.some.inj H
              go_enter Try.func85, Try.ntmps85
              go_wp2
              go_ret
              exact ⟨by first | rfl | (simp; done) | (simp [*]; done) | (simp [Go.Proofs.YtfbllodbcmcndaaX.isEmpty_ne]; done), by repeat (first | exact Drawn0.refl _ | apply Drawn0.step)⟩
            · rw [if_neg c30] at H
              have c30b0 : (a0 == 46) = false := beq_eq_false_iff_ne.mpr c30
              have c30b1 : (a0 != 46) = true := bne_iff_ne.mpr c30
              by_cases c31 : a0 = 95
              · rw [if_pos c31] at H
                have c31b0 : (a0 == 95) = true := beq_iff_eq.mpr c31
                have c31b1 : (a0 != 95) = false := bne_eq_false_iff_eq.mpr c31
                clear c31
                obtain rfl := Option.some.inj H
                go_enter Try.func85, Try.ntmps85
                go_wp2
                go_ret
                exact ⟨by first | rfl | (simp; done) | (simp [*]; done) | (simp [Go.Proofs.YtfbllodbcmcndaaX.isEmpty_ne]; done), by repeat (first | exact Drawn0.refl _ | apply Drawn0.step)⟩
              · rw [if_neg c31] at H
                have c31b0 : (a0 == 95) = false := beq_eq_false_iff_ne.mpr c31
                have c31b1 : (a0 != 95) = true := bne_iff_ne.mpr c31
                obtain rfl := Option.some.inj H
                go_enter Try.func85, Try.ntmps85
                go_wp2
                go_ret
                exact ⟨by first | rfl | (simp; done) | (simp [*]; done) | (simp [Go.Proofs.YtfbllodbcmcndaaX.isEmpty_ne]; done), by repeat (first | exact Drawn0.refl _ | apply Drawn0.step)⟩
    · rw [if_neg c22] at H
      have c22b0 : decide (65 ≤ a0) = false := decide_eq_false c22
      clear c22
      by_cases c32 : a0 ≥ 48
      · rw [if_pos c32] at H
        have c32b0 : decide (48 ≤ a0) = true := decide_eq_true c32
        clear c32
        by_cases c33 : a0 ≤ 57
        · rw [if_pos c33] at H
          have c33b0 : decide (a0 ≤ 57) = true := decide_eq_true c33
          clear c33
          obtain rfl := Option.some.inj H
          go_enter Try.func85, Try.ntmps85
          go_wp2
          go_ret
          exact ⟨by first | rfl | (simp; done) | (simp [*]; done) | (simp [Go.Proofs.YtfbllodbcmcndaaX.isEmpty_ne]; done), by repeat (first | exact Drawn0.refl _ | apply Drawn0.step)⟩
        · rw [if_neg c33] at H
          have c33b0 : decide (a0 ≤ 57) = false := decide_eq_false c33
          clear c33
          by_cases c34 : a0 = 45
          · rw [if_pos c34] at H
            have c34b0 : (a0 == 45) = true := beq_iff_eq.mpr c34
            have c34b1 : (a0 != 45) = false := bne_eq_false_iff_eq.mpr c34
            clear c34
            obtain rfl := Option.some.inj H
            go_enter Try.func85, Try.ntmps85
            go_wp2
            go_ret
            exact ⟨by first | rfl | (simp; done) | (simp [*]; done) | (simp [Go.Proofs.YtfbllodbcmcndaaX.isEmpty_ne]; done), by repeat (first | exact Drawn0.refl _ | apply Drawn0.step)⟩
          · rw [if_neg c34] at H
            have c34b0 : (a0 == 45) = false := beq_eq_false_iff_ne.mpr c34
            have c34b1 : (a0 != 45) = true := bne_iff_ne.mpr c34
            by_cases c35 : a0 = 46
            · rw [if_pos c35] at H
              have c35b0 : (a0 == 46) = true := beq_iff_eq.mpr c35
              have c35b1 : (a0 != 46) = false := bne_eq_false_iff_eq.mpr c35
              clear c35
              obtain rfl := Option.some.inj H
              go_enter Try.func85, Try.ntmps85
              go_wp2
              go_ret
              exact ⟨by first | rfl | (simp; done) | (simp [*]; done) | (simp [Go.Proofs.YtfbllodbcmcndaaX.isEmpty_ne]; done), by repeat (first | exact Drawn0.refl _ | apply Drawn0.step)⟩
            · rw [if_neg c35] at H
              have c35b0 : (a0 == 46) = false := beq_eq_false_iff_ne.mpr c35
              have c35b1 : (a0 != 46) = true := bne_iff_ne.mpr c35
              by_cases c36 : a0 = 95
              · rw [if_pos c36] at H
                have c36b0 : (a0 == 95) = true := beq_iff_eq.mpr c36
                have c36b1 : (a0 != 95) = false := bne_eq_false_iff_eq.mpr c36
                clear c36
                obtain rfl := Option.some.inj H
                go_enter Try.func85, Try.ntmps85
                go_wp2
                go_ret
                exact ⟨by first | rfl | (simp; done) | (simp [*]; done) | (simp [Go.Proofs.YtfbllodbcmcndaaX.isEmpty_ne]; done), by repeat (first | exact Drawn0.refl _ | apply Drawn0.step)⟩
              · rw [if_neg c36] at H
                have c36b0 : (a0 == 95) = false := beq_eq_false_iff_ne.mpr c36
                have c36b1 : (a0 != 95) = true := bne_iff_ne.mpr c36
                obtain rfl := Option.some.inj H
                go_enter Try.func85, Try.ntmps85
                go_wp2
                go_ret
                exact ⟨by first | rfl | (simp; done) | (simp [*]; done) | (simp [Go.Proofs.YtfbllodbcmcndaaX.isEmpty_ne]; done), by repeat (first | exact Drawn0.refl _ | apply Drawn0.step)⟩
      · rw [if_neg c32] at H
        have c32b0 : decide (48 ≤ a0) = false := decide_eq_false c32
        clear c32
        by_cases c37 : a0 = 45
        · rw [if_pos c37] at H
          have c37b0 : (a0 == 45) = true := beq_iff_eq.mpr c37
          have c37b1 : (a0 != 45) = false := bne_eq_false_iff_eq.mpr c37
          clear c37
          obtain rfl := Option.some.inj H
          go_enter Try.func85, Try.ntmps85
          go_wp2
          go_ret
          exact ⟨by first | rfl | (simp; done) | (simp [*]; done) | (simp [Go.Proofs.YtfbllodbcmcndaaX.isEmpty_ne]; done), by repeat (first | exact Drawn0.refl _ | apply Drawn0.step)⟩
        · rw [if_neg c37] at H
          have c37b0 : (a0 == 45) = false := beq_eq_false_iff_ne.mpr c37
          have c37b1 : (a0 != 45) = true := bne_iff_ne.mpr c37
          by_cases c38 : a0 = 46
          · rw [if_pos c38] at H
            have c38b0 : (a0 == 46) = true := beq_iff_eq.mpr c38
            have c38b1 : (a0 != 46) = false := bne_eq_false_iff_eq.mpr c38
            clear c38
            obtain rfl := Option.some.inj H
            go_enter Try.func85, Try.ntmps85
            go_wp2
            go_ret
            exact ⟨by first | rfl | (simp; done) | (simp [*]; done) | (simp [Go.Proofs.YtfbllodbcmcndaaX.isEmpty_ne]; done), by repeat (first | exact Drawn0.refl _ | apply Drawn0.step)⟩
          · rw [if_neg c38] at H
            have c38b0 : (a0 == 46) = false := beq_eq_false_iff_ne.mpr c38
            have c38b1 : (a0 != 46) = true := bne_iff_ne.mpr c38
            by_cases c39 : a0 = 95
            · rw [if_pos c39] at H
              have c39b0 : (a0 == 95) = true := beq_iff_eq.mpr c39
              have c39b1 : (a0 != 95) = false := bne_eq_false_iff_eq.mpr c39
              clear c39
              obtain rfl := Option.some.inj H
              go_enter Try.func85, Try.ntmps85
              go_wp2
              go_ret
              exact ⟨by first | rfl | (simp; done) | (simp [*]; done) | (simp [Go.Proofs.YtfbllodbcmcndaaX.isEmpty_ne]; done), by repeat (first | exact Drawn0.refl _ | apply Drawn0.step)⟩
            · rw [if_neg c39] at H
              have c39b0 : (a0 == 95) = false := beq_eq_false_iff_ne.mpr c39
              have c39b1 : (a0 != 95) = true := bne_iff_ne.mpr c39
              obtain rfl := Option.some.inj H
              go_enter Try.func85, Try.ntmps85
              go_wp2
              go_ret
              exact ⟨by first | rfl | (simp; done) | (simp [*]; done) | (simp [Go.Proofs.YtfbllodbcmcndaaX.isEmpty_ne]; done), by repeat (first | exact Drawn0.refl _ | apply Drawn0.step)⟩
end Go.Proofs.Ytfbllodbcmcndaa.Q
end
