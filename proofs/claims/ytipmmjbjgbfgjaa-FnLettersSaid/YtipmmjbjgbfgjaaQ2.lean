-- Written by a program of this session out of the translation, with the kit's printer. Not trusted: Lean checks it.
import Derived.Test.YtipmmjbjgbfgjaaQ0
namespace Go.Proofs.Ytipmmjbjgbfgjaa.Q
open Go.RowKit Go.Proofs.YtipmmjbjgbfgjaaW.PrintWords Go.Proofs.YtipmmjbjgbfgjaaW.PrintLast Go.Proofs.YtipmmjbjgbfgjaaW.PrintMore
attribute [local go_sem] max2_int min2_int max_two min_two max_three min_three max_four min_four   -- for this text's walks alone
set_option linter.unusedVariables false
set_option linter.unusedSimpArgs false

/-! ### fiberutils_Trim: function 54 -/
mutual
def fiberutils_Trim.j1 : Nat → ByteArray → Int → Int → Int → Option (ByteArray)
  | 0, _, _, _, _ => none
  | k + 1, x0, x1, x5, x6 => fiberutils_Trim.l1 k x0 x1 x5 x6
def fiberutils_Trim.l1 : Nat → ByteArray → Int → Int → Int → Option (ByteArray)
  | 0, _, _, _, _ => none
  | k + 1, x0, x1, x5, x6 => if x5 < x6 then (if 0 ≤ x6 then (if x6 < (x0.size : Int) then (if (bt x0 x6) = x1 then (fiberutils_Trim.l1 k x0 x1 x5 (wrap64 (x6 - 1))) else (if 0 ≤ x5 then (if x5 ≤ (wrap64 (x6 + 1)) then (if (wrap64 (x6 + 1)) ≤ (x0.size : Int) then (some (x0.extract (x5 : Int).toNat ((wrap64 (x6 + 1)) : Int).toNat)) else (none)) else (none)) else (none))) else (none)) else (none)) else (if 0 ≤ x5 then (if x5 ≤ (wrap64 (x6 + 1)) then (if (wrap64 (x6 + 1)) ≤ (x0.size : Int) then (some (x0.extract (x5 : Int).toNat ((wrap64 (x6 + 1)) : Int).toNat)) else (none)) else (none)) else (none))
def fiberutils_Trim.l0 : Nat → ByteArray → Int → Int → Int → Option (ByteArray)
  | 0, _, _, _, _ => none
  | k + 1, x0, x1, x5, x6 => if x5 ≤ x6 then (if 0 ≤ x5 then (if x5 < (x0.size : Int) then (if (bt x0 x5) = x1 then (fiberutils_Trim.l0 k x0 x1 (wrap64 (x5 + 1)) x6) else (fiberutils_Trim.j1 k x0 x1 x5 x6)) else (none)) else (none)) else (fiberutils_Trim.j1 k x0 x1 x5 x6)
end
def fiberutils_Trim.f (k : Nat) (a0 : ByteArray) (a1 : Int) : Option (ByteArray) := fiberutils_Trim.l0 k a0 a1 0 (wrap64 ((a0.size : Int) - 1))
theorem fiberutils_Trim.mono_l : ∀ k, (∀ y0 y1 y2 y3, LeO (fiberutils_Trim.j1 k y0 y1 y2 y3) (fiberutils_Trim.j1 (k + 1) y0 y1 y2 y3)) ∧ (∀ y0 y1 y2 y3, LeO (fiberutils_Trim.l1 k y0 y1 y2 y3) (fiberutils_Trim.l1 (k + 1) y0 y1 y2 y3)) ∧ (∀ y0 y1 y2 y3, LeO (fiberutils_Trim.l0 k y0 y1 y2 y3) (fiberutils_Trim.l0 (k + 1) y0 y1 y2 y3))
  | 0 => ⟨fun _ _ _ _ r h => by simp [fiberutils_Trim.j1] at h, fun _ _ _ _ r h => by simp [fiberutils_Trim.l1] at h, fun _ _ _ _ r h => by simp [fiberutils_Trim.l0] at h⟩
  | k + 1 => by
    obtain ⟨ih0, ih1, ih2⟩ := fiberutils_Trim.mono_l k
    refine ⟨?_, ?_, ?_⟩
    · intro y0 y1 y2 y3
      unfold fiberutils_Trim.j1
      repeat' first
      | (with_reducible exact ih0 _ _ _ _)
      | (with_reducible exact ih1 _ _ _ _)
      | (with_reducible exact ih2 _ _ _ _)
      | (with_reducible exact LeO.refl _)
      | (with_reducible exact LeO.none _)
      | (with_reducible refine LeO.ite ?_ ?_)
      | (with_reducible refine LeO.bind ?_ (fun _ => ?_))
      | exact ih0 _ _ _ _
      | exact ih1 _ _ _ _
      | exact ih2 _ _ _ _
      | exact LeO.none _
      | refine LeO.ite ?_ ?_
      | refine LeO.bind ?_ (fun _ => ?_)
    · intro y0 y1 y2 y3
      unfold fiberutils_Trim.l1
      repeat' first
      | (with_reducible exact ih0 _ _ _ _)
      | (with_reducible exact ih1 _ _ _ _)
      | (with_reducible exact ih2 _ _ _ _)
      | (with_reducible exact LeO.refl _)
      | (with_reducible exact LeO.none _)
      | (with_reducible refine LeO.ite ?_ ?_)
      | (with_reducible refine LeO.bind ?_ (fun _ => ?_))
      | exact ih0 _ _ _ _
      | exact ih1 _ _ _ _
      | exact ih2 _ _ _ _
      | exact LeO.none _
      | refine LeO.ite ?_ ?_
      | refine LeO.bind ?_ (fun _ => ?_)
    · intro y0 y1 y2 y3
      unfold fiberutils_Trim.l0
      repeat' first
      | (with_reducible exact ih0 _ _ _ _)
      | (with_reducible exact ih1 _ _ _ _)
      | (with_reducible exact ih2 _ _ _ _)
      | (with_reducible exact LeO.refl _)
      | (with_reducible exact LeO.none _)
      | (with_reducible refine LeO.ite ?_ ?_)
      | (with_reducible refine LeO.bind ?_ (fun _ => ?_))
      | exact ih0 _ _ _ _
      | exact ih1 _ _ _ _
      | exact ih2 _ _ _ _
      | exact LeO.none _
      | refine LeO.ite ?_ ?_
      | refine LeO.bind ?_ (fun _ => ?_)
theorem fiberutils_Trim.mono : ∀ a0 a1 k, LeO (fiberutils_Trim.f k a0 a1) (fiberutils_Trim.f (k + 1) a0 a1) := by
  intro a0 a1 k
  obtain ⟨ih0, ih1, ih2⟩ := fiberutils_Trim.mono_l k
  unfold fiberutils_Trim.f
  repeat' first
      | (with_reducible exact ih0 _ _ _ _)
      | (with_reducible exact ih1 _ _ _ _)
      | (with_reducible exact ih2 _ _ _ _)
      | (with_reducible exact LeO.refl _)
      | (with_reducible exact LeO.none _)
      | (with_reducible refine LeO.ite ?_ ?_)
      | (with_reducible refine LeO.bind ?_ (fun _ => ?_))
      | exact ih0 _ _ _ _
      | exact ih1 _ _ _ _
      | exact ih2 _ _ _ _
      | exact LeO.none _
      | refine LeO.ite ?_ ?_
      | refine LeO.bind ?_ (fun _ => ?_)
set_option maxHeartbeats 8000000 in
set_option maxRecDepth 100000 in
theorem fiberutils_Trim.calls (k : Nat) (a0 : ByteArray) (a1 : Int) (r : ByteArray) (w : World) (h : fiberutils_Trim.f k a0 a1 = some r) :
    Calls Try.prog 54 #[.string a0, .int .u8 a1] w fun e w' => e = .returned (.string r) ∧ Drawn0 w w' := by
  have H : (fiberutils_Trim.l0 k a0 a1 0 (wrap64 ((a0.size : Int) - 1))) = some r := h
  clear h
  have HC3 := Aside0.mk H
  clear H
  go_enter Try.func54, Try.ntmps54
  go_upto_block 0 with (fail)
  go_cut [5] (fun v5 wc => ∃ (kq : Nat) (x5_2 : Int), v5 = .int .i64 x5_2 ∧ Aside0 (fiberutils_Trim.j1 kq a0 a1 x5_2 (wrap64 ((a0.size : Int) - 1)) = some r) ∧ Aside0 (kq ≤ k) ∧ Drawn0 w wc)
  case first =>
    have H := HC3.out
    clear HC3
    have H' := Aside0.mk H
    clear H
    go_wp2
    go_loopg [5] k (fun kq v5 w' => ∃ (x5_1 : Int), v5 = .int .i64 x5_1 ∧ Aside0 (fiberutils_Trim.l0 kq a0 a1 x5_1 (wrap64 ((a0.size : Int) - 1)) = some r) ∧ Aside0 (kq ≤ k) ∧ Drawn0 w w')
    case atStart => exact ⟨(0), (by first | rfl | (simp; done) | (simp [*]; done) | (simp [Go.Proofs.YtipmmjbjgbfgjaaX.isEmpty_ne]; done)), H', ⟨Nat.le_refl _⟩, by repeat (first | exact Drawn0.refl _ | apply Drawn0.step)⟩
    case round =>
      clear H'
      try clear p2
      obtain ⟨x5_1, rfl, HA, HK1, ⟨m1, rfl⟩⟩ := hrel
      cases gk with
      | zero => exact absurd HA.out (by simp [fiberutils_Trim.l0])
      | succ k1 =>
        have H := HA.out
        clear HA
        simp only [fiberutils_Trim.l0] at H
        by_cases c4 : x5_1 ≤ (wrap64 ((a0.size : Int) - 1))
        · rw [if_pos c4] at H
          have c4b0 : decide (x5_1 ≤ (wrap64 ((a0.size : Int) - 1))) = true := decide_eq_true c4
          clear c4
          (first | rw [c4b0] | (simp only [i64_w, i32_w]; rw [c4b0]) | skip)
          by_cases c5 : 0 ≤ x5_1
          · rw [if_pos c5] at H
            have c5b0 : decide (0 ≤ x5_1) = true := decide_eq_true c5
            clear c5
            by_cases c6 : x5_1 < (a0.size : Int)
            · rw [if_pos c6] at H
              have c6b0 : decide (x5_1 < (a0.size : Int)) = true := decide_eq_true c6
              clear c6
              by_cases c8 : (bt a0 x5_1) = a1
              · rw [if_pos c8] at H
                have c8b0 : ((bt a0 x5_1) == a1) = true := beq_iff_eq.mpr c8
                have c8b1 : ((bt a0 x5_1) != a1) = false := bne_eq_false_iff_eq.mpr c8
                clear c8
                have H' := Aside0.mk H
                clear H
                have p7 : 0 ≤ (x5_1 : Int) := of_decide_eq_true (by first | (with_reducible assumption) | assumption)
                have q7 : x5_1 < (a0.size : Int) := of_decide_eq_true (by first | (with_reducible assumption) | assumption)
                have hx7 := bt_at a0 x5_1
                replace p7 := eq_true p7
                replace q7 := eq_true q7
                go_wp2
                go_roundg k1
                case measure => have := HK1.out; omega
                case rel => exact ⟨(wrap64 (x5_1 + 1)), (by first | rfl | (simp; done) | (simp [*]; done) | (simp [Go.Proofs.YtipmmjbjgbfgjaaX.isEmpty_ne]; done)), H', ⟨by have := HK1.out; omega⟩, by repeat (first | exact Drawn0.refl _ | apply Drawn0.step)⟩
              · rw [if_neg c8] at H
                have c8b0 : ((bt a0 x5_1) == a1) = false := beq_eq_false_iff_ne.mpr c8
                have c8b1 : ((bt a0 x5_1) != a1) = true := bne_iff_ne.mpr c8
                have H' := Aside0.mk H
                clear H
                have p7 : 0 ≤ (x5_1 : Int) := of_decide_eq_true (by first | (with_reducible assumption) | assumption)
                have q7 : x5_1 < (a0.size : Int) := of_decide_eq_true (by first | (with_reducible assumption) | assumption)
                have hx7 := bt_at a0 x5_1
                replace p7 := eq_true p7
                replace q7 := eq_true q7
                go_wp2
                go_meet
                case rel => exact ⟨_, (x5_1), (by first | rfl | (simp; done) | (simp [*]; done) | (simp [Go.Proofs.YtipmmjbjgbfgjaaX.isEmpty_ne]; done)), H', ⟨by have := HK1.out; first | omega | exact Nat.le_refl _⟩, by repeat (first | exact Drawn0.refl _ | apply Drawn0.step)⟩
            · rw [if_neg c6] at H
              exact absurd H (by simp)
          · rw [if_neg c5] at H
            exact absurd H (by simp)
        · rw [if_neg c4] at H
          have c4b0 : decide (x5_1 ≤ (wrap64 ((a0.size : Int) - 1))) = false := decide_eq_false c4
          clear c4
          (first | rw [c4b0] | (simp only [i64_w, i32_w]; rw [c4b0]) | skip)
          have H' := Aside0.mk H
          clear H
          go_wp2
          go_meet
          case rel => exact ⟨_, (x5_1), (by first | rfl | (simp; done) | (simp [*]; done) | (simp [Go.Proofs.YtipmmjbjgbfgjaaX.isEmpty_ne]; done)), H', ⟨by have := HK1.out; first | omega | exact Nat.le_refl _⟩, by repeat (first | exact Drawn0.refl _ | apply Drawn0.step)⟩
  case rest =>
    clear HC3
    try clear p2
    try clear c4
    try clear c4b0
    try clear c5
    try clear c5b0
    try clear c6
    try clear c6b0
    try clear p6
    try clear p7
    try clear q7
    try clear hx7
    try clear c8
    try clear c8b0
    try clear c8b1
    try clear p2
    try clear p7
    try clear q7
    obtain ⟨kq, x5_2, rfl, HA, HJ2, ⟨mc2, rfl⟩⟩ := hcut
    cases kq with
    | zero => exact absurd HA.out (by simp [fiberutils_Trim.j1])
    | succ kj2 =>
      have H := HA.out
      clear HA
      simp only [fiberutils_Trim.j1] at H
      have H' := Aside0.mk H
      clear H
      go_wp2
      go_loopg [6] kj2 (fun kq v6 w' => ∃ (x6_2 : Int), v6 = .int .i64 x6_2 ∧ Aside0 (fiberutils_Trim.l1 kq a0 a1 x5_2 x6_2 = some r) ∧ Aside0 (kq ≤ kj2) ∧ Drawn0 w w')
      case atStart => exact ⟨((wrap64 ((a0.size : Int) - 1))), (by first | rfl | (simp; done) | (simp [*]; done) | (simp [Go.Proofs.YtipmmjbjgbfgjaaX.isEmpty_ne]; done)), H', ⟨Nat.le_refl _⟩, by repeat (first | exact Drawn0.refl _ | apply Drawn0.step)⟩
      case round =>
        clear H'
        try clear c2
        try clear p2
        try clear c4
        try clear c4b0
        try clear c5
        try clear c5b0
        try clear c6
        try clear c6b0
        try clear p6
        try clear p7
        try clear q7
        try clear hx7
        try clear c8
        try clear c8b0
        try clear c8b1
        try clear p2
        try clear p6
        try clear p7
        try clear q7
        obtain ⟨x6_2, rfl, HA, HK2, ⟨m2, rfl⟩⟩ := hrel
        cases gk with
        | zero => exact absurd HA.out (by simp [fiberutils_Trim.l1])
        | succ k2 =>
          have H := HA.out
          clear HA
          simp only [fiberutils_Trim.l1] at H
          by_cases c9 : x5_2 < x6_2
          · rw [if_pos c9] at H
            have c9b0 : decide (x5_2 < x6_2) = true := decide_eq_true c9
            clear c9
            by_cases c10 : 0 ≤ x6_2
            · rw [if_pos c10] at H
              have c10b0 : decide (0 ≤ x6_2) = true := decide_eq_true c10
              clear c10
              by_cases c11 : x6_2 < (a0.size : Int)
              · rw [if_pos c11] at H
                have c11b0 : decide (x6_2 < (a0.size : Int)) = true := decide_eq_true c11
                clear c11
                by_cases c13 : (bt a0 x6_2) = a1
                · rw [if_pos c13] at H
                  have c13b0 : ((bt a0 x6_2) == a1) = true := beq_iff_eq.mpr c13
                  have c13b1 : ((bt a0 x6_2) != a1) = false := bne_eq_false_iff_eq.mpr c13
                  clear c13
                  have H' := Aside0.mk H
                  clear H
                  have p12 : 0 ≤ (x6_2 : Int) := of_decide_eq_true (by first | (with_reducible assumption) | assumption)
                  have q12 : x6_2 < (a0.size : Int) := of_decide_eq_true (by first | (with_reducible assumption) | assumption)
                  have hx12 := bt_at a0 x6_2
                  replace p12 := eq_true p12
                  replace q12 := eq_true q12
                  go_wp2
                  go_roundg k2
                  case measure => have := HJ2.out; have := HK2.out; omega
                  case rel => exact ⟨(wrap64 (x6_2 - 1)), (by first | rfl | (simp; done) | (simp [*]; done) | (simp [Go.Proofs.YtipmmjbjgbfgjaaX.isEmpty_ne]; done)), H', ⟨by have := HJ2.out; have := HK2.out; omega⟩, by repeat (first | exact Drawn0.refl _ | apply Drawn0.step)⟩
                · rw [if_neg c13] at H
                  have c13b0 : ((bt a0 x6_2) == a1) = false := beq_eq_false_iff_ne.mpr c13
                  have c13b1 : ((bt a0 x6_2) != a1) = true := bne_iff_ne.mpr c13
                  by_cases c14 : 0 ≤ x5_2
                  · rw [if_pos c14] at H
                    have c14b0 := eq_true c14
                    have c14b1 : decide (0 ≤ x5_2) = true := decide_eq_true c14
                    clear c14
                    by_cases c15 : x5_2 ≤ (wrap64 (x6_2 + 1))
                    · rw [if_pos c15] at H
                      have c15b0 := eq_true c15
                      have c15b1 : decide (x5_2 ≤ (wrap64 (x6_2 + 1))) = true := decide_eq_true c15
                      by_cases c16 : (wrap64 (x6_2 + 1)) ≤ (a0.size : Int)
                      · rw [if_pos c16] at H
                        have c16b0 := eq_true c16
                        have c16b1 : decide ((wrap64 (x6_2 + 1)) ≤ (a0.size : Int)) = true := decide_eq_true c16
                        obtain rfl := Option.some.inj H
                        have p12 : 0 ≤ (x6_2 : Int) := of_decide_eq_true (by first | (with_reducible assumption) | assumption)
                        have q12 : x6_2 < (a0.size : Int) := of_decide_eq_true (by first | (with_reducible assumption) | assumption)
                        have hx12 := bt_at a0 x6_2
                        replace p12 := eq_true p12
                        replace q12 := eq_true q12
                        go_wp2
                        go_ret
                        exact ⟨by first | rfl | (simp; done) | (simp [*]; done) | (simp [Go.Proofs.YtipmmjbjgbfgjaaX.isEmpty_ne]; done), by repeat (first | exact Drawn0.refl _ | apply Drawn0.step)⟩
                      · rw [if_neg c16] at H
                        exact absurd H (by simp)
                    · rw [if_neg c15] at H
                      exact absurd H (by simp)
                  · rw [if_neg c14] at H
                    exact absurd H (by simp)
              · rw [if_neg c11] at H
                exact absurd H (by simp)
            · rw [if_neg c10] at H
              exact absurd H (by simp)
          · rw [if_neg c9] at H
            have c9b0 : decide (x5_2 < x6_2) = false := decide_eq_false c9
            clear c9
            by_cases c17 : 0 ≤ x5_2
            · rw [if_pos c17] at H
              have c17b0 := eq_true c17
              have c17b1 : decide (0 ≤ x5_2) = true := decide_eq_true c17
              clear c17
              by_cases c18 : x5_2 ≤ (wrap64 (x6_2 + 1))
              · rw [if_pos c18] at H
                have c18b0 := eq_true c18
                have c18b1 : decide (x5_2 ≤ (wrap64 (x6_2 + 1))) = true := decide_eq_true c18
                by_cases c19 : (wrap64 (x6_2 + 1)) ≤ (a0.size : Int)
                · rw [if_pos c19] at H
                  have c19b0 := eq_true c19
                  have c19b1 : decide ((wrap64 (x6_2 + 1)) ≤ (a0.size : Int)) = true := decide_eq_true c19
                  obtain rfl := Option.some.inj H
                  go_wp2
                  go_ret
                  exact ⟨by first | rfl | (simp; done) | (simp [*]; done) | (simp [Go.Proofs.YtipmmjbjgbfgjaaX.isEmpty_ne]; done), by repeat (first | exact Drawn0.refl _ | apply Drawn0.step)⟩
                · rw [if_neg c19] at H
                  exact absurd H (by simp)
              · rw [if_neg c18] at H
                exact absurd H (by simp)
            · rw [if_neg c17] at H
              exact absurd H (by simp)

end Go.Proofs.Ytipmmjbjgbfgjaa.Q
