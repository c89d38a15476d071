import Derived.Test.YtipmmjbjgbfgjaaQ0
-- Written by a program of this session out of the translation, with the kit's printer. Not trusted: Lean checks it.
namespace Go.Proofs.Ytipmmjbjgbfgjaa.Q
open Go.RowKit Go.Proofs.YtipmmjbjgbfgjaaW.PrintWords Go.Proofs.YtipmmjbjgbfgjaaW.PrintLast Go.Proofs.YtipmmjbjgbfgjaaW.PrintMore
attribute [local go_sem] max2_int min2_int max_two min_two max_three min_three max_four min_four   -- for this text's walks alone
set_option linter.unusedVariables false
set_option linter.unusedSimpArgs false

/-! ### fiberutils_Trim: function 54 -/
mutual
def fiberutils_Trim.j1 : Nat → ByteArray → Int → Int → Int → Option (ByteArray)
  | 0, _, _, _, _ => none
  | k + 1, x0, x1, x5, x6 => fiberutils_Trim.l1 k x0 x1 x5 x6
def fiberutils_Trim.l1 : Nat → ByteArray → Int → Int → Int → Option (ByteArray)
  | 0, _, _, _, _ => none
  | k + 1, x0, x1, x5, x6 => if x5 < x6 then (if 0 ≤ x6 then (if x6 < (x0.size : Int) then (if (bt x0 x6) = x1 then (fiberutils_Trim.l1 k x0 x1 x5 (wrap64 (x6 - 1))) else (if 0 ≤ x5 then (if x5 ≤ (wrap64 (x6 + 1)) then (if (wrap64 (x6 + 1)) ≤ (x0.size : Int) then (some (x0.extract (x5 : Int).toNat ((wrap64 (x6 + 1)) : Int).toNat)) else (none)) else (none)) else (none))) else (none)) else (none)) else (if 0 ≤ x5 then (if x5 ≤ (wrap64 (x6 + 1)) then (if (wrap64 (x6 + 1)) ≤ (x0.size : Int) then (some (x0.extract (x5 : Int).toNat ((wrap64 (x6 + 1)) : Int).toNat)) else (none)) else (none)) else (none))
def fiberutils_Trim.l0 : Nat → ByteArray → Int → Int → Int → Option (ByteArray)
  | 0, _, _, _, _ => none
  | k + 1, x0, x1, x5, x6 => if x5 ≤ x6 then (if 0 ≤ x5 then (if x5 < (x0.size : Int) then (if (bt x0 x5) = x1 then (fiberutils_Trim.l0 k x0 x1 (wrap64 (x5 + 1)) x6) else (fiberutils_Trim.j1 k x0 x1 x5 x6)) else (none)) else (none)) else (fiberutils_Trim.j1 k x0 x1 x5 x6)
end
def fiberutils_Trim.f (k : Nat) (a0 : ByteArray) (a1 : Int) : Option (ByteArray) := fiberutils_Trim.l0 k a0 a1 0 (wrap64 ((a0.size : Int) - 1))
theorem fiberutils_Trim.mono_l : ∀ k, (∀ y0 y1 y2 y3, LeO (fiberutils_Trim.j1 k y0 y1 y2 y3) (fiberutils_Trim.j1 (k + 1) y0 y1 y2 y3)) ∧ (∀ y0 y1 y2 y3, LeO (fiberutils_Trim.l1 k y0 y1 y2 y3) (fiberutils_Trim.l1 (k + 1) y0 y1 y2 y3)) ∧ (∀ y0 y1 y2 y3, LeO (fiberutils_Trim.l0 k y0 y1 y2 y3) (fiberutils_Trim.l0 (k + 1) y0 y1 y2 y3))
  | 0 => ⟨fun _ _ _ _ r h => by simp [fiberutils_Trim.j1] at h, fun _ _ _ _ r h => by simp [fiberutils_Trim.l1] at h, fun _ _ _ _ r h => by simp [fiberutils_Trim.l0] at h⟩
  | k + 1 => by
    obtain ⟨ih0, ih1, ih2⟩ := fiberutils_Trim.mono_l k
    refine ⟨?_, ?_, ?_⟩
    · intro y0 y1 y2 y3
      unfold fiberutils_Trim.j1
      repeat' first
      | (with_reducible exact ih0 _ _ _ _)
      | (with_reducible exact ih1 _ _ _ _)
      | (with_reducible exact ih2 _ _ _ _)
      | (with_reducible exact LeO.refl _)
      | (with_reducible exact LeO.none _)
      | (with_reducible refine LeO.ite ?_ ?_)
      | (with_reducible refine LeO.bind ?_ (fun _ => ?_))
      | exact ih0 _ _ _ _
      | exact ih1 _ _ _ _
      | exact ih2 _ _ _ _
      | exact LeO.none _
      | refine LeO.ite ?_ ?_
      | refine LeO.bind ?_ (fun _ => ?_)
    · intro y0 y1 y2 y3
      unfold fiberutils_Trim.l1
      repeat' first
      | (with_reducible exact ih0 _ _ _ _)
      | (with_reducible exact ih1 _ _ _ _)
      | (with_reducible exact ih2 _ _ _ _)
      | (with_reducible exact LeO.refl _)
      | (with_reducible exact LeO.none _)
      | (with_reducible refine LeO.ite ?_ ?_)
      | (with_reducible refine LeO.bind ?_ (fun _ => ?_))
      | exact ih0 _ _ _ _
      | exact ih1 _ _ _ _
      | exact ih2 _ _ _ _
      | exact LeO.none _
      | refine LeO.ite ?_ ?_
      | refine LeO.bind ?_ (fun _ => ?_)
    · intro y0 y1 y2 y3
      unfold fiberutils_Trim.l0
      repeat' first
      | (with_reducible exact ih0 _ _ _ _)
      | (with_reducible exact ih1 _ _ _ _)
      | (with_reducible exact ih2 _ _ _ _)
      | (with_reducible exact LeO.refl _)
      | (with_reducible exact LeO.none _)
      | (with_reducible refine LeO.ite ?_ ?_)
      | (with_reducible refine LeO.bind ?_ (fun _ => ?_))
      | exact ih0 _ _ _ _
      | exact ih1 _ _ _ _
      | exact ih2 _ _ _ _
      | exact LeO.none _
      | refine LeO.ite ?_ ?_
      | refine LeO.bind ?_ (fun _ => ?_)
theorem fiberutils_Trim.mono : ∀ a0 a1 k, LeO (fiberutils_Trim.f k a0 a1) (fiberutils_Trim.f (k + 1) a0 a1) := by
  intro a0 a1 k
  obtain ⟨ih0, ih1, ih2⟩ := fiberutils_Trim.mono_l k
  unfold fiberutils_Trim.f
  repeat' first
      | (with_reducible exact ih0 _ _ _ _)
      | (with_reducible exact ih1 _ _ _ _)
      | (with_reducible exact ih2 _ _ _ _)
      | (with_reducible exact LeO.refl _)
      | (with_reducible exact LeO.none _)
      | (with_reducible refine LeO.ite ?_ ?_)
      | (with_reducible refine LeO.bind ?_ (fun _ => ?_))
      | exact ih0 _ _ _ _
      | exact ih1 _ _ _ _
      | exact ih2 _ _ _ _
      | exact LeO.none _
      | refine LeO.ite ?_ ?_
      | refine LeO.bind ?_ (fun _ => ?_)
set_option maxHeartbeats 8000000 in
set_option maxRecDepth 100000 in
theorem fiberutils_Trim.calls (k : Nat) (a0 : ByteArray) (a1 : Int) (r : ByteArray) (w : World) (h : fiberutils_Trim.f k a0 a1 = some r) :
    Calls Try.prog 54 #[.string a0, .int .u8 a1] w fun e w' => e = .returned (.string r) ∧ Drawn0 w w' := by
  have H : (fiberutils_Trim.l0 k a0 a1 0 (wrap64 ((a0.size : Int) - 1))) = some r := h
  clear h
  have HC3 := Aside0.mk H
  clear H
  go_enter Try.func54, Try.ntmps54
  go_upto_block 0 with (fail)
  go_cut [5] (fun v5 wc => ∃ (kq : Nat) (x5_2 : Int), v5 = .int .i64 x5_2 ∧ Aside0 (fiberutils_Trim.j1 kq a0 a1 x5_2 (wrap64 ((a0.size : Int) - 1)) = some r) ∧ Aside0 (kq ≤ k) ∧ Drawn0 w wc)
  case first =>
    have H := HC3.out
    clear HC3
    have H' := Aside0.mk H
    clear H
    go_wp2
    go_loopg [5] k (fun kq v5 w' => ∃ (x5_1 : Int), v5 = .int .i64 x5_1 ∧ Aside0 (fiberutils_Trim.l0 kq a0 a1 x5_1 (wrap64 ((a0.size : Int) - 1)) = some r) ∧ Aside0 (kq ≤ k) ∧ Drawn0 w w')
    case atStart => exact ⟨(0), (by first | rfl | (simp; done) | (simp [*]; done) | (simp [Go.Proofs.YtipmmjbjgbfgjaaX.isEmpty_ne]; done)), H', ⟨Nat.le_refl _⟩, by repeat (first | exact Drawn0.refl _ | apply Drawn0.step)⟩
    case round =>
      clear H'
      try clear p2
      obtain ⟨x5_1, rfl, HA, HK1, ⟨m1, rfl⟩⟩ := hrel
      cases gk with
      | zero => exact absurd HA.out (by simp [fiberutils_Trim.l0])
      | succ k1 =>
        have H := HA.out
        clear HA
        simp only [fiberutils_Trim.l0] at H
        by_cases c4 : x5_1 ≤ (wrap64 ((a0.size : Int) - 1))
        · rw [if_pos c4] at H
          have c4b0 : decide (x5_1 ≤ (wrap64 ((a0.size : Int) - 1))) = true := decide_eq_true c4
          clear c4
          (first | rw [c4b0] | (simp only [i64_w, i32_w]; rw [c4b0]) | (rw [Go.Proofs.YtipmmjbjgbfgjaaX.isEmpty_eq]; rw [c4b0]) | skip)
          by_cases c5 : 0 ≤ x5_1
          · rw [if_pos c5] at H
            have c5b0 : decide (0 ≤ x5_1) = true := decide_eq_true c5
            clear c5
            by_cases c6 : x5_1 < (a0.size : Int)
            · rw [if_pos c6] at H
              have c6b0 : decide (x5_1 < (a0.size : Int)) = true := decide_eq_true c6
              clear c6
              by_cases c8 : (bt a0 x5_1) = a1
              · rw [if_pos c8] at H
                have c8b0 : ((bt a0 x5_1) == a1) = true := beq_iff_eq.mpr c8
                have c8b1 : ((bt a0 x5_1) != a1) = false := bne_eq_false_iff_eq.mpr c8
                clear c8
                have H' := Aside0.mk H
                clear H
                have p7 : 0 ≤ (x5_1 : Int) := of_decide_eq_true (by first | (with_reducible assumption) | assumption)
                have q7 : x5_1 < (a0.size : Int) := of_decide_eq_true (by first | (with_reducible assumption) | assumption)
                have hx7 := bt_at a0 x5_1
                replace p7 := eq_true p7
                replace q7 := eq_true q7
                go_wp2
                go_roundg k1
                case measure => have := HK1.out; omega
                case rel => exact ⟨(wrap64 (x5_1 + 1)), (by first | rfl | (simp; done) | (simp [*]; done) | (simp [Go.Proofs.YtipmmjbjgbfgjaaX.isEmpty_ne]; done)), H', ⟨by have := HK1.out; omega⟩, by repeat (first | exact Drawn0.refl _ | apply Drawn0.step)⟩
              · rw [if_neg c8] at H
                have c8b0 : ((bt a0 x5_1) == a1) = false := beq_eq_false_iff_ne.mpr c8
                have c8b1 : ((bt a0 x5_1) != a1) = true := bne_iff_ne.mpr c8
                have H' := Aside0.mk H
                clear H
                have p7 : 0 ≤ (x5_1 : Int) := of_decide_eq_true (by first | (with_reducible assumption) | assumption)
                have q7 : x5_1 < (a0.size : Int) := of_decide_eq_true (by first | (with_reducible assumption) | assumption)
                have hx7 := bt_at a0 x5_1
                replace p7 := eq_true p7
                replace q7 := eq_true q7
                go_wp2
                go_meet
                case rel => exact ⟨_, (x5_1), (by first | rfl | (simp; done) | (simp [*]; done) | (simp [Go.Proofs.YtipmmjbjgbfgjaaX.isEmpty_ne]; done)), H', ⟨by have := HK1.out; first | omega | exact Nat.le_refl _⟩, by repeat (first | exact Drawn0.refl _ | apply Drawn0.step)⟩
            · rw [if_neg c6] at H
              exact absurd H (by simp)
          · rw [if_neg c5] at H
            exact absurd H (by simp)
        · rw [if_neg c4] at H
          have c4b0 : decide (x5_1 ≤ (wrap64 ((a0.size : Int) - 1))) = false := decide_eq_false c4
          clear c4
          (first | rw [c4b0] | (simp only [i64_w, i32_w]; rw [c4b0]) | (rw [Go.Proofs.YtipmmjbjgbfgjaaX.isEmpty_eq]; rw [c4b0]) | skip)
          have H' := Aside0.mk H
          clear H
          go_wp2
          go_meet
          case rel => exact ⟨_, (x5_1), (by first | rfl | (simp; done) | (simp [*]; done) | (simp [Go.Proofs.YtipmmjbjgbfgjaaX.isEmpty_ne]; done)), H', ⟨by have := HK1.out; first | omega | exact Nat.le_refl _⟩, by repeat (first | exact Drawn0.refl _ | apply Drawn0.step)⟩
  case rest =>
    clear HC3
    try clear p2
    try clear c4
    try clear c4b0
    try clear c5
    try clear c5b0
    try clear c6
    try clear c6b0
    try clear p6
    try clear p7
    try clear q7
    try clear hx7
    try clear c8
    try clear c8b0
    try clear c8b1
    try clear p2
    try clear p7
    try clear q7
    obtain ⟨kq, x5_2, rfl, HA, HJ2, ⟨mc2, rfl⟩⟩ := hcut
    cases kq with
    | zero => exact absurd HA.out (by simp [fiberutils_Trim.j1])
    | succ kj2 =>
      have H := HA.out
      clear HA
      simp only [fiberutils_Trim.j1] at H
      have H' := Aside0.mk H
      clear H
      go_wp2
      go_loopg [6] kj2 (fun kq v6 w' => ∃ (x6_2 : Int), v6 = .int .i64 x6_2 ∧ Aside0 (fiberutils_Trim.l1 kq a0 a1 x5_2 x6_2 = some r) ∧ Aside0 (kq ≤ kj2) ∧ Drawn0 w w')
      case atStart => exact ⟨((wrap64 ((a0.size : Int) - 1))), (by first | rfl | (simp; done) | (simp [*]; done) | (simp [Go.Proofs.YtipmmjbjgbfgjaaX.isEmpty_ne]; done)), H', ⟨Nat.le_refl _⟩, by repeat (first | exact Drawn0.refl _ | apply Drawn0.step)⟩
      case round =>
        clear H'
        try clear c2
        try clear p2
        try clear c4
        try clear c4b0
        try clear c5
        try clear c5b0
        try clear c6
        try clear c6b0
        try clear p6
        try clear p7
        try clear q7
        try clear hx7
        try clear c8
        try clear c8b0
        try clear c8b1
        try clear p2
        try clear p6
        try clear p7
        try clear q7
        obtain ⟨x6_2, rfl, HA, HK2, ⟨m2, rfl⟩⟩ := hrel
        cases gk with
        | zero => exact absurd HA.out (by simp [fiberutils_Trim.l1])
        | succ k2 =>
          have H := HA.out
          clear HA
          simp only [fiberutils_Trim.l1] at H
          by_cases c9 : x5_2 < x6_2
          · rw [if_pos c9] at H
            have c9b0 : decide (x5_2 < x6_2) = true := decide_eq_true c9
            clear c9
            by_cases c10 : 0 ≤ x6_2
            · rw [if_pos c10] at H
              have c10b0 : decide (0 ≤ x6_2) = true := decide_eq_true c10
              clear c10
              by_cases c11 : x6_2 < (a0.size : Int)
              · rw [if_pos c11] at H
                have c11b0 : decide (x6_2 < (a0.size : Int)) = true := decide_eq_true c11
                clear c11
                by_cases c13 : (bt a0 x6_2) = a1
                · rw [if_pos c13] at H
                  have c13b0 : ((bt a0 x6_2) == a1) = true := beq_iff_eq.mpr c13
                  have c13b1 : ((bt a0 x6_2) != a1) = false := bne_eq_false_iff_eq.mpr c13
                  clear c13
                  have H' := Aside0.mk H
                  clear H
                  have p12 : 0 ≤ (x6_2 : Int) := of_decide_eq_true (by first | (with_reducible assumption) | assumption)
                  have q12 : x6_2 < (a0.size : Int) := of_decide_eq_true (by first | (with_reducible assumption) | assumption)
                  have hx12 := bt_at a0 x6_2
                  replace p12 := eq_true p12
                  replace q12 := eq_true q12
                  go_wp2
                  go_roundg k2
                  case measure => have := HJ2.out; have := HK2.out; omega
                  case rel => exact ⟨(wrap64 (x6_2 - 1)), (by first | rfl | (simp; done) | (simp [*]; done) | (simp [Go.Proofs.YtipmmjbjgbfgjaaX.isEmpty_ne]; done)), H', ⟨by have := HJ2.out; have := HK2.out; omega⟩, by repeat (first | exact Drawn0.refl _ | apply Drawn0.step)⟩
                · rw [if_neg c13] at H
                  have c13b0 : ((bt a0 x6_2) == a1) = false := beq_eq_false_iff_ne.mpr c13
                  have c13b1 : ((bt a0 x6_2) != a1) = true := bne_iff_ne.mpr c13
                  by_cases c14 : 0 ≤ x5_2
                  · rw [if_pos c14] at H
                    have c14b0 := eq_true c14
                    have c14b1 : decide (0 ≤ x5_2) = true := decide_eq_true c14
                    clear c14
                    by_cases c15 : x5_2 ≤ (wrap64 (x6_2 + 1))
                    · rw [if_pos c15] at H
                      have c15b0 := eq_true c15
                      have c15b1 : decide (x5_2 ≤ (wrap64 (x6_2 + 1))) = true := decide_eq_true c15
                      by_cases c16 : (wrap64 (x6_2 + 1)) ≤ (a0.size : Int)
                      · rw [if_pos c16] at H
                        have c16b0 := eq_true c16
                        have c16b1 : decide ((wrap64 (x6_2 + 1)) ≤ (a0.size : Int)) = true := decide_eq_true c16
                        obtain rfl := Option.some.inj H
                        have p12 : 0 ≤ (x6_2 : Int) := of_decide_eq_true (by first | (with_reducible assumption) | assumption)
                        have q12 : x6_2 < (a0.size : Int) := of_decide_eq_true (by first | (with_reducible assumption) | assumption)
                        have hx12 := bt_at a0 x6_2
                        replace p12 := eq_true p12
                        replace q12 := eq_true q12
                        go_wp2
                        go_ret
                        exact ⟨by first | rfl | (simp; done) | (simp [*]; done) | (simp [Go.Proofs.YtipmmjbjgbfgjaaX.isEmpty_ne]; done), by repeat (first | exact Drawn0.refl _ | apply Drawn0.step)⟩
                      · rw [if_neg c16] at H
                        exact absurd H (by simp)
                    · rw [if_neg c15] at H
                      exact absurd H (by simp)
                  · rw [if_neg c14] at H
                    exact absurd H (by simp)
              · rw [if_neg c11] at H
                exact absurd H (by simp)
            · rw [if_neg c10] at H
              exact absurd H (by simp)
          · rw [if_neg c9] at H
            have c9b0 : decide (x5_2 < x6_2) = false := decide_eq_false c9
            clear c9
            by_cases c17 : 0 ≤ x5_2
            · rw [if_pos c17] at H
              have c17b0 := eq_true c17
              have c17b1 : decide (0 ≤ x5_2) = true := decide_eq_true c17
              clear c17
              by_cases c18 : x5_2 ≤ (wrap64 (x6_2 + 1))
              · rw [if_pos c18] at H
                have c18b0 := eq_true c18
                have c18b1 : decide (x5_2 ≤ (wrap64 (x6_2 + 1))) = true := decide_eq_true c18
                by_cases c19 : (wrap64 (x6_2 + 1)) ≤ (a0.size : Int)
                · rw [if_pos c19] at H
                  have c19b0 := eq_true c19
                  have c19b1 : decide ((wrap64 (x6_2 + 1)) ≤ (a0.size : Int)) = true := decide_eq_true c19
                  obtain rfl := Option.some.inj H
                  go_wp2
                  go_ret
                  exact ⟨by first | rfl | (simp; done) | (simp [*]; done) | (simp [Go.Proofs.YtipmmjbjgbfgjaaX.isEmpty_ne]; done), by repeat (first | exact Drawn0.refl _ | apply Drawn0.step)⟩
                · rw [if_neg c19] at H
                  exact absurd H (by simp)
              · rw [if_neg c18] at H
                exact absurd H (by simp)
            · rw [if_neg c17] at H
              exact absurd H (by simp)

end Go.Proofs.Ytipmmjbjgbfgjaa.Q

-- Written by a program of this session out of the translation, with the kit's printer. Not trusted: Lean checks it.
namespace Go.Proofs.Ytipmmjbjgbfgjaa.Q
open Go.RowKit Go.Proofs.YtipmmjbjgbfgjaaW.PrintWords Go.Proofs.YtipmmjbjgbfgjaaW.PrintLast Go.Proofs.YtipmmjbjgbfgjaaW.PrintMore
attribute [local go_sem] max2_int min2_int max_two min_two max_three min_three max_four min_four   -- for this text's walks alone
set_option linter.unusedVariables false
set_option linter.unusedSimpArgs false

/-! ### impl_Trim: function 12 -/
def impl_Trim.f (k : Nat) (a0 : ByteArray) (a1 : Int) : Option (ByteArray) := (fiberutils_Trim.f k a0 a1).bind fun t101 => (some t101)
theorem impl_Trim.mono : ∀ a0 a1 k, LeO (impl_Trim.f k a0 a1) (impl_Trim.f (k + 1) a0 a1) := by
  intro a0 a1 k
  unfold impl_Trim.f
  repeat' first
      | (with_reducible exact fiberutils_Trim.mono _ _ _)
      | (with_reducible exact LeO.refl _)
      | (with_reducible exact LeO.none _)
      | (with_reducible refine LeO.ite ?_ ?_)
      | (with_reducible refine LeO.bind ?_ (fun _ => ?_))
      | exact fiberutils_Trim.mono _ _ _
      | exact LeO.none _
      | refine LeO.ite ?_ ?_
      | refine LeO.bind ?_ (fun _ => ?_)
set_option maxHeartbeats 8000000 in
set_option maxRecDepth 100000 in
theorem impl_Trim.calls (k : Nat) (a0 : ByteArray) (a1 : Int) (r : ByteArray) (w : World) (h : impl_Trim.f k a0 a1 = some r) :
    Calls Try.prog 12 #[.string a0, .int .u8 a1] w fun e w' => e = .returned (.string r) ∧ Drawn0 w w' := by
  have H : ((fiberutils_Trim.f k a0 a1).bind fun t101 => (some t101)) = some r := h
  clear h
  replace H := Option.bind_eq_some_iff.mp H
  obtain ⟨t101, A30, H⟩ := H
  replace H : (some t101) = some r := H
  have A3 := Aside0.mk A30
  clear A30
  obtain rfl := Option.some.inj H
  go_enter Try.func12, Try.ntmps12
  go_wp2_with (first | ((with_reducible refine gate_callee (f := 54) rfl ?_); refine goesL_ (some 7) rfl rfl Try.func54 (by kernel_rfl) rfl #[.string a0, .int .u8 a1] rfl (by (try simp only [List.map_toArray, List.map_cons, List.map_nil]); first | done | rfl | (simp only [List.length_drop, List.length_take]; rfl)) ?_; (with_reducible refine (fiberutils_Trim.calls k a0 a1 t101 _ A3.out).mono ?_); rintro e w' ⟨rfl, ⟨nd, rfl⟩⟩; refine ⟨_, rfl, ?_⟩))
  go_ret
  exact ⟨by first | rfl | (simp; done) | (simp [*]; done) | (simp [Go.Proofs.YtipmmjbjgbfgjaaX.isEmpty_ne]; done), by repeat (first | exact Drawn0.refl _ | apply Drawn0.step)⟩

/-! ### laws_short: function 13 -/
def laws_short.l0 : Nat → List ByteArray → List ByteArray → Int → Int → Option (Bool)
  | 0, _, _, _, _ => none
  | k + 1, x0, x5, x6, x7 => if x7 < x6 then (if 0 ≤ x7 then (if x7 < (x5.length : Int) then (if ((rdOf ByteArray.empty x5 x7).size : Int) > 2000 then (some false) else (laws_short.l0 k x0 x5 x6 (wrap64 (x7 + 1)))) else (none)) else (none)) else (some (decide ((x0.length : Int) ≤ 60)))
def laws_short.f (k : Nat) (l0 : List ByteArray) : Option (Bool) := laws_short.l0 k l0 l0 (l0.length : Int) 0
theorem laws_short.mono_l : ∀ k, (∀ y0 y1 y2 y3, LeO (laws_short.l0 k y0 y1 y2 y3) (laws_short.l0 (k + 1) y0 y1 y2 y3))
  | 0 => fun _ _ _ _ r h => by simp [laws_short.l0] at h
  | k + 1 => by
    have ih0 := laws_short.mono_l k
    · intro y0 y1 y2 y3
      unfold laws_short.l0
      repeat' first
      | (with_reducible exact ih0 _ _ _ _)
      | (with_reducible exact LeO.refl _)
      | (with_reducible exact LeO.none _)
      | (with_reducible refine LeO.ite ?_ ?_)
      | (with_reducible refine LeO.bind ?_ (fun _ => ?_))
      | exact ih0 _ _ _ _
      | exact LeO.none _
      | refine LeO.ite ?_ ?_
      | refine LeO.bind ?_ (fun _ => ?_)
theorem laws_short.mono : ∀ a0 k, LeO (laws_short.f k a0) (laws_short.f (k + 1) a0) := by
  intro a0 k
  have ih0 := laws_short.mono_l k
  unfold laws_short.f
  repeat' first
      | (with_reducible exact ih0 _ _ _ _)
      | (with_reducible exact LeO.refl _)
      | (with_reducible exact LeO.none _)
      | (with_reducible refine LeO.ite ?_ ?_)
      | (with_reducible refine LeO.bind ?_ (fun _ => ?_))
      | exact ih0 _ _ _ _
      | exact LeO.none _
      | refine LeO.ite ?_ ?_
      | refine LeO.bind ?_ (fun _ => ?_)
set_option maxHeartbeats 8000000 in
set_option maxRecDepth 100000 in
theorem laws_short.calls (k : Nat) (A0 : Option Addr) (c0 : Nat) (l0 : List ByteArray) (r : Bool) (w : World) (hr0 : Kd.C Kd.string w A0 l0.length l0) (hc0 : l0.length ≤ c0) (h : laws_short.f k l0 = some r) :
    Calls Try.prog 13 #[.slice A0 l0.length c0] w fun e w' => e = .returned (.bool r) ∧ Drawn0 w w' := by
  have HR0 := Aside0.mk hr0
  have HC0 := Aside0.mk hc0
  clear hr0 hc0
  have H : (laws_short.l0 k l0 l0 (l0.length : Int) 0) = some r := h
  clear h
  have H' := Aside0.mk H
  clear H
  go_enter Try.func13, Try.ntmps13
  go_wp2
  go_loopg [7] k (fun kq v7 w' => ∃ (x7_1 : Int), v7 = .int .i64 x7_1 ∧ Aside0 (laws_short.l0 kq l0 l0 (l0.length : Int) x7_1 = some r) ∧ Aside0 (kq ≤ k) ∧ Drawn0 w w')
  case atStart => exact ⟨(0), (by first | rfl | (simp; done) | (simp [*]; done) | (simp [Go.Proofs.YtipmmjbjgbfgjaaX.isEmpty_ne]; done)), H', ⟨Nat.le_refl _⟩, by repeat (first | exact Drawn0.refl _ | apply Drawn0.step)⟩
  case round =>
    clear H'
    try clear c1
    obtain ⟨x7_1, rfl, HA, HK1, ⟨m1, rfl⟩⟩ := hrel
    cases gk with
    | zero => exact absurd HA.out (by simp [laws_short.l0])
    | succ k1 =>
      have H := HA.out
      clear HA
      simp only [laws_short.l0] at H
      by_cases c2 : x7_1 < (l0.length : Int)
      · rw [if_pos c2] at H
        have c2b0 : decide (x7_1 < (l0.length : Int)) = true := decide_eq_true c2
        clear c2
        by_cases c3 : 0 ≤ x7_1
        · rw [if_pos c3] at H
          have c3b0 : decide (0 ≤ x7_1) = true := decide_eq_true c3
          clear c3
          by_cases c4 : x7_1 < (l0.length : Int)
          · rw [if_pos c4] at H
            have c4b0 : decide (x7_1 < (l0.length : Int)) = true := decide_eq_true c4
            clear c4
            by_cases c5 : ((rdOf ByteArray.empty l0 x7_1).size : Int) > 2000
            · rw [if_pos c5] at H
              have c5b0 : decide (2000 < ((rdOf ByteArray.empty l0 x7_1).size : Int)) = true := decide_eq_true c5
              have c5b1 : decide (2000 < (rdOf ByteArray.empty l0 x7_1).size) = true := decide_eq_true (by omega)
              clear c5
              obtain rfl := Option.some.inj H
              have p102 : 0 ≤ (x7_1 : Int) := of_decide_eq_true (by first | (with_reducible assumption) | assumption)
              have q102 : x7_1 < (l0.length : Int) := of_decide_eq_true (by first | (with_reducible assumption) | assumption)
              obtain ⟨ad102, e102, hx102_0⟩ := Kd.at_string HR0.out x7_1 p102 q102
              cases e102
              replace p102 := eq_true p102
              replace q102 := eq_true q102
              go_wp2
              go_ret
              exact ⟨by first | rfl | (simp; done) | (simp [*]; done) | (simp [Go.Proofs.YtipmmjbjgbfgjaaX.isEmpty_ne]; done), by repeat (first | exact Drawn0.refl _ | apply Drawn0.step)⟩
            · rw [if_neg c5] at H
              have c5b0 : decide (2000 < ((rdOf ByteArray.empty l0 x7_1).size : Int)) = false := decide_eq_false c5
              have c5b1 : decide (2000 < (rdOf ByteArray.empty l0 x7_1).size) = false := decide_eq_false (by omega)
              clear c5
              have H' := Aside0.mk H
              clear H
              have p102 : 0 ≤ (x7_1 : Int) := of_decide_eq_true (by first | (with_reducible assumption) | assumption)
              have q102 : x7_1 < (l0.length : Int) := of_decide_eq_true (by first | (with_reducible assumption) | assumption)
              obtain ⟨ad102, e102, hx102_0⟩ := Kd.at_string HR0.out x7_1 p102 q102
              cases e102
              replace p102 := eq_true p102
              replace q102 := eq_true q102
              go_wp2
              go_roundg k1
              case measure => have := HK1.out; omega
              case rel => exact ⟨(wrap64 (x7_1 + 1)), (by first | rfl | (simp; done) | (simp [*]; done) | (simp [Go.Proofs.YtipmmjbjgbfgjaaX.isEmpty_ne]; done)), H', ⟨by have := HK1.out; omega⟩, by repeat (first | exact Drawn0.refl _ | apply Drawn0.step)⟩
          · rw [if_neg c4] at H
            exact absurd H (by simp)
        · rw [if_neg c3] at H
          exact absurd H (by simp)
      · rw [if_neg c2] at H
        have c2b0 : decide (x7_1 < (l0.length : Int)) = false := decide_eq_false c2
        clear c2
        obtain rfl := Option.some.inj H
        go_wp2
        go_ret
        exact ⟨by first | rfl | (simp; done) | (simp [*]; done) | (simp [Go.Proofs.YtipmmjbjgbfgjaaX.isEmpty_ne]; done), by repeat (first | exact Drawn0.refl _ | apply Drawn0.step)⟩

/-! ### fiberutils_TrimLeft: function 55 -/
def fiberutils_TrimLeft.l0 : Nat → ByteArray → Int → Int → Int → Option (ByteArray)
  | 0, _, _, _, _ => none
  | k + 1, x0, x1, x5, x6 => if x6 < x5 then (if 0 ≤ x6 then (if x6 < (x0.size : Int) then (if (bt x0 x6) = x1 then (fiberutils_TrimLeft.l0 k x0 x1 x5 (wrap64 (x6 + 1))) else (if x6 ≤ (x0.size : Int) then (some (x0.extract (x6 : Int).toNat x0.size)) else (none))) else (none)) else (none)) else (if 0 ≤ x6 then (if x6 ≤ (x0.size : Int) then (some (x0.extract (x6 : Int).toNat x0.size)) else (none)) else (none))
def fiberutils_TrimLeft.f (k : Nat) (a0 : ByteArray) (a1 : Int) : Option (ByteArray) := fiberutils_TrimLeft.l0 k a0 a1 (a0.size : Int) 0
theorem fiberutils_TrimLeft.mono_l : ∀ k, (∀ y0 y1 y2 y3, LeO (fiberutils_TrimLeft.l0 k y0 y1 y2 y3) (fiberutils_TrimLeft.l0 (k + 1) y0 y1 y2 y3))
  | 0 => fun _ _ _ _ r h => by simp [fiberutils_TrimLeft.l0] at h
  | k + 1 => by
    have ih0 := fiberutils_TrimLeft.mono_l k
    · intro y0 y1 y2 y3
      unfold fiberutils_TrimLeft.l0
      repeat' first
      | (with_reducible exact ih0 _ _ _ _)
      | (with_reducible exact LeO.refl _)
      | (with_reducible exact LeO.none _)
      | (with_reducible refine LeO.ite ?_ ?_)
      | (with_reducible refine LeO.bind ?_ (fun _ => ?_))
      | exact ih0 _ _ _ _
      | exact LeO.none _
      | refine LeO.ite ?_ ?_
      | refine LeO.bind ?_ (fun _ => ?_)
theorem fiberutils_TrimLeft.mono : ∀ a0 a1 k, LeO (fiberutils_TrimLeft.f k a0 a1) (fiberutils_TrimLeft.f (k + 1) a0 a1) := by
  intro a0 a1 k
  have ih0 := fiberutils_TrimLeft.mono_l k
  unfold fiberutils_TrimLeft.f
  repeat' first
      | (with_reducible exact ih0 _ _ _ _)
      | (with_reducible exact LeO.refl _)
      | (with_reducible exact LeO.none _)
      | (with_reducible refine LeO.ite ?_ ?_)
      | (with_reducible refine LeO.bind ?_ (fun _ => ?_))
      | exact ih0 _ _ _ _
      | exact LeO.none _
      | refine LeO.ite ?_ ?_
      | refine LeO.bind ?_ (fun _ => ?_)
set_option maxHeartbeats 8000000 in
set_option maxRecDepth 100000 in
theorem fiberutils_TrimLeft.calls (k : Nat) (a0 : ByteArray) (a1 : Int) (r : ByteArray) (w : World) (h : fiberutils_TrimLeft.f k a0 a1 = some r) :
    Calls Try.prog 55 #[.string a0, .int .u8 a1] w fun e w' => e = .returned (.string r) ∧ Drawn0 w w' := by
  have H : (fiberutils_TrimLeft.l0 k a0 a1 (a0.size : Int) 0) = some r := h
  clear h
  have H' := Aside0.mk H
  clear H
  go_enter Try.func55, Try.ntmps55
  go_wp2
  go_loopg [6] k (fun kq v6 w' => ∃ (x6_1 : Int), v6 = .int .i64 x6_1 ∧ Aside0 (fiberutils_TrimLeft.l0 kq a0 a1 (a0.size : Int) x6_1 = some r) ∧ Aside0 (kq ≤ k) ∧ Drawn0 w w')
  case atStart => exact ⟨(0), (by first | rfl | (simp; done) | (simp [*]; done) | (simp [Go.Proofs.YtipmmjbjgbfgjaaX.isEmpty_ne]; done)), H', ⟨Nat.le_refl _⟩, by repeat (first | exact Drawn0.refl _ | apply Drawn0.step)⟩
  case round =>
    clear H'
    try clear p2
    obtain ⟨x6_1, rfl, HA, HK1, ⟨m1, rfl⟩⟩ := hrel
    cases gk with
    | zero => exact absurd HA.out (by simp [fiberutils_TrimLeft.l0])
    | succ k1 =>
      have H := HA.out
      clear HA
      simp only [fiberutils_TrimLeft.l0] at H
      by_cases c3 : x6_1 < (a0.size : Int)
      · rw [if_pos c3] at H
        have c3b0 : decide (x6_1 < (a0.size : Int)) = true := decide_eq_true c3
        clear c3
        by_cases c4 : 0 ≤ x6_1
        · rw [if_pos c4] at H
          have c4b0 : decide (0 ≤ x6_1) = true := decide_eq_true c4
          clear c4
          by_cases c5 : x6_1 < (a0.size : Int)
          · rw [if_pos c5] at H
            have c5b0 : decide (x6_1 < (a0.size : Int)) = true := decide_eq_true c5
            clear c5
            by_cases c7 : (bt a0 x6_1) = a1
            · rw [if_pos c7] at H
              have c7b0 : ((bt a0 x6_1) == a1) = true := beq_iff_eq.mpr c7
              have c7b1 : ((bt a0 x6_1) != a1) = false := bne_eq_false_iff_eq.mpr c7
              clear c7
              have H' := Aside0.mk H
              clear H
              have p6 : 0 ≤ (x6_1 : Int) := of_decide_eq_true (by first | (with_reducible assumption) | assumption)
              have q6 : x6_1 < (a0.size : Int) := of_decide_eq_true (by first | (with_reducible assumption) | assumption)
              have hx6 := bt_at a0 x6_1
              replace p6 := eq_true p6
              replace q6 := eq_true q6
              go_wp2
              go_roundg k1
              case measure => have := HK1.out; omega
              case rel => exact ⟨(wrap64 (x6_1 + 1)), (by first | rfl | (simp; done) | (simp [*]; done) | (simp [Go.Proofs.YtipmmjbjgbfgjaaX.isEmpty_ne]; done)), H', ⟨by have := HK1.out; omega⟩, by repeat (first | exact Drawn0.refl _ | apply Drawn0.step)⟩
            · rw [if_neg c7] at H
              have c7b0 : ((bt a0 x6_1) == a1) = false := beq_eq_false_iff_ne.mpr c7
              have c7b1 : ((bt a0 x6_1) != a1) = true := bne_iff_ne.mpr c7
              have c8b0 := eq_true (of_decide_eq_true (by first | (with_reducible assumption) | assumption) : 0 ≤ x6_1)
              by_cases c9 : x6_1 ≤ (a0.size : Int)
              · rw [if_pos c9] at H
                have c9b0 := eq_true c9
                have c9b1 : decide (x6_1 ≤ (a0.size : Int)) = true := decide_eq_true c9
                clear c9
                obtain rfl := Option.some.inj H
                have p6 : 0 ≤ (x6_1 : Int) := of_decide_eq_true (by first | (with_reducible assumption) | assumption)
                have q6 : x6_1 < (a0.size : Int) := of_decide_eq_true (by first | (with_reducible assumption) | assumption)
                have hx6 := bt_at a0 x6_1
                replace p6 := eq_true p6
                replace q6 := eq_true q6
                go_wp2
                go_ret
                exact ⟨by first | rfl | (simp; done) | (simp [*]; done) | (simp [Go.Proofs.YtipmmjbjgbfgjaaX.isEmpty_ne]; done), by repeat (first | exact Drawn0.refl _ | apply Drawn0.step)⟩
              · rw [if_neg c9] at H
                exact absurd H (by simp)
          · rw [if_neg c5] at H
            exact absurd H (by simp)
        · rw [if_neg c4] at H
          exact absurd H (by simp)
      · rw [if_neg c3] at H
        have c3b0 : decide (x6_1 < (a0.size : Int)) = false := decide_eq_false c3
        clear c3
        by_cases c10 : 0 ≤ x6_1
        · rw [if_pos c10] at H
          have c10b0 := eq_true c10
          have c10b1 : decide (0 ≤ x6_1) = true := decide_eq_true c10
          clear c10
          by_cases c11 : x6_1 ≤ (a0.size : Int)
          · rw [if_pos c11] at H
            have c11b0 := eq_true c11
            have c11b1 : decide (x6_1 ≤ (a0.size : Int)) = true := decide_eq_true c11
            clear c11
            obtain rfl := Option.some.inj H
            go_wp2
            go_ret
            exact ⟨by first | rfl | (simp; done) | (simp [*]; done) | (simp [Go.Proofs.YtipmmjbjgbfgjaaX.isEmpty_ne]; done), by repeat (first | exact Drawn0.refl _ | apply Drawn0.step)⟩
          · rw [if_neg c11] at H
            exact absurd H (by simp)
        · rw [if_neg c10] at H
          exact absurd H (by simp)

/-! ### impl_TrimLeft: function 14 -/
def impl_TrimLeft.f (k : Nat) (a0 : ByteArray) (a1 : Int) : Option (ByteArray) := (fiberutils_TrimLeft.f k a0 a1).bind fun t103 => (some t103)
theorem impl_TrimLeft.mono : ∀ a0 a1 k, LeO (impl_TrimLeft.f k a0 a1) (impl_TrimLeft.f (k + 1) a0 a1) := by
  intro a0 a1 k
  unfold impl_TrimLeft.f
  repeat' first
      | (with_reducible exact fiberutils_TrimLeft.mono _ _ _)
      | (with_reducible exact LeO.refl _)
      | (with_reducible exact LeO.none _)
      | (with_reducible refine LeO.ite ?_ ?_)
      | (with_reducible refine LeO.bind ?_ (fun _ => ?_))
      | exact fiberutils_TrimLeft.mono _ _ _
      | exact LeO.none _
      | refine LeO.ite ?_ ?_
      | refine LeO.bind ?_ (fun _ => ?_)
set_option maxHeartbeats 8000000 in
set_option maxRecDepth 100000 in
theorem impl_TrimLeft.calls (k : Nat) (a0 : ByteArray) (a1 : Int) (r : ByteArray) (w : World) (h : impl_TrimLeft.f k a0 a1 = some r) :
    Calls Try.prog 14 #[.string a0, .int .u8 a1] w fun e w' => e = .returned (.string r) ∧ Drawn0 w w' := by
  have H : ((fiberutils_TrimLeft.f k a0 a1).bind fun t103 => (some t103)) = some r := h
  clear h
  replace H := Option.bind_eq_some_iff.mp H
  obtain ⟨t103, A30, H⟩ := H
  replace H : (some t103) = some r := H
  have A3 := Aside0.mk A30
  clear A30
  obtain rfl := Option.some.inj H
  go_enter Try.func14, Try.ntmps14
  go_wp2_with (first | ((with_reducible refine gate_callee (f := 55) rfl ?_); refine goesL_ (some 7) rfl rfl Try.func55 (by kernel_rfl) rfl #[.string a0, .int .u8 a1] rfl (by (try simp only [List.map_toArray, List.map_cons, List.map_nil]); first | done | rfl | (simp only [List.length_drop, List.length_take]; rfl)) ?_; (with_reducible refine (fiberutils_TrimLeft.calls k a0 a1 t103 _ A3.out).mono ?_); rintro e w' ⟨rfl, ⟨nd, rfl⟩⟩; refine ⟨_, rfl, ?_⟩))
  go_ret
  exact ⟨by first | rfl | (simp; done) | (simp [*]; done) | (simp [Go.Proofs.YtipmmjbjgbfgjaaX.isEmpty_ne]; done), by repeat (first | exact Drawn0.refl _ | apply Drawn0.step)⟩

end Go.Proofs.Ytipmmjbjgbfgjaa.Q
