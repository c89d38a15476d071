-- Written by a program of this session out of the translation, with the kit's printer. Not trusted: Lean checks it.
import Derived.Test.YtjmcndbkmknemaaQ0
namespace Go.Proofs.Ytjmcndbkmknemaa.Q
open Go.RowKit Go.Proofs.YtjmcndbkmknemaaW.PrintWords Go.Proofs.YtjmcndbkmknemaaW.PrintLast Go.Proofs.YtjmcndbkmknemaaW.PrintMore
attribute [local go_sem] max2_int min2_int max_two min_two max_three min_three max_four min_four   -- for this text's walks alone
set_option linter.unusedVariables false
set_option linter.unusedSimpArgs false

/-! ### fiberutils_IsIPv4: function 52 -/
mutual
def fiberutils_IsIPv4.l0 : Nat → ByteArray → Int → Option (Bool)
  | 0, _, _ => none
  | k + 1, x0, x3 => if x3 < 4 then (if (x0.size : Int) = 0 then (some false) else (if x3 > 0 then (if 0 < (x0.size : Int) then (if (bt x0 0) = 46 then (if 1 ≤ (x0.size : Int) then (fiberutils_IsIPv4.j1 k (x0.extract 1 x0.size) x3) else (none)) else (some false)) else (none)) else (fiberutils_IsIPv4.j1 k x0 x3))) else (some ((x0.size : Int) == 0))
def fiberutils_IsIPv4.j1 : Nat → ByteArray → Int → Option (Bool)
  | 0, _, _ => none
  | k + 1, x0, x3 => fiberutils_IsIPv4.l1 k x0 x3 0 0
def fiberutils_IsIPv4.l1 : Nat → ByteArray → Int → Int → Int → Option (Bool)
  | 0, _, _, _, _ => none
  | k + 1, x0, x3, x4, x5 => if x5 < (x0.size : Int) then (if 0 ≤ x5 then (if 48 ≤ (bt x0 x5) then (fiberutils_IsIPv4.j3 k x0 x3 x4 x5 (decide ((bt x0 x5) ≤ 57))) else (fiberutils_IsIPv4.j3 k x0 x3 x4 x5 false)) else (none)) else (fiberutils_IsIPv4.j3 k x0 x3 x4 x5 false)
def fiberutils_IsIPv4.j3 : Nat → ByteArray → Int → Int → Int → Bool → Option (Bool)
  | 0, _, _, _, _, _ => none
  | k + 1, x0, x3, x4, x5, x35 => if x35 = true then (if 0 ≤ x5 then (if x5 < (x0.size : Int) then (if (wrap64 ((wrap64 (x4 * 10)) + (((bt x0 x5) - 48) % 256))) > 255 then (some false) else (fiberutils_IsIPv4.l1 k x0 x3 (wrap64 ((wrap64 (x4 * 10)) + (((bt x0 x5) - 48) % 256))) (wrap64 (x5 + 1)))) else (none)) else (none)) else (if x5 = 0 then (some false) else (if x5 > 1 then (if 0 < (x0.size : Int) then (if (bt x0 0) = 48 then (some false) else (if 0 ≤ x5 then (if x5 ≤ (x0.size : Int) then (fiberutils_IsIPv4.l0 k (x0.extract (x5 : Int).toNat x0.size) (wrap64 (x3 + 1))) else (none)) else (none))) else (none)) else (if 0 ≤ x5 then (if x5 ≤ (x0.size : Int) then (fiberutils_IsIPv4.l0 k (x0.extract (x5 : Int).toNat x0.size) (wrap64 (x3 + 1))) else (none)) else (none))))
end
def fiberutils_IsIPv4.f (k : Nat) (a0 : ByteArray) : Option (Bool) := fiberutils_IsIPv4.l0 k a0 0
theorem fiberutils_IsIPv4.mono_l : ∀ k, (∀ y0 y1, LeO (fiberutils_IsIPv4.l0 k y0 y1) (fiberutils_IsIPv4.l0 (k + 1) y0 y1)) ∧ (∀ y0 y1, LeO (fiberutils_IsIPv4.j1 k y0 y1) (fiberutils_IsIPv4.j1 (k + 1) y0 y1)) ∧ (∀ y0 y1 y2 y3, LeO (fiberutils_IsIPv4.l1 k y0 y1 y2 y3) (fiberutils_IsIPv4.l1 (k + 1) y0 y1 y2 y3)) ∧ (∀ y0 y1 y2 y3 y4, LeO (fiberutils_IsIPv4.j3 k y0 y1 y2 y3 y4) (fiberutils_IsIPv4.j3 (k + 1) y0 y1 y2 y3 y4))
  | 0 => ⟨fun _ _ r h => by simp [fiberutils_IsIPv4.l0] at h, fun _ _ r h => by simp [fiberutils_IsIPv4.j1] at h, fun _ _ _ _ r h => by simp [fiberutils_IsIPv4.l1] at h, fun _ _ _ _ _ r h => by simp [fiberutils_IsIPv4.j3] at h⟩
  | k + 1 => by
    obtain ⟨ih0, ih1, ih2, ih3⟩ := fiberutils_IsIPv4.mono_l k
    refine ⟨?_, ?_, ?_, ?_⟩
    · intro y0 y1
      unfold fiberutils_IsIPv4.l0
      repeat' first
      | (with_reducible exact ih0 _ _)
      | (with_reducible exact ih1 _ _)
      | (with_reducible exact ih2 _ _ _ _)
      | (with_reducible exact ih3 _ _ _ _ _)
      | (with_reducible exact LeO.refl _)
      | (with_reducible exact LeO.none _)
      | (with_reducible refine LeO.ite ?_ ?_)
      | (with_reducible refine LeO.bind ?_ (fun _ => ?_))
      | exact ih0 _ _
      | exact ih1 _ _
      | exact ih2 _ _ _ _
      | exact ih3 _ _ _ _ _
      | exact LeO.none _
      | refine LeO.ite ?_ ?_
      | refine LeO.bind ?_ (fun _ => ?_)
    · intro y0 y1
      unfold fiberutils_IsIPv4.j1
      repeat' first
      | (with_reducible exact ih0 _ _)
      | (with_reducible exact ih1 _ _)
      | (with_reducible exact ih2 _ _ _ _)
      | (with_reducible exact ih3 _ _ _ _ _)
      | (with_reducible exact LeO.refl _)
      | (with_reducible exact LeO.none _)
      | (with_reducible refine LeO.ite ?_ ?_)
      | (with_reducible refine LeO.bind ?_ (fun _ => ?_))
      | exact ih0 _ _
      | exact ih1 _ _
      | exact ih2 _ _ _ _
      | exact ih3 _ _ _ _ _
      | exact LeO.none _
      | refine LeO.ite ?_ ?_
      | refine LeO.bind ?_ (fun _ => ?_)
    · intro y0 y1 y2 y3
      unfold fiberutils_IsIPv4.l1
      repeat' first
      | (with_reducible exact ih0 _ _)
      | (with_reducible exact ih1 _ _)
      | (with_reducible exact ih2 _ _ _ _)
      | (with_reducible exact ih3 _ _ _ _ _)
      | (with_reducible exact LeO.refl _)
      | (with_reducible exact LeO.none _)
      | (with_reducible refine LeO.ite ?_ ?_)
      | (with_reducible refine LeO.bind ?_ (fun _ => ?_))
      | exact ih0 _ _
      | exact ih1 _ _
      | exact ih2 _ _ _ _
      | exact ih3 _ _ _ _ _
      | exact LeO.none _
      | refine LeO.ite ?_ ?_
      | refine LeO.bind ?_ (fun _ => ?_)
    · intro y0 y1 y2 y3 y4
      unfold fiberutils_IsIPv4.j3
      repeat' first
      | (with_reducible exact ih0 _ _)
      | (with_reducible exact ih1 _ _)
      | (with_reducible exact ih2 _ _ _ _)
      | (with_reducible exact ih3 _ _ _ _ _)
      | (with_reducible exact LeO.refl _)
      | (with_reducible exact LeO.none _)
      | (with_reducible refine LeO.ite ?_ ?_)
      | (with_reducible refine LeO.bind ?_ (fun _ => ?_))
      | exact ih0 _ _
      | exact ih1 _ _
      | exact ih2 _ _ _ _
      | exact ih3 _ _ _ _ _
      | exact LeO.none _
      | refine LeO.ite ?_ ?_
      | refine LeO.bind ?_ (fun _ => ?_)
theorem fiberutils_IsIPv4.mono : ∀ a0 k, LeO (fiberutils_IsIPv4.f k a0) (fiberutils_IsIPv4.f (k + 1) a0) := by
  intro a0 k
  obtain ⟨ih0, ih1, ih2, ih3⟩ := fiberutils_IsIPv4.mono_l k
  unfold fiberutils_IsIPv4.f
  repeat' first
      | (with_reducible exact ih0 _ _)
      | (with_reducible exact ih1 _ _)
      | (with_reducible exact ih2 _ _ _ _)
      | (with_reducible exact ih3 _ _ _ _ _)
      | (with_reducible exact LeO.refl _)
      | (with_reducible exact LeO.none _)
      | (with_reducible refine LeO.ite ?_ ?_)
      | (with_reducible refine LeO.bind ?_ (fun _ => ?_))
      | exact ih0 _ _
      | exact ih1 _ _
      | exact ih2 _ _ _ _
      | exact ih3 _ _ _ _ _
      | exact LeO.none _
      | refine LeO.ite ?_ ?_
      | refine LeO.bind ?_ (fun _ => ?_)
set_option maxHeartbeats 8000000 in
set_option maxRecDepth 100000 in
theorem fiberutils_IsIPv4.calls (k : Nat) (a0 : ByteArray) (r : Bool) (w : World) (h : fiberutils_IsIPv4.f k a0 = some r) :
    Calls Try.prog 52 #[.string a0] w fun e w' => e = .returned (.bool r) ∧ Drawn0 w w' := by
  have H : (fiberutils_IsIPv4.l0 k a0 0) = some r := h
  clear h
  have H' := Aside0.mk H
  clear H
  go_enter Try.func52, Try.ntmps52
  go_wp2
  go_loopg [0, 3] k (fun kq v0 v3 w' => ∃ (x0_1 : ByteArray) (x3_1 : Int), v0 = .string x0_1 ∧ v3 = .int .i64 x3_1 ∧ Aside0 (fiberutils_IsIPv4.l0 kq x0_1 x3_1 = some r) ∧ Aside0 (kq ≤ k) ∧ Drawn0 w w')
  case atStart => exact ⟨(a0), (0), (by first | rfl | (simp; done) | (simp [*]; done) | (simp [Go.Proofs.YtjmcndbkmknemaaX.isEmpty_ne]; done)), (by first | rfl | (simp; done) | (simp [*]; done) | (simp [Go.Proofs.YtjmcndbkmknemaaX.isEmpty_ne]; done)), H', ⟨Nat.le_refl _⟩, by repeat (first | exact Drawn0.refl _ | apply Drawn0.step)⟩
  case round =>
    clear H'
    obtain ⟨x0_1, x3_1, rfl, rfl, HA, HK1, ⟨m1, rfl⟩⟩ := hrel
    cases gk with
    | zero => exact absurd HA.out (by simp [fiberutils_IsIPv4.l0])
    | succ k1 =>
      have H := HA.out
      clear HA
      simp only [fiberutils_IsIPv4.l0] at H
      by_cases c2 : x3_1 < 4
      · rw [if_pos c2] at H
        have c2b0 : decide (x3_1 < 4) = true := decide_eq_true c2
        clear c2
        by_cases c3 : (x0_1.size : Int) = 0
        · rw [if_pos c3] at H
          have c3b0 : ((x0_1.size : Int) == 0) = true := beq_iff_eq.mpr c3
          have c3b1 : ((x0_1.size : Int) != 0) = false := bne_eq_false_iff_eq.mpr c3
          clear c3
          obtain rfl := Option.some.inj H
          go_wp2
          go_ret
          exact ⟨by first | rfl | (simp; done) | (simp [*]; done) | (simp [Go.Proofs.YtjmcndbkmknemaaX.isEmpty_ne]; done), by repeat (first | exact Drawn0.refl _ | apply Drawn0.step)⟩
        · rw [if_neg c3] at H
          have c3b0 : ((x0_1.size : Int) == 0) = false := beq_eq_false_iff_ne.mpr c3
          have c3b1 : ((x0_1.size : Int) != 0) = true := bne_iff_ne.mpr c3
          have HC4 := Aside0.mk H
          clear H
          go_upto_if 14 with (fail)
          go_cut [0] (fun v0 wc => ∃ (kq : Nat) (x0_3 : ByteArray), v0 = .string x0_3 ∧ Aside0 (fiberutils_IsIPv4.j1 kq x0_3 x3_1 = some r) ∧ Aside0 (kq ≤ k1) ∧ Drawn0 w wc)
          case first =>
            have H := HC4.out
            clear HC4
            by_cases c5 : x3_1 > 0
            · rw [if_pos c5] at H
              have c5b0 : decide (0 < x3_1) = true := decide_eq_true c5
              clear c5
              (first | rw [c5b0] | (simp only [i64_w, i32_w]; rw [c5b0]) | skip)
              by_cases c6 : 0 < (x0_1.size : Int)
              · rw [if_pos c6] at H
                have c6b0 : decide (0 < (x0_1.size : Int)) = true := decide_eq_true c6
                have c6b1 : decide (0 < x0_1.size) = true := decide_eq_true (by omega)
                clear c6
                by_cases c8 : (bt x0_1 0) = 46
                · rw [if_pos c8] at H
                  have c8b0 : ((bt x0_1 0) == 46) = true := beq_iff_eq.mpr c8
                  have c8b1 : ((bt x0_1 0) != 46) = false := bne_eq_false_iff_eq.mpr c8
                  clear c8
                  by_cases c9 : 1 ≤ (x0_1.size : Int)
                  · rw [if_pos c9] at H
                    have c9b0 := eq_true c9
                    have c9b1 : decide (1 ≤ (x0_1.size : Int)) = true := decide_eq_true c9
                    clear c9
                    have H' := Aside0.mk H
                    clear H
                    have p7 : 0 ≤ (0 : Int) := (by omega)
                    have q7 : 0 < x0_1.size := (by have : (0 : Int) < (x0_1.size : Int) := of_decide_eq_true (by first | (with_reducible assumption) | assumption); omega)
                    have hx7 : ∀ h : 0 < x0_1.size, ((x0_1[0]'h).toNat : Int) = bt x0_1 0 := bt_at x0_1 0
                    clear p7
                    have qi7 : (0 < (x0_1.size : Int)) = True := eq_true (of_decide_eq_true (by first | (with_reducible assumption) | assumption))
                    replace q7 := eq_true q7
                    go_wp2
                    go_meet
                    case rel => exact ⟨_, (x0_1.extract 1 x0_1.size), (by first | rfl | (simp; done) | (simp [*]; done) | (simp [Go.Proofs.YtjmcndbkmknemaaX.isEmpty_ne]; done)), H', ⟨by have := HK1.out; first | omega | exact Nat.le_refl _⟩, by repeat (first | exact Drawn0.refl _ | apply Drawn0.step)⟩
                  · rw [if_neg c9] at H
                    exact absurd H (by simp)
                · rw [if_neg c8] at H
                  have c8b0 : ((bt x0_1 0) == 46) = false := beq_eq_false_iff_ne.mpr c8
                  have c8b1 : ((bt x0_1 0) != 46) = true := bne_iff_ne.mpr c8
                  obtain rfl := Option.some.inj H
                  have p7 : 0 ≤ (0 : Int) := (by omega)
                  have q7 : 0 < x0_1.size := (by have : (0 : Int) < (x0_1.size : Int) := of_decide_eq_true (by first | (with_reducible assumption) | assumption); omega)
                  have hx7 : ∀ h : 0 < x0_1.size, ((x0_1[0]'h).toNat : Int) = bt x0_1 0 := bt_at x0_1 0
                  clear p7
                  have qi7 : (0 < (x0_1.size : Int)) = True := eq_true (of_decide_eq_true (by first | (with_reducible assumption) | assumption))
                  replace q7 := eq_true q7
                  go_wp2
                  go_ret
                  exact ⟨by first | rfl | (simp; done) | (simp [*]; done) | (simp [Go.Proofs.YtjmcndbkmknemaaX.isEmpty_ne]; done), by repeat (first | exact Drawn0.refl _ | apply Drawn0.step)⟩
              · rw [if_neg c6] at H
                exact absurd H (by simp)
            · rw [if_neg c5] at H
              have c5b0 : decide (0 < x3_1) = false := decide_eq_false c5
              clear c5
              (first | rw [c5b0] | (simp only [i64_w, i32_w]; rw [c5b0]) | skip)
              have H' := Aside0.mk H
              clear H
              go_wp2
              go_meet
              case rel => exact ⟨_, (x0_1), (by first | rfl | (simp; done) | (simp [*]; done) | (simp [Go.Proofs.YtjmcndbkmknemaaX.isEmpty_ne]; done)), H', ⟨by have := HK1.out; first | omega | exact Nat.le_refl _⟩, by repeat (first | exact Drawn0.refl _ | apply Drawn0.step)⟩
          case rest =>
            clear HC4
            try clear c2
            try clear c2b0
            try clear p2
            try clear c3
            try clear c3b0
            try clear c3b1
            try clear c5
            try clear c5b0
            try clear c6
            try clear c6b0
            try clear c6b1
            try clear p7
            try clear q7
            try clear hx7
            try clear qi7
            try clear c8
            try clear c8b0
            try clear c8b1
            try clear c9
            try clear c9b0
            try clear c9b1
            try clear p7
            try clear q7
            obtain ⟨kq, x0_3, rfl, HA, HJ3, ⟨mc3, rfl⟩⟩ := hcut
            cases kq with
            | zero => exact absurd HA.out (by simp [fiberutils_IsIPv4.j1])
            | succ kj3 =>
              have H := HA.out
              clear HA
              simp only [fiberutils_IsIPv4.j1] at H
              have H' := Aside0.mk H
              clear H
              go_wp2
              go_loopg [4, 5] kj3 (fun kq v4 v5 w' => ∃ (x4_3 : Int) (x5_3 : Int), v4 = .int .i64 x4_3 ∧ v5 = .int .i64 x5_3 ∧ Aside0 (fiberutils_IsIPv4.l1 kq x0_3 x3_1 x4_3 x5_3 = some r) ∧ Aside0 (kq ≤ kj3) ∧ Drawn0 w w')
              case atStart => exact ⟨(0), (0), (by first | rfl | (simp; done) | (simp [*]; done) | (simp [Go.Proofs.YtjmcndbkmknemaaX.isEmpty_ne]; done)), (by first | rfl | (simp; done) | (simp [*]; done) | (simp [Go.Proofs.YtjmcndbkmknemaaX.isEmpty_ne]; done)), H', ⟨Nat.le_refl _⟩, by repeat (first | exact Drawn0.refl _ | apply Drawn0.step)⟩
              case round =>
                clear H'
                try clear c2
                try clear c2b0
                try clear p2
                try clear c3
                try clear c3b0
                try clear c3b1
                try clear c5
                try clear c5b0
                try clear c6
                try clear c6b0
                try clear c6b1
                try clear p7
                try clear q7
                try clear hx7
                try clear qi7
                try clear c8
                try clear c8b0
                try clear c8b1
                try clear c9
                try clear c9b0
                try clear c9b1
                try clear p2
                try clear p7
                try clear q7
                obtain ⟨x4_3, x5_3, rfl, rfl, HA, HK3, ⟨m3, rfl⟩⟩ := hrel
                cases gk with
                | zero => exact absurd HA.out (by simp [fiberutils_IsIPv4.l1])
                | succ k3 =>
                  have H := HA.out
                  clear HA
                  simp only [fiberutils_IsIPv4.l1] at H
                  have HC10 := Aside0.mk H
                  clear H
                  go_upto_region 12 with (fail)
                  go_cut [35] (fun v35 wc => ∃ (kq : Nat) (x35_9 : Bool), v35 = .bool x35_9 ∧ Aside0 (fiberutils_IsIPv4.j3 kq x0_3 x3_1 x4_3 x5_3 x35_9 = some r) ∧ Aside0 (kq ≤ k3) ∧ Drawn0 w wc)
                  case first =>
                    have H := HC10.out
                    clear HC10
                    by_cases c11 : x5_3 < (x0_3.size : Int)
                    · rw [if_pos c11] at H
                      have c11b0 : decide (x5_3 < (x0_3.size : Int)) = true := decide_eq_true c11
                      clear c11
                      (first | rw [c11b0] | (simp only [i64_w, i32_w]; rw [c11b0]) | skip)
                      by_cases c12 : 0 ≤ x5_3
                      · rw [if_pos c12] at H
                        have c12b0 : decide (0 ≤ x5_3) = true := decide_eq_true c12
                        clear c12
                        by_cases c14 : 48 ≤ (bt x0_3 x5_3)
                        · rw [if_pos c14] at H
                          have c14b0 : decide (48 ≤ (bt x0_3 x5_3)) = true := decide_eq_true c14
                          clear c14
                          have H' := Aside0.mk H
                          clear H
                          have p13 : 0 ≤ (x5_3 : Int) := of_decide_eq_true (by first | (with_reducible assumption) | assumption)
                          have q13 : x5_3 < (x0_3.size : Int) := of_decide_eq_true (by first | (with_reducible assumption) | assumption)
                          have hx13 := bt_at x0_3 x5_3
                          replace p13 := eq_true p13
                          replace q13 := eq_true q13
                          have p15 : 0 ≤ (x5_3 : Int) := of_decide_eq_true (by first | (with_reducible assumption) | assumption)
                          have q15 : x5_3 < (x0_3.size : Int) := of_decide_eq_true (by first | (with_reducible assumption) | assumption)
                          have hx15 := bt_at x0_3 x5_3
                          replace p15 := eq_true p15
                          replace q15 := eq_true q15
                          go_wp2
                          go_meet
                          case rel => exact ⟨_, (decide ((bt x0_3 x5_3) ≤ 57)), (by first | rfl | (simp; done) | (simp [*]; done) | (simp [Go.Proofs.YtjmcndbkmknemaaX.isEmpty_ne]; done)), H', ⟨by have := HK1.out; have := HJ3.out; have := HK3.out; first | omega | exact Nat.le_refl _⟩, by repeat (first | exact Drawn0.refl _ | apply Drawn0.step)⟩
                        · rw [if_neg c14] at H
                          have c14b0 : decide (48 ≤ (bt x0_3 x5_3)) = false := decide_eq_false c14
                          clear c14
                          have H' := Aside0.mk H
                          clear H
                          have p13 : 0 ≤ (x5_3 : Int) := of_decide_eq_true (by first | (with_reducible assumption) | assumption)
                          have q13 : x5_3 < (x0_3.size : Int) := of_decide_eq_true (by first | (with_reducible assumption) | assumption)
                          have hx13 := bt_at x0_3 x5_3
                          replace p13 := eq_true p13
                          replace q13 := eq_true q13
                          go_wp2
                          go_meet
                          case rel => exact ⟨_, (false), (by first | rfl | (simp; done) | (simp [*]; done) | (simp [Go.Proofs.YtjmcndbkmknemaaX.isEmpty_ne]; done)), H', ⟨by have := HK1.out; have := HJ3.out; have := HK3.out; first | omega | exact Nat.le_refl _⟩, by repeat (first | exact Drawn0.refl _ | apply Drawn0.step)⟩
                      · rw [if_neg c12] at H
                        exact absurd H (by simp)
                    · rw [if_neg c11] at H
                      have c11b0 : decide (x5_3 < (x0_3.size : Int)) = false := decide_eq_false c11
                      clear c11
                      (first | rw [c11b0] | (simp only [i64_w, i32_w]; rw [c11b0]) | skip)
                      have H' := Aside0.mk H
                      clear H
                      go_wp2
                      go_meet
                      case rel => exact ⟨_, (false), (by first | rfl | (simp; done) | (simp [*]; done) | (simp [Go.Proofs.YtjmcndbkmknemaaX.isEmpty_ne]; done)), H', ⟨by have := HK1.out; have := HJ3.out; have := HK3.out; first | omega | exact Nat.le_refl _⟩, by repeat (first | exact Drawn0.refl _ | apply Drawn0.step)⟩
                  case rest =>
                    clear HC10
                    try clear c1
                    try clear p1
                    try clear q1
                    try clear hx1
                    try clear c2
                    try clear c2b0
                    try clear p2
                    try clear c3
                    try clear c3b0
                    try clear c3b1
                    try clear c5
                    try clear c5b0
                    try clear c6
                    try clear c6b0
                    try clear c6b1
                    try clear p7
                    try clear q7
                    try clear hx7
                    try clear qi7
                    try clear c8
                    try clear c8b0
                    try clear c8b1
                    try clear c9
                    try clear c9b0
                    try clear c9b1
                    try clear c11
                    try clear c11b0
                    try clear c12
                    try clear c12b0
                    try clear p13
                    try clear q13
                    try clear hx13
                    try clear c14
                    try clear c14b0
                    try clear p15
                    try clear q15
                    try clear hx15
                    try clear p13
                    try clear p15
                    try clear p2
                    try clear p7
                    try clear q13
                    try clear q15
                    try clear q7
                    obtain ⟨kq, x35_9, rfl, HA, HJ9, ⟨mc9, rfl⟩⟩ := hcut
                    cases kq with
                    | zero => exact absurd HA.out (by simp [fiberutils_IsIPv4.j3])
                    | succ kj9 =>
                      have H := HA.out
                      clear HA
                      simp only [fiberutils_IsIPv4.j3] at H
                      by_cases c16 : x35_9 = true
                      · subst c16
                        have H1 : (if 0 ≤ x5_3 then (if x5_3 < (x0_3.size : Int) then (if (wrap64 ((wrap64 (x4_3 * 10)) + (((bt x0_3 x5_3) - 48) % 256))) > 255 then (some false) else (fiberutils_IsIPv4.l1 kj9 x0_3 x3_1 (wrap64 ((wrap64 (x4_3 * 10)) + (((bt x0_3 x5_3) - 48) % 256))) (wrap64 (x5_3 + 1)))) else (none)) else (none)) = some r := by rw [if_pos rfl] at H; exact H
                        clear H
                        have H := H1
                        clear H1
                        by_cases c17 : 0 ≤ x5_3
                        · rw [if_pos c17] at H
                          have c17b0 : decide (0 ≤ x5_3) = true := decide_eq_true c17
                          clear c17
                          by_cases c18 : x5_3 < (x0_3.size : Int)
                          · rw [if_pos c18] at H
                            have c18b0 : decide (x5_3 < (x0_3.size : Int)) = true := decide_eq_true c18
                            clear c18
                            by_cases c20 : (wrap64 ((wrap64 (x4_3 * 10)) + (((bt x0_3 x5_3) - 48) % 256))) > 255
                            · rw [if_pos c20] at H
                              have c20b0 : decide (255 < (wrap64 ((wrap64 (x4_3 * 10)) + (((bt x0_3 x5_3) - 48) % 256)))) = true := decide_eq_true c20
                              clear c20
                              obtain rfl := Option.some.inj H
                              have p19 : 0 ≤ (x5_3 : Int) := of_decide_eq_true (by first | (with_reducible assumption) | assumption)
                              have q19 : x5_3 < (x0_3.size : Int) := of_decide_eq_true (by first | (with_reducible assumption) | assumption)
                              have hx19 := bt_at x0_3 x5_3
                              replace p19 := eq_true p19
                              replace q19 := eq_true q19
                              go_wp2
                              go_ret
                              exact ⟨by first | rfl | (simp; done) | (simp [*]; done) | (simp [Go.Proofs.YtjmcndbkmknemaaX.isEmpty_ne]; done), by repeat (first | exact Drawn0.refl _ | apply Drawn0.step)⟩
                            · rw [if_neg c20] at H
                              have c20b0 : decide (255 < (wrap64 ((wrap64 (x4_3 * 10)) + (((bt x0_3 x5_3) - 48) % 256)))) = false := decide_eq_false c20
                              clear c20
                              have H' := Aside0.mk H
                              clear H
                              have p19 : 0 ≤ (x5_3 : Int) := of_decide_eq_true (by first | (with_reducible assumption) | assumption)
                              have q19 : x5_3 < (x0_3.size : Int) := of_decide_eq_true (by first | (with_reducible assumption) | assumption)
                              have hx19 := bt_at x0_3 x5_3
                              replace p19 := eq_true p19
                              replace q19 := eq_true q19
                              go_wp2
                              go_roundg kj9
                              case measure => have := HK1.out; have := HJ3.out; have := HK3.out; have := HJ9.out; omega
                              case rel => exact ⟨(wrap64 ((wrap64 (x4_3 * 10)) + (((bt x0_3 x5_3) - 48) % 256))), (wrap64 (x5_3 + 1)), (by first | rfl | (simp; done) | (simp [*]; done) | (simp [Go.Proofs.YtjmcndbkmknemaaX.isEmpty_ne]; done)), (by first | rfl | (simp; done) | (simp [*]; done) | (simp [Go.Proofs.YtjmcndbkmknemaaX.isEmpty_ne]; done)), H', ⟨by have := HK1.out; have := HJ3.out; have := HK3.out; have := HJ9.out; omega⟩, by repeat (first | exact Drawn0.refl _ | apply Drawn0.step)⟩
                          · rw [if_neg c18] at H
                            exact absurd H (by simp)
                        · rw [if_neg c17] at H
                          exact absurd H (by simp)
                      · replace c16 := Bool.eq_false_iff.mpr c16
                        subst c16
                        have H1 : (if x5_3 = 0 then (some false) else (if x5_3 > 1 then (if 0 < (x0_3.size : Int) then (if (bt x0_3 0) = 48 then (some false) else (if 0 ≤ x5_3 then (if x5_3 ≤ (x0_3.size : Int) then (fiberutils_IsIPv4.l0 kj9 (x0_3.extract (x5_3 : Int).toNat x0_3.size) (wrap64 (x3_1 + 1))) else (none)) else (none))) else (none)) else (if 0 ≤ x5_3 then (if x5_3 ≤ (x0_3.size : Int) then (fiberutils_IsIPv4.l0 kj9 (x0_3.extract (x5_3 : Int).toNat x0_3.size) (wrap64 (x3_1 + 1))) else (none)) else (none)))) = some r := by rw [if_neg (show ¬ (false = true) by decide)] at H; exact H
                        clear H
                        have H := H1
                        clear H1
                        by_cases c21 : x5_3 = 0
                        · rw [if_pos c21] at H
                          have c21b0 : (x5_3 == 0) = true := beq_iff_eq.mpr c21
                          have c21b1 : (x5_3 != 0) = false := bne_eq_false_iff_eq.mpr c21
                          clear c21
                          obtain rfl := Option.some.inj H
                          go_wp2
                          go_ret
                          exact ⟨by first | rfl | (simp; done) | (simp [*]; done) | (simp [Go.Proofs.YtjmcndbkmknemaaX.isEmpty_ne]; done), by repeat (first | exact Drawn0.refl _ | apply Drawn0.step)⟩
                        · rw [if_neg c21] at H
                          have c21b0 : (x5_3 == 0) = false := beq_eq_false_iff_ne.mpr c21
                          have c21b1 : (x5_3 != 0) = true := bne_iff_ne.mpr c21
                          by_cases c22 : x5_3 > 1
                          · rw [if_pos c22] at H
                            have c22b0 : decide (1 < x5_3) = true := decide_eq_true c22
                            clear c22
                            by_cases c23 : 0 < (x0_3.size : Int)
                            · rw [if_pos c23] at H
                              have c23b0 : decide (0 < (x0_3.size : Int)) = true := decide_eq_true c23
                              have c23b1 : decide (0 < x0_3.size) = true := decide_eq_true (by omega)
                              clear c23
                              by_cases c25 : (bt x0_3 0) = 48
                              · rw [if_pos c25] at H
                                have c25b0 : ((bt x0_3 0) == 48) = true := beq_iff_eq.mpr c25
                                have c25b1 : ((bt x0_3 0) != 48) = false := bne_eq_false_iff_eq.mpr c25
                                clear c25
                                obtain rfl := Option.some.inj H
                                have p24 : 0 ≤ (0 : Int) := (by omega)
                                have q24 : 0 < x0_3.size := (by have : (0 : Int) < (x0_3.size : Int) := of_decide_eq_true (by first | (with_reducible assumption) | assumption); omega)
                                have hx24 : ∀ h : 0 < x0_3.size, ((x0_3[0]'h).toNat : Int) = bt x0_3 0 := bt_at x0_3 0
                                clear p24
                                have qi24 : (0 < (x0_3.size : Int)) = True := eq_true (of_decide_eq_true (by first | (with_reducible assumption) | assumption))
                                replace q24 := eq_true q24
                                go_wp2
                                go_ret
                                exact ⟨by first | rfl | (simp; done) | (simp [*]; done) | (simp [Go.Proofs.YtjmcndbkmknemaaX.isEmpty_ne]; done), by repeat (first | exact Drawn0.refl _ | apply Drawn0.step)⟩
                              · rw [if_neg c25] at H
                                have c25b0 : ((bt x0_3 0) == 48) = false := beq_eq_false_iff_ne.mpr c25
                                have c25b1 : ((bt x0_3 0) != 48) = true := bne_iff_ne.mpr c25
                                by_cases c26 : 0 ≤ x5_3
                                · rw [if_pos c26] at H
                                  have c26b0 := eq_true c26
                                  have c26b1 : decide (0 ≤ x5_3) = true := decide_eq_true c26
                                  clear c26
                                  by_cases c27 : x5_3 ≤ (x0_3.size : Int)
                                  · rw [if_pos c27] at H
                                    have c27b0 := eq_true c27
                                    have c27b1 : decide (x5_3 ≤ (x0_3.size : Int)) = true := decide_eq_true c27
                                    clear c27
                                    have H' := Aside0.mk H
                                    clear H
                                    have p24 : 0 ≤ (0 : Int) := (by omega)
                                    have q24 : 0 < x0_3.size := (by have : (0 : Int) < (x0_3.size : Int) := of_decide_eq_true (by first | (with_reducible assumption) | assumption); omega)
                                    have hx24 : ∀ h : 0 < x0_3.size, ((x0_3[0]'h).toNat : Int) = bt x0_3 0 := bt_at x0_3 0
                                    clear p24
                                    have qi24 : (0 < (x0_3.size : Int)) = True := eq_true (of_decide_eq_true (by first | (with_reducible assumption) | assumption))
                                    replace q24 := eq_true q24
                                    go_wp2
                                    go_roundg kj9
                                    case measure => have := HK1.out; have := HJ3.out; have := HK3.out; have := HJ9.out; omega
                                    case rel => exact ⟨(x0_3.extract (x5_3 : Int).toNat x0_3.size), (wrap64 (x3_1 + 1)), (by first | rfl | (simp; done) | (simp [*]; done) | (simp [Go.Proofs.YtjmcndbkmknemaaX.isEmpty_ne]; done)), (by first | rfl | (simp; done) | (simp [*]; done) | (simp [Go.Proofs.YtjmcndbkmknemaaX.isEmpty_ne]; done)), H', ⟨by have := HK1.out; have := HJ3.out; have := HK3.out; have := HJ9.out; omega⟩, by repeat (first | exact Drawn0.refl _ | apply Drawn0.step)⟩
                                  · rw [if_neg c27] at H
                                    exact absurd H (by simp)
                                · rw [if_neg c26] at H
                                  exact absurd H (by simp)
                            · rw [if_neg c23] at H
                              exact absurd H (by simp)
                          · rw [if_neg c22] at H
                            have c22b0 : decide (1 < x5_3) = false := decide_eq_false c22
                            clear c22
                            by_cases c28 : 0 ≤ x5_3
                            · rw [if_pos c28] at H
                              have c28b0 := eq_true c28
                              have c28b1 : decide (0 ≤ x5_3) = true := decide_eq_true c28
                              clear c28
                              by_cases c29 : x5_3 ≤ (x0_3.size : Int)
                              · rw [if_pos c29] at H
                                have c29b0 := eq_true c29
                                have c29b1 : decide (x5_3 ≤ (x0_3.size : Int)) = true := decide_eq_true c29
                                clear c29
                                have H' := Aside0.mk H
                                clear H
                                go_wp2
                                go_roundg kj9
                                case measure => have := HK1.out; have := HJ3.out; have := HK3.out; have := HJ9.out; omega
                                case rel => exact ⟨(x0_3.extract (x5_3 : Int).toNat x0_3.size), (wrap64 (x3_1 + 1)), (by first | rfl | (simp; done) | (simp [*]; done) | (simp [Go.Proofs.YtjmcndbkmknemaaX.isEmpty_ne]; done)), (by first | rfl | (simp; done) | (simp [*]; done) | (simp [Go.Proofs.YtjmcndbkmknemaaX.isEmpty_ne]; done)), H', ⟨by have := HK1.out; have := HJ3.out; have := HK3.out; have := HJ9.out; omega⟩, by repeat (first | exact Drawn0.refl _ | apply Drawn0.step)⟩
                              · rw [if_neg c29] at H
                                exact absurd H (by simp)
                            · rw [if_neg c28] at H
                              exact absurd H (by simp)
      · rw [if_neg c2] at H
        have c2b0 : decide (x3_1 < 4) = false := decide_eq_false c2
        clear c2
        obtain rfl := Option.some.inj H
        go_wp2
        go_ret
        exact ⟨by first | rfl | (simp; done) | (simp [*]; done) | (simp [Go.Proofs.YtjmcndbkmknemaaX.isEmpty_ne]; done), by repeat (first | exact Drawn0.refl _ | apply Drawn0.step)⟩

end Go.Proofs.Ytjmcndbkmknemaa.Q
