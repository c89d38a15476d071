-- Written by a program of this session out of the translation, with the kit's printer. Not trusted: Lean checks it.
import Derived.Test.YtipmmjbjgbfgjaaDoorQ0
namespace Go.Proofs.YtipmmjbjgbfgjaaDoor.Q
open Go.RowKit Go.Proofs.YtipmmjbjgbfgjaaDoorW.PrintWords Go.Proofs.YtipmmjbjgbfgjaaDoorW.PrintLast Go.Proofs.YtipmmjbjgbfgjaaDoorW.PrintMore
attribute [local go_sem] max2_int min2_int max_two min_two max_three min_three max_four min_four   -- for this text's walks alone
set_option linter.unusedVariables false
set_option linter.unusedSimpArgs false

/-! ### spec_UintAhead: function 11 -/
mutual
def spec_UintAhead.l0 : Nat → ByteArray → Int → Int → Option (Int × Int × Int)
  | 0, _, _, _ => none
  | k + 1, x0, x5, x6 => if x6 < (x0.size : Int) then (if 0 ≤ x6 then (if (bt x0 x6) ≥ 48 then (spec_UintAhead.j1 k x0 x5 x6 (decide ((bt x0 x6) ≤ 57))) else (spec_UintAhead.j1 k x0 x5 x6 false)) else (none)) else (spec_UintAhead.j1 k x0 x5 x6 false)
def spec_UintAhead.j1 : Nat → ByteArray → Int → Int → Bool → Option (Int × Int × Int)
  | 0, _, _, _, _ => none
  | k + 1, x0, x5, x6, x22 => if x22 = true then (if x6 < 18 then (if 0 ≤ x6 then (if x6 < (x0.size : Int) then (spec_UintAhead.l0 k x0 (wrap64 ((wrap64 (10 * x5)) + (((bt x0 x6) - 48) % 256))) (wrap64 (x6 + 1))) else (none)) else (none)) else (spec_UintAhead.l0 k x0 x5 (wrap64 (x6 + 1)))) else (if x6 = 0 then (some (0, 0, 0)) else (if x6 > 18 then (some (0, 0, 2)) else (some (x5, x6, 1))))
end
def spec_UintAhead.f (k : Nat) (a0 : ByteArray) : Option (Int × Int × Int) := spec_UintAhead.l0 k a0 0 0
theorem spec_UintAhead.mono_l : ∀ k, (∀ y0 y1 y2, LeO (spec_UintAhead.l0 k y0 y1 y2) (spec_UintAhead.l0 (k + 1) y0 y1 y2)) ∧ (∀ y0 y1 y2 y3, LeO (spec_UintAhead.j1 k y0 y1 y2 y3) (spec_UintAhead.j1 (k + 1) y0 y1 y2 y3))
  | 0 => ⟨fun _ _ _ r h => by simp [spec_UintAhead.l0] at h, fun _ _ _ _ r h => by simp [spec_UintAhead.j1] at h⟩
  | k + 1 => by
    obtain ⟨ih0, ih1⟩ := spec_UintAhead.mono_l k
    refine ⟨?_, ?_⟩
    · intro y0 y1 y2
      unfold spec_UintAhead.l0
      repeat' first
      | (with_reducible exact ih0 _ _ _)
      | (with_reducible exact ih1 _ _ _ _)
      | (with_reducible exact LeO.refl _)
      | (with_reducible exact LeO.none _)
      | (with_reducible refine LeO.ite ?_ ?_)
      | (with_reducible refine LeO.bind ?_ (fun _ => ?_))
      | exact ih0 _ _ _
      | exact ih1 _ _ _ _
      | exact LeO.none _
      | refine LeO.ite ?_ ?_
      | refine LeO.bind ?_ (fun _ => ?_)
    · intro y0 y1 y2 y3
      unfold spec_UintAhead.j1
      repeat' first
      | (with_reducible exact ih0 _ _ _)
      | (with_reducible exact ih1 _ _ _ _)
      | (with_reducible exact LeO.refl _)
      | (with_reducible exact LeO.none _)
      | (with_reducible refine LeO.ite ?_ ?_)
      | (with_reducible refine LeO.bind ?_ (fun _ => ?_))
      | exact ih0 _ _ _
      | exact ih1 _ _ _ _
      | exact LeO.none _
      | refine LeO.ite ?_ ?_
      | refine LeO.bind ?_ (fun _ => ?_)
theorem spec_UintAhead.mono : ∀ a0 k, LeO (spec_UintAhead.f k a0) (spec_UintAhead.f (k + 1) a0) := by
  intro a0 k
  obtain ⟨ih0, ih1⟩ := spec_UintAhead.mono_l k
  unfold spec_UintAhead.f
  repeat' first
      | (with_reducible exact ih0 _ _ _)
      | (with_reducible exact ih1 _ _ _ _)
      | (with_reducible exact LeO.refl _)
      | (with_reducible exact LeO.none _)
      | (with_reducible refine LeO.ite ?_ ?_)
      | (with_reducible refine LeO.bind ?_ (fun _ => ?_))
      | exact ih0 _ _ _
      | exact ih1 _ _ _ _
      | exact LeO.none _
      | refine LeO.ite ?_ ?_
      | refine LeO.bind ?_ (fun _ => ?_)
set_option maxHeartbeats 8000000 in
set_option maxRecDepth 100000 in
theorem spec_UintAhead.calls (k : Nat) (a0 : ByteArray) (r1 : Int) (r2 : Int) (r3 : Int) (w : World) (h : spec_UintAhead.f k a0 = some (r1, r2, r3)) :
    Calls Tryd.prog 11 #[.string a0] w fun e w' => e = .returned (.tuple #[.int .i64 r1, .int .i64 r2, .int .i64 r3]) ∧ Drawn0 w w' := by
  have H : (spec_UintAhead.l0 k a0 0 0) = some (r1, r2, r3) := h
  clear h
  have H' := Aside0.mk H
  clear H
  go_enter Tryd.func11, Tryd.ntmps11
  go_wp2
  go_loopg [5, 6] k (fun kq v5 v6 w' => ∃ (x5_1 : Int) (x6_1 : Int), v5 = .int .i64 x5_1 ∧ v6 = .int .i64 x6_1 ∧ Aside0 (spec_UintAhead.l0 kq a0 x5_1 x6_1 = some (r1, r2, r3)) ∧ Aside0 (kq ≤ k) ∧ Drawn0 w w')
  case atStart => exact ⟨(0), (0), (by first | rfl | (simp; done) | (simp [*]; done) | (simp [Go.Proofs.YtipmmjbjgbfgjaaDoorX.isEmpty_ne]; done)), (by first | rfl | (simp; done) | (simp [*]; done) | (simp [Go.Proofs.YtipmmjbjgbfgjaaDoorX.isEmpty_ne]; done)), H', ⟨Nat.le_refl _⟩, by repeat (first | exact Drawn0.refl _ | apply Drawn0.step)⟩
  case round =>
    clear H'
    try clear c1
    obtain ⟨x5_1, x6_1, rfl, rfl, HA, HK1, ⟨m1, rfl⟩⟩ := hrel
    cases gk with
    | zero => exact absurd HA.out (by simp [spec_UintAhead.l0])
    | succ k1 =>
      have H := HA.out
      clear HA
      simp only [spec_UintAhead.l0] at H
      have HC2 := Aside0.mk H
      clear H
      go_upto_region 2 with (fail)
      go_cut [22] (fun v22 wc => ∃ (kq : Nat) (x22_1 : Bool), v22 = .bool x22_1 ∧ Aside0 (spec_UintAhead.j1 kq a0 x5_1 x6_1 x22_1 = some (r1, r2, r3)) ∧ Aside0 (kq ≤ k1) ∧ Drawn0 w wc)
      case first =>
        have H := HC2.out
        clear HC2
        by_cases c3 : x6_1 < (a0.size : Int)
        · rw [if_pos c3] at H
          have c3b0 : decide (x6_1 < (a0.size : Int)) = true := decide_eq_true c3
          clear c3
          (first | rw [c3b0] | (simp only [i64_w, i32_w]; rw [c3b0]) | (rw [Go.Proofs.YtipmmjbjgbfgjaaDoorX.isEmpty_eq]; rw [c3b0]) | skip)
          by_cases c4 : 0 ≤ x6_1
          · rw [if_pos c4] at H
            have c4b0 : decide (0 ≤ x6_1) = true := decide_eq_true c4
            clear c4
            by_cases c6 : (bt a0 x6_1) ≥ 48
            · rw [if_pos c6] at H
              have c6b0 : decide (48 ≤ (bt a0 x6_1)) = true := decide_eq_true c6
              clear c6
              have H' := Aside0.mk H
              clear H
              have p5 : 0 ≤ (x6_1 : Int) := of_decide_eq_true (by first | (with_reducible assumption) | assumption)
              have q5 : x6_1 < (a0.size : Int) := of_decide_eq_true (by first | (with_reducible assumption) | assumption)
              have hx5 := bt_at a0 x6_1
              replace p5 := eq_true p5
              replace q5 := eq_true q5
              have p7 : 0 ≤ (x6_1 : Int) := of_decide_eq_true (by first | (with_reducible assumption) | assumption)
              have q7 : x6_1 < (a0.size : Int) := of_decide_eq_true (by first | (with_reducible assumption) | assumption)
              have hx7 := bt_at a0 x6_1
              replace p7 := eq_true p7
              replace q7 := eq_true q7
              go_wp2
              go_meet
              case rel => exact ⟨_, (decide ((bt a0 x6_1) ≤ 57)), (by first | rfl | (simp; done) | (simp [*]; done) | (simp [Go.Proofs.YtipmmjbjgbfgjaaDoorX.isEmpty_ne]; done)), H', ⟨by have := HK1.out; first | omega | exact Nat.le_refl _⟩, by repeat (first | exact Drawn0.refl _ | apply Drawn0.step)⟩
            · rw [if_neg c6] at H
              have c6b0 : decide (48 ≤ (bt a0 x6_1)) = false := decide_eq_false c6
              clear c6
              have H' := Aside0.mk H
              clear H
              have p5 : 0 ≤ (x6_1 : Int) := of_decide_eq_true (by first | (with_reducible assumption) | assumption)
              have q5 : x6_1 < (a0.size : Int) := of_decide_eq_true (by first | (with_reducible assumption) | assumption)
              have hx5 := bt_at a0 x6_1
              replace p5 := eq_true p5
              replace q5 := eq_true q5
              go_wp2
              go_meet
              case rel => exact ⟨_, (false), (by first | rfl | (simp; done) | (simp [*]; done) | (simp [Go.Proofs.YtipmmjbjgbfgjaaDoorX.isEmpty_ne]; done)), H', ⟨by have := HK1.out; first | omega | exact Nat.le_refl _⟩, by repeat (first | exact Drawn0.refl _ | apply Drawn0.step)⟩
          · rw [if_neg c4] at H
            exact absurd H (by simp)
        · rw [if_neg c3] at H
          have c3b0 : decide (x6_1 < (a0.size : Int)) = false := decide_eq_false c3
          clear c3
          (first | rw [c3b0] | (simp only [i64_w, i32_w]; rw [c3b0]) | (rw [Go.Proofs.YtipmmjbjgbfgjaaDoorX.isEmpty_eq]; rw [c3b0]) | skip)
          have H' := Aside0.mk H
          clear H
          go_wp2
          go_meet
          case rel => exact ⟨_, (false), (by first | rfl | (simp; done) | (simp [*]; done) | (simp [Go.Proofs.YtipmmjbjgbfgjaaDoorX.isEmpty_ne]; done)), H', ⟨by have := HK1.out; first | omega | exact Nat.le_refl _⟩, by repeat (first | exact Drawn0.refl _ | apply Drawn0.step)⟩
      case rest =>
        clear HC2
        try clear c1
        try clear p2
        try clear c3
        try clear c3b0
        try clear c4
        try clear c4b0
        try clear p5
        try clear q5
        try clear hx5
        try clear c6
        try clear c6b0
        try clear p7
        try clear q7
        try clear hx7
        try clear p5
        try clear p7
        try clear q5
        try clear q7
        obtain ⟨kq, x22_1, rfl, HA, HJ1, ⟨mc1, rfl⟩⟩ := hcut
        cases kq with
        | zero => exact absurd HA.out (by simp [spec_UintAhead.j1])
        | succ kj1 =>
          have H := HA.out
          clear HA
          simp only [spec_UintAhead.j1] at H
          by_cases c8 : x22_1 = true
          · subst c8
            have H1 : (if x6_1 < 18 then (if 0 ≤ x6_1 then (if x6_1 < (a0.size : Int) then (spec_UintAhead.l0 kj1 a0 (wrap64 ((wrap64 (10 * x5_1)) + (((bt a0 x6_1) - 48) % 256))) (wrap64 (x6_1 + 1))) else (none)) else (none)) else (spec_UintAhead.l0 kj1 a0 x5_1 (wrap64 (x6_1 + 1)))) = some (r1, r2, r3) := by rw [if_pos rfl] at H; exact H
            clear H
            have H := H1
            clear H1
            by_cases c9 : x6_1 < 18
            · rw [if_pos c9] at H
              have c9b0 : decide (x6_1 < 18) = true := decide_eq_true c9
              clear c9
              by_cases c10 : 0 ≤ x6_1
              · rw [if_pos c10] at H
                have c10b0 : decide (0 ≤ x6_1) = true := decide_eq_true c10
                clear c10
                by_cases c11 : x6_1 < (a0.size : Int)
                · rw [if_pos c11] at H
                  have c11b0 : decide (x6_1 < (a0.size : Int)) = true := decide_eq_true c11
                  clear c11
                  have H' := Aside0.mk H
                  clear H
                  have p12 : 0 ≤ (x6_1 : Int) := of_decide_eq_true (by first | (with_reducible assumption) | assumption)
                  have q12 : x6_1 < (a0.size : Int) := of_decide_eq_true (by first | (with_reducible assumption) | assumption)
                  have hx12 := bt_at a0 x6_1
                  replace p12 := eq_true p12
                  replace q12 := eq_true q12
                  go_wp2
                  go_roundg kj1
                  case measure => have := HK1.out; have := HJ1.out; omega
                  case rel => exact ⟨(wrap64 ((wrap64 (10 * x5_1)) + (((bt a0 x6_1) - 48) % 256))), (wrap64 (x6_1 + 1)), (by first | rfl | (simp; done) | (simp [*]; done) | (simp [Go.Proofs.YtipmmjbjgbfgjaaDoorX.isEmpty_ne]; done)), (by first | rfl | (simp; done) | (simp [*]; done) | (simp [Go.Proofs.YtipmmjbjgbfgjaaDoorX.isEmpty_ne]; done)), H', ⟨by have := HK1.out; have := HJ1.out; omega⟩, by repeat (first | exact Drawn0.refl _ | apply Drawn0.step)⟩
                · rw [if_neg c11] at H
                  exact absurd H (by simp)
              · rw [if_neg c10] at H
                exact absurd H (by simp)
            · rw [if_neg c9] at H
              have c9b0 : decide (x6_1 < 18) = false := decide_eq_false c9
              clear c9
              have H' := Aside0.mk H
              clear H
              go_wp2
              go_roundg kj1
              case measure => have := HK1.out; have := HJ1.out; omega
              case rel => exact ⟨(x5_1), (wrap64 (x6_1 + 1)), (by first | rfl | (simp; done) | (simp [*]; done) | (simp [Go.Proofs.YtipmmjbjgbfgjaaDoorX.isEmpty_ne]; done)), (by first | rfl | (simp; done) | (simp [*]; done) | (simp [Go.Proofs.YtipmmjbjgbfgjaaDoorX.isEmpty_ne]; done)), H', ⟨by have := HK1.out; have := HJ1.out; omega⟩, by repeat (first | exact Drawn0.refl _ | apply Drawn0.step)⟩
          · replace c8 := Bool.eq_false_iff.mpr c8
            subst c8
            have H1 : (if x6_1 = 0 then (some (0, 0, 0)) else (if x6_1 > 18 then (some (0, 0, 2)) else (some (x5_1, x6_1, 1)))) = some (r1, r2, r3) := by rw [if_neg (show ¬ (false = true) by decide)] at H; exact H
            clear H
            have H := H1
            clear H1
            by_cases c13 : x6_1 = 0
            · rw [if_pos c13] at H
              have c13b0 : (x6_1 == 0) = true := beq_iff_eq.mpr c13
              have c13b1 : (x6_1 != 0) = false := bne_eq_false_iff_eq.mpr c13
              clear c13
              simp only [Option.some.injEq, Prod.mk.injEq] at H
              obtain ⟨rfl, rfl, rfl⟩ := H
              go_wp2
              go_ret3
              exact ⟨by first | rfl | (simp; done) | (simp [*]; done) | (simp [Go.Proofs.YtipmmjbjgbfgjaaDoorX.isEmpty_ne]; done), by repeat (first | exact Drawn0.refl _ | apply Drawn0.step)⟩
            · rw [if_neg c13] at H
              have c13b0 : (x6_1 == 0) = false := beq_eq_false_iff_ne.mpr c13
              have c13b1 : (x6_1 != 0) = true := bne_iff_ne.mpr c13
              by_cases c14 : x6_1 > 18
              · rw [if_pos c14] at H
                have c14b0 : decide (18 < x6_1) = true := decide_eq_true c14
                clear c14
                simp only [Option.some.injEq, Prod.mk.injEq] at H
                obtain ⟨rfl, rfl, rfl⟩ := H
                go_wp2
                go_ret3
                exact ⟨by first | rfl | (simp; done) | (simp [*]; done) | (simp [Go.Proofs.YtipmmjbjgbfgjaaDoorX.isEmpty_ne]; done), by repeat (first | exact Drawn0.refl _ | apply Drawn0.step)⟩
              · rw [if_neg c14] at H
                have c14b0 : decide (18 < x6_1) = false := decide_eq_false c14
                clear c14
                simp only [Option.some.injEq, Prod.mk.injEq] at H
                obtain ⟨rfl, rfl, rfl⟩ := H
                go_wp2
                go_ret3
                exact ⟨by first | rfl | (simp; done) | (simp [*]; done) | (simp [Go.Proofs.YtipmmjbjgbfgjaaDoorX.isEmpty_ne]; done), by repeat (first | exact Drawn0.refl _ | apply Drawn0.step)⟩

end Go.Proofs.YtipmmjbjgbfgjaaDoor.Q
