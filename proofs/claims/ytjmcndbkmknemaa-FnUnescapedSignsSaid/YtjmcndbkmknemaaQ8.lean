-- Written by a program of this session out of the translation, with the kit's printer. Not trusted: Lean checks it.
import Derived.Test.YtjmcndbkmknemaaQ0
namespace Go.Proofs.Ytjmcndbkmknemaa.Q
open Go.RowKit Go.Proofs.YtjmcndbkmknemaaW.PrintWords Go.Proofs.YtjmcndbkmknemaaW.PrintLast Go.Proofs.YtjmcndbkmknemaaW.PrintMore
attribute [local go_sem] max2_int min2_int max_two min_two max_three min_three max_four min_four   -- for this text's walks alone
set_option linter.unusedVariables false
set_option linter.unusedSimpArgs false

/-! ### fiberpath_GetTrimmedParam: function 45 -/
def fiberpath_GetTrimmedParam.j0 : Nat → ByteArray → Int → Int → Bool → Option (ByteArray)
  | 0, _, _, _, _ => none
  | k + 1, x0, x3, x4, x14 => if x14 = true then (some x0) else (if 0 ≤ (wrap64 (x4 - 1)) then (if (wrap64 (x4 - 1)) < (x0.size : Int) then (if (bt x0 (wrap64 (x4 - 1))) = 63 then (if 0 ≤ (wrap64 (x3 + 1)) then (if (wrap64 (x3 + 1)) ≤ (wrap64 (x4 - 1)) then (if (wrap64 (x4 - 1)) ≤ (x0.size : Int) then (some (x0.extract ((wrap64 (x3 + 1)) : Int).toNat ((wrap64 (x4 - 1)) : Int).toNat)) else (none)) else (none)) else (none)) else (if 0 ≤ (wrap64 (x3 + 1)) then (if (wrap64 (x3 + 1)) ≤ x4 then (if x4 ≤ (x0.size : Int) then (some (x0.extract ((wrap64 (x3 + 1)) : Int).toNat (x4 : Int).toNat)) else (none)) else (none)) else (none))) else (none)) else (none))
def fiberpath_GetTrimmedParam.f (k : Nat) (a0 : ByteArray) : Option (ByteArray) := if (a0.size : Int) = 0 then (fiberpath_GetTrimmedParam.j0 k a0 0 (a0.size : Int) true) else (if 0 < (a0.size : Int) then (fiberpath_GetTrimmedParam.j0 k a0 0 (a0.size : Int) ((bt a0 0) != 58)) else (none))
theorem fiberpath_GetTrimmedParam.mono_l : ∀ k, (∀ y0 y1 y2 y3, LeO (fiberpath_GetTrimmedParam.j0 k y0 y1 y2 y3) (fiberpath_GetTrimmedParam.j0 (k + 1) y0 y1 y2 y3))
  | 0 => fun _ _ _ _ r h => by simp [fiberpath_GetTrimmedParam.j0] at h
  | k + 1 => by
    have ih0 := fiberpath_GetTrimmedParam.mono_l k
    · intro y0 y1 y2 y3
      unfold fiberpath_GetTrimmedParam.j0
      repeat' first
      | (with_reducible exact ih0 _ _ _ _)
      | (with_reducible exact LeO.refl _)
      | (with_reducible exact LeO.none _)
      | (with_reducible refine LeO.ite ?_ ?_)
      | (with_reducible refine LeO.bind ?_ (fun _ => ?_))
      | exact ih0 _ _ _ _
      | exact LeO.none _
      | refine LeO.ite ?_ ?_
      | refine LeO.bind ?_ (fun _ => ?_)
theorem fiberpath_GetTrimmedParam.mono : ∀ a0 k, LeO (fiberpath_GetTrimmedParam.f k a0) (fiberpath_GetTrimmedParam.f (k + 1) a0) := by
  intro a0 k
  have ih0 := fiberpath_GetTrimmedParam.mono_l k
  unfold fiberpath_GetTrimmedParam.f
  repeat' first
      | (with_reducible exact ih0 _ _ _ _)
      | (with_reducible exact LeO.refl _)
      | (with_reducible exact LeO.none _)
      | (with_reducible refine LeO.ite ?_ ?_)
      | (with_reducible refine LeO.bind ?_ (fun _ => ?_))
      | exact ih0 _ _ _ _
      | exact LeO.none _
      | refine LeO.ite ?_ ?_
      | refine LeO.bind ?_ (fun _ => ?_)
set_option maxHeartbeats 8000000 in
set_option maxRecDepth 100000 in
theorem fiberpath_GetTrimmedParam.calls (k : Nat) (a0 : ByteArray) (r : ByteArray) (w : World) (h : fiberpath_GetTrimmedParam.f k a0 = some r) :
    Calls Try.prog 45 #[.string a0] w fun e w' => e = .returned (.string r) ∧ Drawn0 w w' := by
  have H : (if (a0.size : Int) = 0 then (fiberpath_GetTrimmedParam.j0 k a0 0 (a0.size : Int) true) else (if 0 < (a0.size : Int) then (fiberpath_GetTrimmedParam.j0 k a0 0 (a0.size : Int) ((bt a0 0) != 58)) else (none))) = some r := h
  clear h
  have HC2 := Aside0.mk H
  clear H
  go_enter Try.func45, Try.ntmps45
  go_upto_region 3 with (fail)
  go_cut [14] (fun v14 wc => ∃ (kq : Nat) (x14_1 : Bool), v14 = .bool x14_1 ∧ Aside0 (fiberpath_GetTrimmedParam.j0 kq a0 0 (a0.size : Int) x14_1 = some r) ∧ Aside0 (kq ≤ k) ∧ Drawn0 w wc)
  case first =>
    have H := HC2.out
    clear HC2
    by_cases c3 : (a0.size : Int) = 0
    · rw [if_pos c3] at H
      have c3b0 : ((a0.size : Int) == 0) = true := beq_iff_eq.mpr c3
      have c3b1 : ((a0.size : Int) != 0) = false := bne_eq_false_iff_eq.mpr c3
      clear c3
      (first | rw [c3b0] | (simp only [i64_w, i32_w]; rw [c3b0]) | skip)
      have H' := Aside0.mk H
      clear H
      go_wp2
      go_meet
      case rel => exact ⟨_, (true), (by first | rfl | (simp; done) | (simp [*]; done) | (simp [Go.Proofs.YtjmcndbkmknemaaX.isEmpty_ne]; done)), H', ⟨by first | omega | exact Nat.le_refl _⟩, by repeat (first | exact Drawn0.refl _ | apply Drawn0.step)⟩
    · rw [if_neg c3] at H
      have c3b0 : ((a0.size : Int) == 0) = false := beq_eq_false_iff_ne.mpr c3
      have c3b1 : ((a0.size : Int) != 0) = true := bne_iff_ne.mpr c3
      (first | rw [c3b0] | (simp only [i64_w, i32_w]; rw [c3b0]) | skip)
      by_cases c4 : 0 < (a0.size : Int)
      · rw [if_pos c4] at H
        have c4b0 : decide (0 < (a0.size : Int)) = true := decide_eq_true c4
        have c4b1 : decide (0 < a0.size) = true := decide_eq_true (by omega)
        clear c4
        have H' := Aside0.mk H
        clear H
        have p5 : 0 ≤ (0 : Int) := (by omega)
        have q5 : 0 < a0.size := (by have : (0 : Int) < (a0.size : Int) := of_decide_eq_true (by first | (with_reducible assumption) | assumption); omega)
        have hx5 : ∀ h : 0 < a0.size, ((a0[0]'h).toNat : Int) = bt a0 0 := bt_at a0 0
        clear p5
        have qi5 : (0 < (a0.size : Int)) = True := eq_true (of_decide_eq_true (by first | (with_reducible assumption) | assumption))
        replace q5 := eq_true q5
        go_wp2
        go_meet
        case rel => exact ⟨_, (((bt a0 0) != 58)), (by first | rfl | (simp; done) | (simp [*]; done) | (simp [Go.Proofs.YtjmcndbkmknemaaX.isEmpty_ne]; done)), H', ⟨by first | omega | exact Nat.le_refl _⟩, by repeat (first | exact Drawn0.refl _ | apply Drawn0.step)⟩
      · rw [if_neg c4] at H
        exact absurd H (by simp)
  case rest =>
    clear HC2
    try clear p2
    try clear c3
    try clear c3b0
    try clear c3b1
    try clear c4
    try clear c4b0
    try clear c4b1
    try clear p5
    try clear q5
    try clear hx5
    try clear qi5
    try clear p5
    try clear q5
    obtain ⟨kq, x14_1, rfl, HA, HJ1, ⟨mc1, rfl⟩⟩ := hcut
    cases kq with
    | zero => exact absurd HA.out (by simp [fiberpath_GetTrimmedParam.j0])
    | succ kj1 =>
      have H := HA.out
      clear HA
      simp only [fiberpath_GetTrimmedParam.j0] at H
      by_cases c6 : x14_1 = true
      · subst c6
        have H1 : (some a0) = some r := by rw [if_pos rfl] at H; exact H
        clear H
        have H := H1
        clear H1
        obtain rfl := Option.some.inj H
        go_wp2
        go_ret
        exact ⟨by first | rfl | (simp; done) | (simp [*]; done) | (simp [Go.Proofs.YtjmcndbkmknemaaX.isEmpty_ne]; done), by repeat (first | exact Drawn0.refl _ | apply Drawn0.step)⟩
      · replace c6 := Bool.eq_false_iff.mpr c6
        subst c6
        have H1 : (if 0 ≤ (wrap64 ((a0.size : Int) - 1)) then (if (wrap64 ((a0.size : Int) - 1)) < (a0.size : Int) then (if (bt a0 (wrap64 ((a0.size : Int) - 1))) = 63 then (if 0 ≤ (wrap64 (0 + 1)) then (if (wrap64 (0 + 1)) ≤ (wrap64 ((a0.size : Int) - 1)) then (if (wrap64 ((a0.size : Int) - 1)) ≤ (a0.size : Int) then (some (a0.extract ((wrap64 (0 + 1)) : Int).toNat ((wrap64 ((a0.size : Int) - 1)) : Int).toNat)) else (none)) else (none)) else (none)) else (if 0 ≤ (wrap64 (0 + 1)) then (if (wrap64 (0 + 1)) ≤ (a0.size : Int) then (if (a0.size : Int) ≤ (a0.size : Int) then (some (a0.extract ((wrap64 (0 + 1)) : Int).toNat ((a0.size : Int) : Int).toNat)) else (none)) else (none)) else (none))) else (none)) else (none)) = some r := by rw [if_neg (show ¬ (false = true) by decide)] at H; exact H
        clear H
        have H := H1
        clear H1
        obtain ⟨ji7, hji7⟩ : ∃ j_ : Int, (wrap64 ((a0.size : Int) - 1)) = j_ := ⟨_, rfl⟩
        replace H : (if 0 ≤ (ji7) then (if (ji7) < (a0.size : Int) then (if (bt a0 (ji7)) = 63 then (if 0 ≤ (wrap64 (0 + 1)) then (if (wrap64 (0 + 1)) ≤ (ji7) then (if (ji7) ≤ (a0.size : Int) then (some (a0.extract ((wrap64 (0 + 1)) : Int).toNat ((ji7) : Int).toNat)) else (none)) else (none)) else (none)) else (if 0 ≤ (wrap64 (0 + 1)) then (if (wrap64 (0 + 1)) ≤ (a0.size : Int) then (if (a0.size : Int) ≤ (a0.size : Int) then (some (a0.extract ((wrap64 (0 + 1)) : Int).toNat ((a0.size : Int) : Int).toNat)) else (none)) else (none)) else (none))) else (none)) else (none)) = some r := by first | (rw [hji7] at H; exact H) | (simp only [hji7] at H ⊢; exact H)
        have hji7w : (IntKind.i64.wrap ((a0.size : Int) - 1)) = ji7 := (i64_w _).trans hji7
        by_cases c8 : 0 ≤ (ji7)
        · rw [if_pos c8] at H
          have c8b0 : decide (0 ≤ (ji7)) = true := decide_eq_true c8
          clear c8
          by_cases c9 : (ji7) < (a0.size : Int)
          · rw [if_pos c9] at H
            have c9b0 : decide ((ji7) < (a0.size : Int)) = true := decide_eq_true c9
            clear c9
            by_cases c11 : (bt a0 (ji7)) = 63
            · rw [if_pos c11] at H
              have c11b0 : ((bt a0 (ji7)) == 63) = true := beq_iff_eq.mpr c11
              have c11b1 : ((bt a0 (ji7)) != 63) = false := bne_eq_false_iff_eq.mpr c11
              clear c11
              replace H : (if 0 ≤ (1 : Int) then (if (1 : Int) ≤ (ji7) then (if (ji7) ≤ (a0.size : Int) then (some (a0.extract ((1 : Int) : Int).toNat ((ji7) : Int).toNat)) else (none)) else (none)) else (none)) = some r := by rw [show (wrap64 (0 + 1)) = (1 : Int) from by unfold wrap64; omega] at H; exact H
              by_cases c12 : 0 ≤ (1 : Int)
              · rw [if_pos c12] at H
                have c12b0 := eq_true c12
                have c12b1 : decide (0 ≤ (1 : Int)) = true := decide_eq_true c12
                clear c12
                by_cases c13 : (1 : Int) ≤ (ji7)
                · rw [if_pos c13] at H
                  have c13b0 := eq_true c13
                  have c13b1 : decide ((1 : Int) ≤ (ji7)) = true := decide_eq_true c13
                  clear c13
                  by_cases c14 : (ji7) ≤ (a0.size : Int)
                  · rw [if_pos c14] at H
                    have c14b0 := eq_true c14
                    have c14b1 : decide ((ji7) ≤ (a0.size : Int)) = true := decide_eq_true c14
                    clear c14
                    obtain rfl := Option.some.inj H
                    have p10 : 0 ≤ ((ji7) : Int) := of_decide_eq_true (by first | (with_reducible assumption) | assumption)
                    have q10 : (ji7) < (a0.size : Int) := of_decide_eq_true (by first | (with_reducible assumption) | assumption)
                    have hx10 := bt_at a0 (ji7)
                    replace p10 := eq_true p10
                    replace q10 := eq_true q10
                    go_wp2
                    go_ret
                    exact ⟨by first | rfl | (simp; done) | (simp only [← hji7] <;> (first | rfl | simp)) | (simp [*]; done) | (simp [Go.Proofs.YtjmcndbkmknemaaX.isEmpty_ne]; done), by repeat (first | exact Drawn0.refl _ | apply Drawn0.step)⟩
                  · rw [if_neg c14] at H
                    exact absurd H (by simp)
                · rw [if_neg c13] at H
                  exact absurd H (by simp)
              · rw [if_neg c12] at H
                exact absurd H (by simp)
            · rw [if_neg c11] at H
              have c11b0 : ((bt a0 (ji7)) == 63) = false := beq_eq_false_iff_ne.mpr c11
              have c11b1 : ((bt a0 (ji7)) != 63) = true := bne_iff_ne.mpr c11
              replace H : (if 0 ≤ (1 : Int) then (if (1 : Int) ≤ (a0.size : Int) then (if (a0.size : Int) ≤ (a0.size : Int) then (some (a0.extract ((1 : Int) : Int).toNat ((a0.size : Int) : Int).toNat)) else (none)) else (none)) else (none)) = some r := by rw [show (wrap64 (0 + 1)) = (1 : Int) from by unfold wrap64; omega] at H; exact H
              by_cases c15 : 0 ≤ (1 : Int)
              · rw [if_pos c15] at H
                have c15b0 := eq_true c15
                have c15b1 : decide (0 ≤ (1 : Int)) = true := decide_eq_true c15
                clear c15
                by_cases c16 : (1 : Int) ≤ (a0.size : Int)
                · rw [if_pos c16] at H
                  have c16b0 := eq_true c16
                  have c16b1 : decide ((1 : Int) ≤ (a0.size : Int)) = true := decide_eq_true c16
                  clear c16
                  by_cases c17 : (a0.size : Int) ≤ (a0.size : Int)
                  · rw [if_pos c17] at H
                    have c17b0 := eq_true c17
                    have c17b1 : decide ((a0.size : Int) ≤ (a0.size : Int)) = true := decide_eq_true c17
                    clear c17
                    obtain rfl := Option.some.inj H
                    have p10 : 0 ≤ ((ji7) : Int) := of_decide_eq_true (by first | (with_reducible assumption) | assumption)
                    have q10 : (ji7) < (a0.size : Int) := of_decide_eq_true (by first | (with_reducible assumption) | assumption)
                    have hx10 := bt_at a0 (ji7)
                    replace p10 := eq_true p10
                    replace q10 := eq_true q10
                    go_wp2
                    go_ret
                    exact ⟨by first | rfl | (simp; done) | (simp only [← hji7] <;> (first | rfl | simp)) | (simp [*]; done) | (simp [Go.Proofs.YtjmcndbkmknemaaX.isEmpty_ne]; done), by repeat (first | exact Drawn0.refl _ | apply Drawn0.step)⟩
                  · rw [if_neg c17] at H
                    exact absurd H (by simp)
                · rw [if_neg c16] at H
                  exact absurd H (by simp)
              · rw [if_neg c15] at H
                exact absurd H (by simp)
          · rw [if_neg c9] at H
            exact absurd H (by simp)
        · rw [if_neg c8] at H
          exact absurd H (by simp)

/-! ### impl_Trimmed: function 21 -/
def impl_Trimmed.f (k : Nat) (a0 : ByteArray) : Option (ByteArray) := (fiberpath_GetTrimmedParam.f k a0).bind fun t153 => (some t153)
theorem impl_Trimmed.mono : ∀ a0 k, LeO (impl_Trimmed.f k a0) (impl_Trimmed.f (k + 1) a0) := by
  intro a0 k
  unfold impl_Trimmed.f
  repeat' first
      | (with_reducible exact fiberpath_GetTrimmedParam.mono _ _)
      | (with_reducible exact LeO.refl _)
      | (with_reducible exact LeO.none _)
      | (with_reducible refine LeO.ite ?_ ?_)
      | (with_reducible refine LeO.bind ?_ (fun _ => ?_))
      | exact fiberpath_GetTrimmedParam.mono _ _
      | exact LeO.none _
      | refine LeO.ite ?_ ?_
      | refine LeO.bind ?_ (fun _ => ?_)
set_option maxHeartbeats 8000000 in
set_option maxRecDepth 100000 in
theorem impl_Trimmed.calls (k : Nat) (a0 : ByteArray) (r : ByteArray) (w : World) (h : impl_Trimmed.f k a0 = some r) :
    Calls Try.prog 21 #[.string a0] w fun e w' => e = .returned (.string r) ∧ Drawn0 w w' := by
  have H : ((fiberpath_GetTrimmedParam.f k a0).bind fun t153 => (some t153)) = some r := h
  clear h
  replace H := Option.bind_eq_some_iff.mp H
  obtain ⟨t153, A20, H⟩ := H
  replace H : (some t153) = some r := H
  have A2 := Aside0.mk A20
  clear A20
  obtain rfl := Option.some.inj H
  go_enter Try.func21, Try.ntmps21
  go_wp2_with (first | ((with_reducible refine gate_callee (f := 45) rfl ?_); refine goesL_ (some 4) rfl rfl Try.func45 (by kernel_rfl) rfl #[.string a0] rfl (by (try simp only [List.map_toArray, List.map_cons, List.map_nil]); first | done | rfl | (simp only [List.length_drop, List.length_take]; rfl)) ?_; (with_reducible refine (fiberpath_GetTrimmedParam.calls k a0 t153 _ A2.out).mono ?_); rintro e w' ⟨rfl, ⟨nd, rfl⟩⟩; refine ⟨_, rfl, ?_⟩))
  go_ret
  exact ⟨by first | rfl | (simp; done) | (simp [*]; done) | (simp [Go.Proofs.YtjmcndbkmknemaaX.isEmpty_ne]; done), by repeat (first | exact Drawn0.refl _ | apply Drawn0.step)⟩

end Go.Proofs.Ytjmcndbkmknemaa.Q
