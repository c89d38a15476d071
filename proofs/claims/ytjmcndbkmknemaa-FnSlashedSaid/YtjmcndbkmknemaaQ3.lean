-- Written by a program of this session out of the translation, with the kit's printer. Not trusted: Lean checks it.
import Derived.Test.YtjmcndbkmknemaaQ0
namespace Go.Proofs.Ytjmcndbkmknemaa.Q
open Go.RowKit Go.Proofs.YtjmcndbkmknemaaW.PrintWords Go.Proofs.YtjmcndbkmknemaaW.PrintLast Go.Proofs.YtjmcndbkmknemaaW.PrintMore
attribute [local go_sem] max2_int min2_int max_two min_two max_three min_three max_four min_four   -- for this text's walks alone
set_option linter.unusedVariables false
set_option linter.unusedSimpArgs false

/-! ### fiberpath_GetTrimmedParam: function 45 -/
def fiberpath_GetTrimmedParam.j0 : Nat → ByteArray → Int → Int → Bool → Option (ByteArray)
  | 0, _, _, _, _ => none
  | k + 1, x0, x3, x4, x14 => if x14 = true then (some x0) else (if 0 ≤ (wrap64 (x4 - 1)) then (if (wrap64 (x4 - 1)) < (x0.size : Int) then (if (bt x0 (wrap64 (x4 - 1))) = 63 then (if 0 ≤ (wrap64 (x3 + 1)) then (if (wrap64 (x3 + 1)) ≤ (wrap64 (x4 - 1)) then (if (wrap64 (x4 - 1)) ≤ (x0.size : Int) then (some (x0.extract ((wrap64 (x3 + 1)) : Int).toNat ((wrap64 (x4 - 1)) : Int).toNat)) else (none)) else (none)) else (none)) else (if 0 ≤ (wrap64 (x3 + 1)) then (if (wrap64 (x3 + 1)) ≤ x4 then (if x4 ≤ (x0.size : Int) then (some (x0.extract ((wrap64 (x3 + 1)) : Int).toNat (x4 : Int).toNat)) else (none)) else (none)) else (none))) else (none)) else (none))
def fiberpath_GetTrimmedParam.f (k : Nat) (a0 : ByteArray) : Option (ByteArray) := if (a0.size : Int) = 0 then (fiberpath_GetTrimmedParam.j0 k a0 0 (a0.size : Int) true) else (if 0 < (a0.size : Int) then (fiberpath_GetTrimmedParam.j0 k a0 0 (a0.size : Int) ((bt a0 0) != 58)) else (none))
theorem fiberpath_GetTrimmedParam.mono_l : ∀ k, (∀ y0 y1 y2 y3, LeO (fiberpath_GetTrimmedParam.j0 k y0 y1 y2 y3) (fiberpath_GetTrimmedParam.j0 (k + 1) y0 y1 y2 y3))
  | 0 => fun _ _ _ _ r h => by simp [fiberpath_GetTrimmedParam.j0] at h
  | k + 1 => by
    have ih0 := fiberpath_GetTrimmedParam.mono_l k
    · intro y0 y1 y2 y3
      unfold fiberpath_GetTrimmedParam.j0
      repeat' first
      | (with_reducible exact ih0 _ _ _ _)
      | (with_reducible exact LeO.refl _)
      | (with_reducible exact LeO.none _)
      | (with_reducible refine LeO.ite ?_ ?_)
      | (with_reducible refine LeO.bind ?_ (fun _ => ?_))
      | exact ih0 _ _ _ _
      | exact LeO.none _
      | refine LeO.ite ?_ ?_
      | refine LeO.bind ?_ (fun _ => ?_)
theorem fiberpath_GetTrimmedParam.mono : ∀ a0 k, LeO (fiberpath_GetTrimmedParam.f k a0) (fiberpath_GetTrimmedParam.f (k + 1) a0) := by
  intro a0 k
  have ih0 := fiberpath_GetTrimmedParam.mono_l k
  unfold fiberpath_GetTrimmedParam.f
  repeat' first
      | (with_reducible exact ih0 _ _ _ _)
      | (with_reducible exact LeO.refl _)
      | (with_reducible exact LeO.none _)
      | (with_reducible refine LeO.ite ?_ ?_)
      | (with_reducible refine LeO.bind ?_ (fun _ => ?_))
      | exact ih0 _ _ _ _
      | exact LeO.none _
      | refine LeO.ite ?_ ?_
      | refine LeO.bind ?_ (fun _ => ?_)
set_option maxHeartbeats 8000000 in
set_option maxRecDepth 100000 in
theorem fiberpath_GetTrimmedParam.calls (k : Nat) (a0 : ByteArray) (r : ByteArray) (w : World) (h : fiberpath_GetTrimmedParam.f k a0 = some r) :
    Calls Try.prog 45 #[.string a0] w fun e w' => e = .returned (.string r) ∧ Drawn0 w w' := by
  have H : (if (a0.size : Int) = 0 then (fiberpath_GetTrimmedParam.j0 k a0 0 (a0.size : Int) true) else (if 0 < (a0.size : Int) then (fiberpath_GetTrimmedParam.j0 k a0 0 (a0.size : Int) ((bt a0 0) != 58)) else (none))) = some r := h
  clear h
  have HC2 := Aside0.mk H
  clear H
  go_enter Try.func45, Try.ntmps45
  go_upto_region 3 with (fail)
  go_cut [14] (fun v14 wc => ∃ (kq : Nat) (x14_1 : Bool), v14 = .bool x14_1 ∧ Aside0 (fiberpath_GetTrimmedParam.j0 kq a0 0 (a0.size : Int) x14_1 = some r) ∧ Aside0 (kq ≤ k) ∧ Drawn0 w wc)
  case first =>
    have H := HC2.out
    clear HC2
    by_cases c3 : (a0.size : Int) = 0
    · rw [if_pos c3] at H
      have c3b0 : ((a0.size : Int) == 0) = true := beq_iff_eq.mpr c3
      have c3b1 : ((a0.size : Int) != 0) = false := bne_eq_false_iff_eq.mpr c3
      clear c3
      (first | rw [c3b0] | (simp only [i64_w, i32_w]; rw [c3b0]) | skip)
      have H' := Aside0.mk H
      clear H
      go_wp2
      go_meet
      case rel => exact ⟨_, (true), (by first | rfl | (simp; done) | (simp [*]; done) | (simp [Go.Proofs.YtjmcndbkmknemaaX.isEmpty_ne]; done)), H', ⟨by first | omega | exact Nat.le_refl _⟩, by repeat (first | exact Drawn0.refl _ | apply Drawn0.step)⟩
    · rw [if_neg c3] at H
      have c3b0 : ((a0.size : Int) == 0) = false := beq_eq_false_iff_ne.mpr c3
      have c3b1 : ((a0.size : Int) != 0) = true := bne_iff_ne.mpr c3
      (first | rw [c3b0] | (simp only [i64_w, i32_w]; rw [c3b0]) | skip)
      by_cases c4 : 0 < (a0.size : Int)
      · rw [if_pos c4] at H
        have c4b0 : decide (0 < (a0.size : Int)) = true := decide_eq_true c4
        have c4b1 : decide (0 < a0.size) = true := decide_eq_true (by omega)
        clear c4
        have H' := Aside0.mk H
        clear H
        have p5 : 0 ≤ (0 : Int) := (by omega)
        have q5 : 0 < a0.size := (by have : (0 : Int) < (a0.size : Int) := of_decide_eq_true (by first | (with_reducible assumption) | assumption); omega)
        have hx5 : ∀ h : 0 < a0.size, ((a0[0]'h).toNat : Int) = bt a0 0 := bt_at a0 0
        clear p5
        have qi5 : (0 < (a0.size : Int)) = True := eq_true (of_decide_eq_true (by first | (with_reducible assumption) | assumption))
        replace q5 := eq_true q5
        go_wp2
        go_meet
        case rel => exact ⟨_, (((bt a0 0) != 58)), (by first | rfl | (simp; done) | (simp [*]; done) | (simp [Go.Proofs.YtjmcndbkmknemaaX.isEmpty_ne]; done)), H', ⟨by first | omega | exact Nat.le_refl _⟩, by repeat (first | exact Drawn0.refl _ | apply Drawn0.step)⟩
      · rw [if_neg c4] at H
        exact absurd H (by simp)
  case rest =>
    clear HC2
    try clear p2
    try clear c3
    try clear c3b0
    try clear c3b1
    try clear c4
    try clear c4b0
    try clear c4b1
    try clear p5
    try clear q5
    try clear hx5
    try clear qi5
    try clear p5
    try clear q5
    obtain ⟨kq, x14_1, rfl, HA, HJ1, ⟨mc1, rfl⟩⟩ := hcut
    cases kq with
    | zero => exact absurd HA.out (by simp [fiberpath_GetTrimmedParam.j0])
    | succ kj1 =>
      have H := HA.out
      clear HA
      simp only [fiberpath_GetTrimmedParam.j0] at H
      by_cases c6 : x14_1 = true
      · subst c6
        have H1 : (some a0) = some r := by rw [if_pos rfl] at H; exact H
        clear H
        have H := H1
        clear H1
        obtain rfl := Option.some.inj H
        go_wp2
        go_ret
        exact ⟨by first | rfl | (simp; done) | (simp [*]; done) | (simp [Go.Proofs.YtjmcndbkmknemaaX.isEmpty_ne]; done), by repeat (first | exact Drawn0.refl _ | apply Drawn0.step)⟩
      · replace c6 := Bool.eq_false_iff.mpr c6
        subst c6
        have H1 : (if 0 ≤ (wrap64 ((a0.size : Int) - 1)) then (if (wrap64 ((a0.size : Int) - 1)) < (a0.size : Int) then (if (bt a0 (wrap64 ((a0.size : Int) - 1))) = 63 then (if 0 ≤ (wrap64 (0 + 1)) then (if (wrap64 (0 + 1)) ≤ (wrap64 ((a0.size : Int) - 1)) then (if (wrap64 ((a0.size : Int) - 1)) ≤ (a0.size : Int) then (some (a0.extract ((wrap64 (0 + 1)) : Int).toNat ((wrap64 ((a0.size : Int) - 1)) : Int).toNat)) else (none)) else (none)) else (none)) else (if 0 ≤ (wrap64 (0 + 1)) then (if (wrap64 (0 + 1)) ≤ (a0.size : Int) then (if (a0.size : Int) ≤ (a0.size : Int) then (some (a0.extract ((wrap64 (0 + 1)) : Int).toNat ((a0.size : Int) : Int).toNat)) else (none)) else (none)) else (none))) else (none)) else (none)) = some r := by rw [if_neg (show ¬ (false = true) by decide)] at H; exact H
        clear H
        have H := H1
        clear H1
        obtain ⟨ji7, hji7⟩ : ∃ j_ : Int, (wrap64 ((a0.size : Int) - 1)) = j_ := ⟨_, rfl⟩
        replace H : (if 0 ≤ (ji7) then (if (ji7) < (a0.size : Int) then (if (bt a0 (ji7)) = 63 then (if 0 ≤ (wrap64 (0 + 1)) then (if (wrap64 (0 + 1)) ≤ (ji7) then (if (ji7) ≤ (a0.size : Int) then (some (a0.extract ((wrap64 (0 + 1)) : Int).toNat ((ji7) : Int).toNat)) else (none)) else (none)) else (none)) else (if 0 ≤ (wrap64 (0 + 1)) then (if (wrap64 (0 + 1)) ≤ (a0.size : Int) then (if (a0.size : Int) ≤ (a0.size : Int) then (some (a0.extract ((wrap64 (0 + 1)) : Int).toNat ((a0.size : Int) : Int).toNat)) else (none)) else (none)) else (none))) else (none)) else (none)) = some r := by first | (rw [hji7] at H; exact H) | (simp only [hji7] at H ⊢; exact H)
        have hji7w : (IntKind.i64.wrap ((a0.size : Int) - 1)) = ji7 := (i64_w _).trans hji7
        by_cases c8 : 0 ≤ (ji7)
        · rw [if_pos c8] at H
          have c8b0 : decide (0 ≤ (ji7)) = true := decide_eq_true c8
          clear c8
          by_cases c9 : (ji7) < (a0.size : Int)
          · rw [if_pos c9] at H
            have c9b0 : decide ((ji7) < (a0.size : Int)) = true := decide_eq_true c9
            clear c9
            by_cases c11 : (bt a0 (ji7)) = 63
            · rw [if_pos c11] at H
              have c11b0 : ((bt a0 (ji7)) == 63) = true := beq_iff_eq.mpr c11
              have c11b1 : ((bt a0 (ji7)) != 63) = false := bne_eq_false_iff_eq.mpr c11
              clear c11
              replace H : (if 0 ≤ (1 : Int) then (if (1 : Int) ≤ (ji7) then (if (ji7) ≤ (a0.size : Int) then (some (a0.extract ((1 : Int) : Int).toNat ((ji7) : Int).toNat)) else (none)) else (none)) else (none)) = some r := by rw [show (wrap64 (0 + 1)) = (1 : Int) from by unfold wrap64; omega] at H; exact H
              by_cases c12 : 0 ≤ (1 : Int)
              · rw [if_pos c12] at H
                have c12b0 := eq_true c12
                have c12b1 : decide (0 ≤ (1 : Int)) = true := decide_eq_true c12
                clear c12
                by_cases c13 : (1 : Int) ≤ (ji7)
                · rw [if_pos c13] at H
                  have c13b0 := eq_true c13
                  have c13b1 : decide ((1 : Int) ≤ (ji7)) = true := decide_eq_true c13
                  clear c13
                  by_cases c14 : (ji7) ≤ (a0.size : Int)
                  · rw [if_pos c14] at H
                    have c14b0 := eq_true c14
                    have c14b1 : decide ((ji7) ≤ (a0.size : Int)) = true := decide_eq_true c14
                    clear c14
                    obtain rfl := Option.some.inj H
                    have p10 : 0 ≤ ((ji7) : Int) := of_decide_eq_true (by first | (with_reducible assumption) | assumption)
                    have q10 : (ji7) < (a0.size : Int) := of_decide_eq_true (by first | (with_reducible assumption) | assumption)
                    have hx10 := bt_at a0 (ji7)
                    replace p10 := eq_true p10
                    replace q10 := eq_true q10
                    go_wp2
                    go_ret
                    exact ⟨by first | rfl | (simp; done) | (simp only [← hji7] <;> (first | rfl | simp)) | (simp [*]; done) | (simp [Go.Proofs.YtjmcndbkmknemaaX.isEmpty_ne]; done), by repeat (first | exact Drawn0.refl _ | apply Drawn0.step)⟩
                  · rw [if_neg c14] at H
                    exact absurd H (by simp)
                · rw [if_neg c13] at H
                  exact absurd H (by simp)
              · rw [if_neg c12] at H
                exact absurd H (by simp)
            · rw [if_neg c11] at H
              have c11b0 : ((bt a0 (ji7)) == 63) = false := beq_eq_false_iff_ne.mpr c11
              have c11b1 : ((bt a0 (ji7)) != 63) = true := bne_iff_ne.mpr c11
              replace H : (if 0 ≤ (1 : Int) then (if (1 : Int) ≤ (a0.size : Int) then (if (a0.size : Int) ≤ (a0.size : Int) then (some (a0.extract ((1 : Int) : Int).toNat ((a0.size : Int) : Int).toNat)) else (none)) else (none)) else (none)) = some r := by rw [show (wrap64 (0 + 1)) = (1 : Int) from by unfold wrap64; omega] at H; exact H
              by_cases c15 : 0 ≤ (1 : Int)
              · rw [if_pos c15] at H
                have c15b0 := eq_true c15
                have c15b1 : decide (0 ≤ (1 : Int)) = true := decide_eq_true c15
                clear c15
                by_cases c16 : (1 : Int) ≤ (a0.size : Int)
                · rw [if_pos c16] at H
                  have c16b0 := eq_true c16
                  have c16b1 : decide ((1 : Int) ≤ (a0.size : Int)) = true := decide_eq_true c16
                  clear c16
                  by_cases c17 : (a0.size : Int) ≤ (a0.size : Int)
                  · rw [if_pos c17] at H
                    have c17b0 := eq_true c17
                    have c17b1 : decide ((a0.size : Int) ≤ (a0.size : Int)) = true := decide_eq_true c17
                    clear c17
                    obtain rfl := Option.some.inj H
                    have p10 : 0 ≤ ((ji7) : Int) := of_decide_eq_true (by first | (with_reducible assumption) | assumption)
                    have q10 : (ji7) < (a0.size : Int) := of_decide_eq_true (by first | (with_reducible assumption) | assumption)
                    have hx10 := bt_at a0 (ji7)
                    replace p10 := eq_true p10
                    replace q10 := eq_true q10
                    go_wp2
                    go_ret
                    exact ⟨by first | rfl | (simp; done) | (simp only [← hji7] <;> (first | rfl | simp)) | (simp [*]; done) | (simp [Go.Proofs.YtjmcndbkmknemaaX.isEmpty_ne]; done), by repeat (first | exact Drawn0.refl _ | apply Drawn0.step)⟩
                  · rw [if_neg c17] at H
                    exact absurd H (by simp)
                · rw [if_neg c16] at H
                  exact absurd H (by simp)
              · rw [if_neg c15] at H
                exact absurd H (by simp)
          · rw [if_neg c9] at H
            exact absurd H (by simp)
        · rw [if_neg c8] at H
          exact absurd H (by simp)

/-! ### impl_Trimmed: function 21 -/
def impl_Trimmed.f (k : Nat) (a0 : ByteArray) : Option (ByteArray) := (fiberpath_GetTrimmedParam.f k a0).bind fun t153 => (some t153)
theorem impl_Trimmed.mono : ∀ a0 k, LeO (impl_Trimmed.f k a0) (impl_Trimmed.f (k + 1) a0) := by
  intro a0 k
  unfold impl_Trimmed.f
  repeat' first
      | (with_reducible exact fiberpath_GetTrimmedParam.mono _ _)
      | (with_reducible exact LeO.refl _)
      | (with_reducible exact LeO.none _)
      | (with_reducible refine LeO.ite ?_ ?_)
      | (with_reducible refine LeO.bind ?_ (fun _ => ?_))
      | exact fiberpath_GetTrimmedParam.mono _ _
      | exact LeO.none _
      | refine LeO.ite ?_ ?_
      | refine LeO.bind ?_ (fun _ => ?_)
set_option maxHeartbeats 8000000 in
set_option maxRecDepth 100000 in
theorem impl_Trimmed.calls (k : Nat) (a0 : ByteArray) (r : ByteArray) (w : World) (h : impl_Trimmed.f k a0 = some r) :
    Calls Try.prog 21 #[.string a0] w fun e w' => e = .returned (.string r) ∧ Drawn0 w w' := by
  have H : ((fiberpath_GetTrimmedParam.f k a0).bind fun t153 => (some t153)) = some r := h
  clear h
  replace H := Option.bind_eq_some_iff.mp H
  obtain ⟨t153, A20, H⟩ := H
  replace H : (some t153) = some r := H
  have A2 := Aside0.mk A20
  clear A20
  obtain rfl := Option.some.inj H
  go_enter Try.func21, Try.ntmps21
  go_wp2_with (first | ((with_reducible refine gate_callee (f := 45) rfl ?_); refine goesL_ (some 4) rfl rfl Try.func45 (by kernel_rfl) rfl #[.string a0] rfl (by (try simp only [List.map_toArray, List.map_cons, List.map_nil]); first | done | rfl | (simp only [List.length_drop, List.length_take]; rfl)) ?_; (with_reducible refine (fiberpath_GetTrimmedParam.calls k a0 t153 _ A2.out).mono ?_); rintro e w' ⟨rfl, ⟨nd, rfl⟩⟩; refine ⟨_, rfl, ?_⟩))
  go_ret
  exact ⟨by first | rfl | (simp; done) | (simp [*]; done) | (simp [Go.Proofs.YtjmcndbkmknemaaX.isEmpty_ne]; done), by repeat (first | exact Drawn0.refl _ | apply Drawn0.step)⟩

/-! ### laws_word: function 22 -/
def laws_word.l0 : Nat → ByteArray → Int → Int → Option (Bool)
  | 0, _, _, _ => none
  | k + 1, x0, x6, x7 => if x7 < x6 then (if 0 ≤ x7 then (if x7 < (x0.size : Int) then (if (Go.bits .or .u8 (bt x0 x7) 32) < 97 then (if (bt x0 x7) < 48 then (some false) else (if (bt x0 x7) > 57 then (some false) else (laws_word.l0 k x0 x6 (wrap64 (x7 + 1))))) else (if (Go.bits .or .u8 (bt x0 x7) 32) > 122 then (if (bt x0 x7) < 48 then (some false) else (if (bt x0 x7) > 57 then (some false) else (laws_word.l0 k x0 x6 (wrap64 (x7 + 1))))) else (laws_word.l0 k x0 x6 (wrap64 (x7 + 1))))) else (none)) else (none)) else (some (x0.toList != ([] : List UInt8)))
def laws_word.f (k : Nat) (a0 : ByteArray) : Option (Bool) := laws_word.l0 k a0 (a0.size : Int) 0
theorem laws_word.mono_l : ∀ k, (∀ y0 y1 y2, LeO (laws_word.l0 k y0 y1 y2) (laws_word.l0 (k + 1) y0 y1 y2))
  | 0 => fun _ _ _ r h => by simp [laws_word.l0] at h
  | k + 1 => by
    have ih0 := laws_word.mono_l k
    · intro y0 y1 y2
      unfold laws_word.l0
      repeat' first
      | (with_reducible exact ih0 _ _ _)
      | (with_reducible exact LeO.refl _)
      | (with_reducible exact LeO.none _)
      | (with_reducible refine LeO.ite ?_ ?_)
      | (with_reducible refine LeO.bind ?_ (fun _ => ?_))
      | exact ih0 _ _ _
      | exact LeO.none _
      | refine LeO.ite ?_ ?_
      | refine LeO.bind ?_ (fun _ => ?_)
theorem laws_word.mono : ∀ a0 k, LeO (laws_word.f k a0) (laws_word.f (k + 1) a0) := by
  intro a0 k
  have ih0 := laws_word.mono_l k
  unfold laws_word.f
  repeat' first
      | (with_reducible exact ih0 _ _ _)
      | (with_reducible exact LeO.refl _)
      | (with_reducible exact LeO.none _)
      | (with_reducible refine LeO.ite ?_ ?_)
      | (with_reducible refine LeO.bind ?_ (fun _ => ?_))
      | exact ih0 _ _ _
      | exact LeO.none _
      | refine LeO.ite ?_ ?_
      | refine LeO.bind ?_ (fun _ => ?_)
set_option maxHeartbeats 8000000 in
set_option maxRecDepth 100000 in
theorem laws_word.calls (k : Nat) (a0 : ByteArray) (r : Bool) (w : World) (h : laws_word.f k a0 = some r) :
    Calls Try.prog 22 #[.string a0] w fun e w' => e = .returned (.bool r) ∧ Drawn0 w w' := by
  have H : (laws_word.l0 k a0 (a0.size : Int) 0) = some r := h
  clear h
  have H' := Aside0.mk H
  clear H
  go_enter Try.func22, Try.ntmps22
  go_wp2
  go_loopg [7] k (fun kq v7 w' => ∃ (x7_1 : Int), v7 = .int .i64 x7_1 ∧ Aside0 (laws_word.l0 kq a0 (a0.size : Int) x7_1 = some r) ∧ Aside0 (kq ≤ k) ∧ Drawn0 w w')
  case atStart => exact ⟨(0), (by first | rfl | (simp; done) | (simp [*]; done) | (simp [Go.Proofs.YtjmcndbkmknemaaX.isEmpty_ne]; done)), H', ⟨Nat.le_refl _⟩, by repeat (first | exact Drawn0.refl _ | apply Drawn0.step)⟩
  case round =>
    clear H'
    obtain ⟨x7_1, rfl, HA, HK1, ⟨m1, rfl⟩⟩ := hrel
    cases gk with
    | zero => exact absurd HA.out (by simp [laws_word.l0])
    | succ k1 =>
      have H := HA.out
      clear HA
      simp only [laws_word.l0] at H
      by_cases c2 : x7_1 < (a0.size : Int)
      · rw [if_pos c2] at H
        have c2b0 : decide (x7_1 < (a0.size : Int)) = true := decide_eq_true c2
        clear c2
        by_cases c3 : 0 ≤ x7_1
        · rw [if_pos c3] at H
          have c3b0 : decide (0 ≤ x7_1) = true := decide_eq_true c3
          clear c3
          by_cases c4 : x7_1 < (a0.size : Int)
          · rw [if_pos c4] at H
            have c4b0 : decide (x7_1 < (a0.size : Int)) = true := decide_eq_true c4
            clear c4
            by_cases c6 : (Go.bits .or .u8 (bt a0 x7_1) 32) < 97
            · rw [if_pos c6] at H
              have c6b0 : decide ((Go.bits .or .u8 (bt a0 x7_1) 32) < 97) = true := decide_eq_true c6
              clear c6
              by_cases c8 : (bt a0 x7_1) < 48
              · rw [if_pos c8] at H
                have c8b0 : decide ((bt a0 x7_1) < 48) = true := decide_eq_true c8
                clear c8
                obtain rfl := Option.some.inj H
                have p5 : 0 ≤ (x7_1 : Int) := of_decide_eq_true (by first | (with_reducible assumption) | assumption)
                have q5 : x7_1 < (a0.size : Int) := of_decide_eq_true (by first | (with_reducible assumption) | assumption)
                have hx5 := bt_at a0 x7_1
                replace p5 := eq_true p5
                replace q5 := eq_true q5
                have p7 : 0 ≤ (x7_1 : Int) := of_decide_eq_true (by first | (with_reducible assumption) | assumption)
                have q7 : x7_1 < (a0.size : Int) := of_decide_eq_true (by first | (with_reducible assumption) | assumption)
                have hx7 := bt_at a0 x7_1
                replace p7 := eq_true p7
                replace q7 := eq_true q7
                go_wp2
                go_ret
                exact ⟨by first | rfl | (simp; done) | (simp [*]; done) | (simp [Go.Proofs.YtjmcndbkmknemaaX.isEmpty_ne]; done), by repeat (first | exact Drawn0.refl _ | apply Drawn0.step)⟩
              · rw [if_neg c8] at H
                have c8b0 : decide ((bt a0 x7_1) < 48) = false := decide_eq_false c8
                clear c8
                by_cases c10 : (bt a0 x7_1) > 57
                · rw [if_pos c10] at H
                  have c10b0 : decide (57 < (bt a0 x7_1)) = true := decide_eq_true c10
                  clear c10
                  obtain rfl := Option.some.inj H
                  have p5 : 0 ≤ (x7_1 : Int) := of_decide_eq_true (by first | (with_reducible assumption) | assumption)
                  have q5 : x7_1 < (a0.size : Int) := of_decide_eq_true (by first | (with_reducible assumption) | assumption)
                  have hx5 := bt_at a0 x7_1
                  replace p5 := eq_true p5
                  replace q5 := eq_true q5
                  have p7 : 0 ≤ (x7_1 : Int) := of_decide_eq_true (by first | (with_reducible assumption) | assumption)
                  have q7 : x7_1 < (a0.size : Int) := of_decide_eq_true (by first | (with_reducible assumption) | assumption)
                  have hx7 := bt_at a0 x7_1
                  replace p7 := eq_true p7
                  replace q7 := eq_true q7
                  have p9 : 0 ≤ (x7_1 : Int) := of_decide_eq_true (by first | (with_reducible assumption) | assumption)
                  have q9 : x7_1 < (a0.size : Int) := of_decide_eq_true (by first | (with_reducible assumption) | assumption)
                  have hx9 := bt_at a0 x7_1
                  replace p9 := eq_true p9
                  replace q9 := eq_true q9
                  go_wp2
                  go_ret
                  exact ⟨by first | rfl | (simp; done) | (simp [*]; done) | (simp [Go.Proofs.YtjmcndbkmknemaaX.isEmpty_ne]; done), by repeat (first | exact Drawn0.refl _ | apply Drawn0.step)⟩
                · rw [if_neg c10] at H
                  have c10b0 : decide (57 < (bt a0 x7_1)) = false := decide_eq_false c10
                  clear c10
                  have H' := Aside0.mk H
                  clear H
                  have p5 : 0 ≤ (x7_1 : Int) := of_decide_eq_true (by first | (with_reducible assumption) | assumption)
                  have q5 : x7_1 < (a0.size : Int) := of_decide_eq_true (by first | (with_reducible assumption) | assumption)
                  have hx5 := bt_at a0 x7_1
                  replace p5 := eq_true p5
                  replace q5 := eq_true q5
                  have p7 : 0 ≤ (x7_1 : Int) := of_decide_eq_true (by first | (with_reducible assumption) | assumption)
                  have q7 : x7_1 < (a0.size : Int) := of_decide_eq_true (by first | (with_reducible assumption) | assumption)
                  have hx7 := bt_at a0 x7_1
                  replace p7 := eq_true p7
                  replace q7 := eq_true q7
                  have p9 : 0 ≤ (x7_1 : Int) := of_decide_eq_true (by first | (with_reducible assumption) | assumption)
                  have q9 : x7_1 < (a0.size : Int) := of_decide_eq_true (by first | (with_reducible assumption) | assumption)
                  have hx9 := bt_at a0 x7_1
                  replace p9 := eq_true p9
                  replace q9 := eq_true q9
                  go_wp2
                  go_roundg k1
                  case measure => have := HK1.out; omega
                  case rel => exact ⟨(wrap64 (x7_1 + 1)), (by first | rfl | (simp; done) | (simp [*]; done) | (simp [Go.Proofs.YtjmcndbkmknemaaX.isEmpty_ne]; done)), H', ⟨by have := HK1.out; omega⟩, by repeat (first | exact Drawn0.refl _ | apply Drawn0.step)⟩
            · rw [if_neg c6] at H
              have c6b0 : decide ((Go.bits .or .u8 (bt a0 x7_1) 32) < 97) = false := decide_eq_false c6
              clear c6
              by_cases c11 : (Go.bits .or .u8 (bt a0 x7_1) 32) > 122
              · rw [if_pos c11] at H
                have c11b0 : decide (122 < (Go.bits .or .u8 (bt a0 x7_1) 32)) = true := decide_eq_true c11
                clear c11
                by_cases c13 : (bt a0 x7_1) < 48
                · rw [if_pos c13] at H
                  have c13b0 : decide ((bt a0 x7_1) < 48) = true := decide_eq_true c13
                  clear c13
                  obtain rfl := Option.some.inj H
                  have p5 : 0 ≤ (x7_1 : Int) := of_decide_eq_true (by first | (with_reducible assumption) | assumption)
                  have q5 : x7_1 < (a0.size : Int) := of_decide_eq_true (by first | (with_reducible assumption) | assumption)
                  have hx5 := bt_at a0 x7_1
                  replace p5 := eq_true p5
                  replace q5 := eq_true q5
                  have p12 : 0 ≤ (x7_1 : Int) := of_decide_eq_true (by first | (with_reducible assumption) | assumption)
                  have q12 : x7_1 < (a0.size : Int) := of_decide_eq_true (by first | (with_reducible assumption) | assumption)
                  have hx12 := bt_at a0 x7_1
                  replace p12 := eq_true p12
                  replace q12 := eq_true q12
                  go_wp2
                  go_ret
                  exact ⟨by first | rfl | (simp; done) | (simp [*]; done) | (simp [Go.Proofs.YtjmcndbkmknemaaX.isEmpty_ne]; done), by repeat (first | exact Drawn0.refl _ | apply Drawn0.step)⟩
                · rw [if_neg c13] at H
                  have c13b0 : decide ((bt a0 x7_1) < 48) = false := decide_eq_false c13
                  clear c13
                  by_cases c15 : (bt a0 x7_1) > 57
                  · rw [if_pos c15] at H
                    have c15b0 : decide (57 < (bt a0 x7_1)) = true := decide_eq_true c15
                    clear c15
                    obtain rfl := Option.some.inj H
                    have p5 : 0 ≤ (x7_1 : Int) := of_decide_eq_true (by first | (with_reducible assumption) | assumption)
                    have q5 : x7_1 < (a0.size : Int) := of_decide_eq_true (by first | (with_reducible assumption) | assumption)
                    have hx5 := bt_at a0 x7_1
                    replace p5 := eq_true p5
                    replace q5 := eq_true q5
                    have p12 : 0 ≤ (x7_1 : Int) := of_decide_eq_true (by first | (with_reducible assumption) | assumption)
                    have q12 : x7_1 < (a0.size : Int) := of_decide_eq_true (by first | (with_reducible assumption) | assumption)
                    have hx12 := bt_at a0 x7_1
                    replace p12 := eq_true p12
                    replace q12 := eq_true q12
                    have p14 : 0 ≤ (x7_1 : Int) := of_decide_eq_true (by first | (with_reducible assumption) | assumption)
                    have q14 : x7_1 < (a0.size : Int) := of_decide_eq_true (by first | (with_reducible assumption) | assumption)
                    have hx14 := bt_at a0 x7_1
                    replace p14 := eq_true p14
                    replace q14 := eq_true q14
                    go_wp2
                    go_ret
                    exact ⟨by first | rfl | (simp; done) | (simp [*]; done) | (simp [Go.Proofs.YtjmcndbkmknemaaX.isEmpty_ne]; done), by repeat (first | exact Drawn0.refl _ | apply Drawn0.step)⟩
                  · rw [if_neg c15] at H
                    have c15b0 : decide (57 < (bt a0 x7_1)) = false := decide_eq_false c15
                    clear c15
                    have H' := Aside0.mk H
                    clear H
                    have p5 : 0 ≤ (x7_1 : Int) := of_decide_eq_true (by first | (with_reducible assumption) | assumption)
                    have q5 : x7_1 < (a0.size : Int) := of_decide_eq_true (by first | (with_reducible assumption) | assumption)
                    have hx5 := bt_at a0 x7_1
                    replace p5 := eq_true p5
                    replace q5 := eq_true q5
                    have p12 : 0 ≤ (x7_1 : Int) := of_decide_eq_true (by first | (with_reducible assumption) | assumption)
                    have q12 : x7_1 < (a0.size : Int) := of_decide_eq_true (by first | (with_reducible assumption) | assumption)
                    have hx12 := bt_at a0 x7_1
                    replace p12 := eq_true p12
                    replace q12 := eq_true q12
                    have p14 : 0 ≤ (x7_1 : Int) := of_decide_eq_true (by first | (with_reducible assumption) | assumption)
                    have q14 : x7_1 < (a0.size : Int) := of_decide_eq_true (by first | (with_reducible assumption) | assumption)
                    have hx14 := bt_at a0 x7_1
                    replace p14 := eq_true p14
                    replace q14 := eq_true q14
                    go_wp2
                    go_roundg k1
                    case measure => have := HK1.out; omega
                    case rel => exact ⟨(wrap64 (x7_1 + 1)), (by first | rfl | (simp; done) | (simp [*]; done) | (simp [Go.Proofs.YtjmcndbkmknemaaX.isEmpty_ne]; done)), H', ⟨by have := HK1.out; omega⟩, by repeat (first | exact Drawn0.refl _ | apply Drawn0.step)⟩
              · rw [if_neg c11] at H
                have c11b0 : decide (122 < (Go.bits .or .u8 (bt a0 x7_1) 32)) = false := decide_eq_false c11
                clear c11
                have H' := Aside0.mk H
                clear H
                have p5 : 0 ≤ (x7_1 : Int) := of_decide_eq_true (by first | (with_reducible assumption) | assumption)
                have q5 : x7_1 < (a0.size : Int) := of_decide_eq_true (by first | (with_reducible assumption) | assumption)
                have hx5 := bt_at a0 x7_1
                replace p5 := eq_true p5
                replace q5 := eq_true q5
                go_wp2
                go_roundg k1
                case measure => have := HK1.out; omega
                case rel => exact ⟨(wrap64 (x7_1 + 1)), (by first | rfl | (simp; done) | (simp [*]; done) | (simp [Go.Proofs.YtjmcndbkmknemaaX.isEmpty_ne]; done)), H', ⟨by have := HK1.out; omega⟩, by repeat (first | exact Drawn0.refl _ | apply Drawn0.step)⟩
          · rw [if_neg c4] at H
            exact absurd H (by simp)
        · rw [if_neg c3] at H
          exact absurd H (by simp)
      · rw [if_neg c2] at H
        have c2b0 : decide (x7_1 < (a0.size : Int)) = false := decide_eq_false c2
        clear c2
        obtain rfl := Option.some.inj H
        go_wp2
        go_ret
        exact ⟨by first | rfl | (simp; done) | (simp [*]; done) | (simp [Go.Proofs.YtjmcndbkmknemaaX.isEmpty_ne]; done), by repeat (first | exact Drawn0.refl _ | apply Drawn0.step)⟩

/-! ### laws_short: function 23 -/
def laws_short.l0 : Nat → List ByteArray → List ByteArray → Int → Int → Option (Bool)
  | 0, _, _, _, _ => none
  | k + 1, x0, x5, x6, x7 => if x7 < x6 then (if 0 ≤ x7 then (if x7 < (x5.length : Int) then (if ((rdOf ByteArray.empty x5 x7).size : Int) > 2000 then (some false) else (laws_short.l0 k x0 x5 x6 (wrap64 (x7 + 1)))) else (none)) else (none)) else (some (decide ((x0.length : Int) ≤ 60)))
def laws_short.f (k : Nat) (l0 : List ByteArray) : Option (Bool) := laws_short.l0 k l0 l0 (l0.length : Int) 0
theorem laws_short.mono_l : ∀ k, (∀ y0 y1 y2 y3, LeO (laws_short.l0 k y0 y1 y2 y3) (laws_short.l0 (k + 1) y0 y1 y2 y3))
  | 0 => fun _ _ _ _ r h => by simp [laws_short.l0] at h
  | k + 1 => by
    have ih0 := laws_short.mono_l k
    · intro y0 y1 y2 y3
      unfold laws_short.l0
      repeat' first
      | (with_reducible exact ih0 _ _ _ _)
      | (with_reducible exact LeO.refl _)
      | (with_reducible exact LeO.none _)
      | (with_reducible refine LeO.ite ?_ ?_)
      | (with_reducible refine LeO.bind ?_ (fun _ => ?_))
      | exact ih0 _ _ _ _
      | exact LeO.none _
      | refine LeO.ite ?_ ?_
      | refine LeO.bind ?_ (fun _ => ?_)
theorem laws_short.mono : ∀ a0 k, LeO (laws_short.f k a0) (laws_short.f (k + 1) a0) := by
  intro a0 k
  have ih0 := laws_short.mono_l k
  unfold laws_short.f
  repeat' first
      | (with_reducible exact ih0 _ _ _ _)
      | (with_reducible exact LeO.refl _)
      | (with_reducible exact LeO.none _)
      | (with_reducible refine LeO.ite ?_ ?_)
      | (with_reducible refine LeO.bind ?_ (fun _ => ?_))
      | exact ih0 _ _ _ _
      | exact LeO.none _
      | refine LeO.ite ?_ ?_
      | refine LeO.bind ?_ (fun _ => ?_)
set_option maxHeartbeats 8000000 in
set_option maxRecDepth 100000 in
theorem laws_short.calls (k : Nat) (A0 : Option Addr) (c0 : Nat) (l0 : List ByteArray) (r : Bool) (w : World) (hr0 : Kd.C Kd.string w A0 l0.length l0) (hc0 : l0.length ≤ c0) (h : laws_short.f k l0 = some r) :
    Calls Try.prog 23 #[.slice A0 l0.length c0] w fun e w' => e = .returned (.bool r) ∧ Drawn0 w w' := by
  have HR0 := Aside0.mk hr0
  have HC0 := Aside0.mk hc0
  clear hr0 hc0
  have H : (laws_short.l0 k l0 l0 (l0.length : Int) 0) = some r := h
  clear h
  have H' := Aside0.mk H
  clear H
  go_enter Try.func23, Try.ntmps23
  go_wp2
  go_loopg [7] k (fun kq v7 w' => ∃ (x7_1 : Int), v7 = .int .i64 x7_1 ∧ Aside0 (laws_short.l0 kq l0 l0 (l0.length : Int) x7_1 = some r) ∧ Aside0 (kq ≤ k) ∧ Drawn0 w w')
  case atStart => exact ⟨(0), (by first | rfl | (simp; done) | (simp [*]; done) | (simp [Go.Proofs.YtjmcndbkmknemaaX.isEmpty_ne]; done)), H', ⟨Nat.le_refl _⟩, by repeat (first | exact Drawn0.refl _ | apply Drawn0.step)⟩
  case round =>
    clear H'
    obtain ⟨x7_1, rfl, HA, HK1, ⟨m1, rfl⟩⟩ := hrel
    cases gk with
    | zero => exact absurd HA.out (by simp [laws_short.l0])
    | succ k1 =>
      have H := HA.out
      clear HA
      simp only [laws_short.l0] at H
      by_cases c2 : x7_1 < (l0.length : Int)
      · rw [if_pos c2] at H
        have c2b0 : decide (x7_1 < (l0.length : Int)) = true := decide_eq_true c2
        clear c2
        by_cases c3 : 0 ≤ x7_1
        · rw [if_pos c3] at H
          have c3b0 : decide (0 ≤ x7_1) = true := decide_eq_true c3
          clear c3
          by_cases c4 : x7_1 < (l0.length : Int)
          · rw [if_pos c4] at H
            have c4b0 : decide (x7_1 < (l0.length : Int)) = true := decide_eq_true c4
            clear c4
            by_cases c5 : ((rdOf ByteArray.empty l0 x7_1).size : Int) > 2000
            · rw [if_pos c5] at H
              have c5b0 : decide (2000 < ((rdOf ByteArray.empty l0 x7_1).size : Int)) = true := decide_eq_true c5
              have c5b1 : decide (2000 < (rdOf ByteArray.empty l0 x7_1).size) = true := decide_eq_true (by omega)
              clear c5
              obtain rfl := Option.some.inj H
              have p154 : 0 ≤ (x7_1 : Int) := of_decide_eq_true (by first | (with_reducible assumption) | assumption)
              have q154 : x7_1 < (l0.length : Int) := of_decide_eq_true (by first | (with_reducible assumption) | assumption)
              obtain ⟨ad154, e154, hx154_0⟩ := Kd.at_string HR0.out x7_1 p154 q154
              cases e154
              replace p154 := eq_true p154
              replace q154 := eq_true q154
              go_wp2
              go_ret
              exact ⟨by first | rfl | (simp; done) | (simp [*]; done) | (simp [Go.Proofs.YtjmcndbkmknemaaX.isEmpty_ne]; done), by repeat (first | exact Drawn0.refl _ | apply Drawn0.step)⟩
            · rw [if_neg c5] at H
              have c5b0 : decide (2000 < ((rdOf ByteArray.empty l0 x7_1).size : Int)) = false := decide_eq_false c5
              have c5b1 : decide (2000 < (rdOf ByteArray.empty l0 x7_1).size) = false := decide_eq_false (by omega)
              clear c5
              have H' := Aside0.mk H
              clear H
              have p154 : 0 ≤ (x7_1 : Int) := of_decide_eq_true (by first | (with_reducible assumption) | assumption)
              have q154 : x7_1 < (l0.length : Int) := of_decide_eq_true (by first | (with_reducible assumption) | assumption)
              obtain ⟨ad154, e154, hx154_0⟩ := Kd.at_string HR0.out x7_1 p154 q154
              cases e154
              replace p154 := eq_true p154
              replace q154 := eq_true q154
              go_wp2
              go_roundg k1
              case measure => have := HK1.out; omega
              case rel => exact ⟨(wrap64 (x7_1 + 1)), (by first | rfl | (simp; done) | (simp [*]; done) | (simp [Go.Proofs.YtjmcndbkmknemaaX.isEmpty_ne]; done)), H', ⟨by have := HK1.out; omega⟩, by repeat (first | exact Drawn0.refl _ | apply Drawn0.step)⟩
          · rw [if_neg c4] at H
            exact absurd H (by simp)
        · rw [if_neg c3] at H
          exact absurd H (by simp)
      · rw [if_neg c2] at H
        have c2b0 : decide (x7_1 < (l0.length : Int)) = false := decide_eq_false c2
        clear c2
        obtain rfl := Option.some.inj H
        go_wp2
        go_ret
        exact ⟨by first | rfl | (simp; done) | (simp [*]; done) | (simp [Go.Proofs.YtjmcndbkmknemaaX.isEmpty_ne]; done), by repeat (first | exact Drawn0.refl _ | apply Drawn0.step)⟩

/-! ### laws_FnParamTrimmed: function 6 -/
def laws_FnParamTrimmed.j0 : Nat → ByteArray → Bool → Option (Bool)
  | 0, _, _ => none
  | k + 1, x0, x16 => if x16 = true then (some true) else (if 1 + x0.size ≤ 9223372036854775807 then ((impl_Trimmed.f k ((⟨#[58]⟩ : ByteArray) ++ x0)).bind fun t161 => (if t161.toList = x0.toList then (if 1 + x0.size + 1 ≤ 9223372036854775807 then ((impl_Trimmed.f k (((⟨#[58]⟩ : ByteArray) ++ x0) ++ (⟨#[63]⟩ : ByteArray))).bind fun t162 => (some (t162.toList == x0.toList))) else (none)) else (some false))) else (none))
def laws_FnParamTrimmed.f (k : Nat) (a0 : ByteArray) : Option (Bool) := if (a0.size : Int) > 2147483647 then (some true) else ((impl_Trimmed.f k (⟨#[58, 97, 63]⟩ : ByteArray)).bind fun t155 => (if t155.toList = ([97] : List UInt8) then ((laws_word.f k a0).bind fun t156 => (if t156 = true then ((laws_short.f k (([a0] : List ByteArray))).bind fun t160 => (laws_FnParamTrimmed.j0 k a0 (!t160))) else (laws_FnParamTrimmed.j0 k a0 true))) else (some false)))
theorem laws_FnParamTrimmed.mono_l : ∀ k, (∀ y0 y1, LeO (laws_FnParamTrimmed.j0 k y0 y1) (laws_FnParamTrimmed.j0 (k + 1) y0 y1))
  | 0 => fun _ _ r h => by simp [laws_FnParamTrimmed.j0] at h
  | k + 1 => by
    have ih0 := laws_FnParamTrimmed.mono_l k
    · intro y0 y1
      unfold laws_FnParamTrimmed.j0
      repeat' first
      | (with_reducible exact ih0 _ _)
      | (with_reducible exact impl_Trimmed.mono _ _)
      | (with_reducible exact laws_short.mono _ _)
      | (with_reducible exact laws_word.mono _ _)
      | (with_reducible exact LeO.refl _)
      | (with_reducible exact LeO.none _)
      | (with_reducible refine LeO.ite ?_ ?_)
      | (with_reducible refine LeO.bind ?_ (fun _ => ?_))
      | exact ih0 _ _
      | exact impl_Trimmed.mono _ _
      | exact laws_short.mono _ _
      | exact laws_word.mono _ _
      | exact LeO.none _
      | refine LeO.ite ?_ ?_
      | refine LeO.bind ?_ (fun _ => ?_)
theorem laws_FnParamTrimmed.mono : ∀ a0 k, LeO (laws_FnParamTrimmed.f k a0) (laws_FnParamTrimmed.f (k + 1) a0) := by
  intro a0 k
  have ih0 := laws_FnParamTrimmed.mono_l k
  unfold laws_FnParamTrimmed.f
  repeat' first
      | (with_reducible exact ih0 _ _)
      | (with_reducible exact impl_Trimmed.mono _ _)
      | (with_reducible exact laws_short.mono _ _)
      | (with_reducible exact laws_word.mono _ _)
      | (with_reducible exact LeO.refl _)
      | (with_reducible exact LeO.none _)
      | (with_reducible refine LeO.ite ?_ ?_)
      | (with_reducible refine LeO.bind ?_ (fun _ => ?_))
      | exact ih0 _ _
      | exact impl_Trimmed.mono _ _
      | exact laws_short.mono _ _
      | exact laws_word.mono _ _
      | exact LeO.none _
      | refine LeO.ite ?_ ?_
      | refine LeO.bind ?_ (fun _ => ?_)
set_option maxHeartbeats 8000000 in
set_option maxRecDepth 100000 in
theorem laws_FnParamTrimmed.calls (k : Nat) (a0 : ByteArray) (r : Bool) (w : World) (h : laws_FnParamTrimmed.f k a0 = some r) :
    Calls Try.prog 6 #[.string a0] w fun e w' => e = .returned (.bool r) ∧ Below w.heap.size w w' := by
  have HB := Aside0.mk (Below.refl w.heap.size w)
  have H : (if (a0.size : Int) > 2147483647 then (some true) else ((impl_Trimmed.f k (⟨#[58, 97, 63]⟩ : ByteArray)).bind fun t155 => (if t155.toList = ([97] : List UInt8) then ((laws_word.f k a0).bind fun t156 => (if t156 = true then ((laws_short.f k (([a0] : List ByteArray))).bind fun t160 => (laws_FnParamTrimmed.j0 k a0 (!t160))) else (laws_FnParamTrimmed.j0 k a0 true))) else (some false)))) = some r := h
  clear h
  by_cases c2 : (a0.size : Int) > 2147483647
  · rw [if_pos c2] at H
    have c2b0 : decide (2147483647 < (a0.size : Int)) = true := decide_eq_true c2
    have c2b1 : decide (2147483647 < a0.size) = true := decide_eq_true (by omega)
    clear c2
    obtain rfl := Option.some.inj H
    go_enter Try.func6, Try.ntmps6
    go_wp2
    go_ret
    exact ⟨by first | rfl | (simp [errW_none, errW_some] <;> rfl) | (simp [*, errW_none, errW_some] <;> rfl), by repeat (first | (with_reducible first | exact HB.out | apply below_alloc | apply pw_below_drewN | apply below_drew1) | exact HB.out)⟩
  · rw [if_neg c2] at H
    have c2b0 : decide (2147483647 < (a0.size : Int)) = false := decide_eq_false c2
    have c2b1 : decide (2147483647 < a0.size) = false := decide_eq_false (by omega)
    clear c2
    replace H := Option.bind_eq_some_iff.mp H
    obtain ⟨t155, A30, H⟩ := H
    replace H : (if t155.toList = ([97] : List UInt8) then ((laws_word.f k a0).bind fun t156 => (if t156 = true then ((laws_short.f k (([a0] : List ByteArray))).bind fun t160 => (laws_FnParamTrimmed.j0 k a0 (!t160))) else (laws_FnParamTrimmed.j0 k a0 true))) else (some false)) = some r := H
    have A3 := Aside0.mk A30
    clear A30
    by_cases c4 : t155.toList = ([97] : List UInt8)
    · rw [if_pos c4] at H
      have c4b0 : (t155.toList == ([97] : List UInt8)) = true := beq_iff_eq.mpr c4
      have c4b1 : (t155.toList != ([97] : List UInt8)) = false := bne_eq_false_iff_eq.mpr c4
      clear c4
      have HC5 := Aside0.mk H
      clear H
      go_enter Try.func6, Try.ntmps6
      go_upto_region 5 with (first | ((with_reducible refine gate_callee (f := 21) rfl ?_); refine goesL_ (some 6) rfl rfl Try.func21 (by kernel_rfl) rfl #[.string (⟨#[58, 97, 63]⟩ : ByteArray)] rfl (by (try simp only [List.map_toArray, List.map_cons, List.map_nil]); first | done | rfl | (simp only [List.length_drop, List.length_take]; rfl)) ?_; (with_reducible refine (impl_Trimmed.calls k (⟨#[58, 97, 63]⟩ : ByteArray) t155 _ A3.out).mono ?_); rintro e w' ⟨rfl, ⟨nd, rfl⟩⟩; refine ⟨_, rfl, ?_⟩))
      (try simp only [Act.put, List.setIfInBounds_toArray, List.set_cons_zero, List.set_cons_succ])
      go_cut [16] (fun v16 wc => ∃ (kq : Nat) (x16_4 : Bool), v16 = .bool x16_4 ∧ Aside0 (laws_FnParamTrimmed.j0 kq a0 x16_4 = some r) ∧ Aside0 (kq ≤ k) ∧ Aside0 (Below w.heap.size w wc))
      case first =>
        have H := HC5.out
        clear HC5
        replace H := Option.bind_eq_some_iff.mp H
        obtain ⟨t156, A60, H⟩ := H
        replace H : (if t156 = true then ((laws_short.f k (([a0] : List ByteArray))).bind fun t160 => (laws_FnParamTrimmed.j0 k a0 (!t160))) else (laws_FnParamTrimmed.j0 k a0 true)) = some r := H
        have A6 := Aside0.mk A60
        clear A60
        by_cases c7 : t156 = true
        · subst c7
          have H1 : ((laws_short.f k (([a0] : List ByteArray))).bind fun t160 => (laws_FnParamTrimmed.j0 k a0 (!t160))) = some r := by rw [if_pos rfl] at H; exact H
          clear H
          have H := H1
          clear H1
          obtain ⟨y157, hy157⟩ : ∃ y_ : List ByteArray, y_ = (([a0] : List ByteArray)) := ⟨_, rfl⟩
          replace H : ((laws_short.f k y157).bind fun t160 => (laws_FnParamTrimmed.j0 k a0 (!t160))) = some r := by first | (rw [hy157]; with_reducible exact H) | (have H2_ := (Option.bind_some _ _).symm.trans H; rw [hy157]; with_reducible exact H2_) | (have H2_ := (Option.bind_some _ _).symm.trans H; with_reducible exact H2_) | with_reducible exact H | (rw [hy157]; exact H) | exact H
          have Ny157 := Aside0.mk hy157
          clear hy157
          replace H := Option.bind_eq_some_iff.mp H
          obtain ⟨t160, A80, H⟩ := H
          replace H : (laws_FnParamTrimmed.j0 k a0 (!t160)) = some r := H
          have A8 := Aside0.mk A80
          clear A80
          have H' := Aside0.mk H
          clear H
          go_wp2_with (first | ((with_reducible refine gate_callee (f := 22) rfl ?_); refine goesL_ (some 9) rfl rfl Try.func22 (by kernel_rfl) rfl #[.string a0] rfl (by (try simp only [List.map_toArray, List.map_cons, List.map_nil]); first | done | rfl | (simp only [List.length_drop, List.length_take]; rfl)) ?_; (with_reducible refine (laws_word.calls k a0 true _ A6.out).mono ?_); rintro e w' ⟨rfl, ⟨nd, rfl⟩⟩; refine ⟨_, rfl, ?_⟩) | ((with_reducible refine gate_dst (N := 13) rfl ?_); (try (refine gate_guard (by rfl) ?_; dsimp only)); refine Kd.R_lit Kd.string _ 9 ?hg (N := 13) ?hd (xs := ([a0] : List ByteArray)) (inner := [.string a0]) (ok := fun _ => True) (okp := fun _ => True) ?hr ?hp (fun _ hk => hk) trivial (Below.refl _ _) (Nat.le_refl _) (by simp) ?_; (case hd => rfl); (case hg => rfl); (case hr => first | (go_simp; done) | (go_simp; rfl)); (case hp => exact (Reps.one (show Kd.M Kd.string _ _ _ a0 [.string a0] from rfl) (Reps.none _ _))); intro v158 w9 ho10 hb hg_ hnew_; clear hg_ hnew_; (first | rw [← Ny157.out] at ho10 | (simp only [Int.reduceToNat] at ho10; rw [← Ny157.out] at ho10)); have n0_ := Aside0.mk (Kd.R_lower ho10 (below_size (by repeat (first | (with_reducible first | exact HB.out | apply below_alloc | apply pw_below_drewN | apply below_drew1) | exact HB.out)))); have n1_ := Aside0.mk (below_step (by repeat (first | (with_reducible first | exact HB.out | apply below_alloc | apply pw_below_drewN | apply below_drew1) | exact HB.out)) hb); clear HB; have HO159 := n0_; have HB := n1_; clear n0_ n1_; clear hb ho10; obtain ⟨Ao11, co11, eo11⟩ := Kd.R_slice HO159.out; subst eo11) | (go_at_call 23; (with_reducible refine (laws_short.calls k _ _ y157 t160 _ ?side1 ?side2 A8.out).mono ?_); (case side1 => repeat (first | exact (Kd.R_reads' HO159.out).2.2 | (with_reducible refine Kd.C_alloc ?_ _) | (with_reducible refine Kd.C_drewN ?_ _) | (with_reducible refine Kd.C_drew ?_))); (case side2 => exact (Kd.R_reads' HO159.out).2.1); rintro e w' ⟨rfl, ⟨nd, rfl⟩⟩))
          go_meet
          case rel => exact ⟨_, (!t160), (by first | rfl | (simp; done) | (simp [*]; done) | (simp [Go.Proofs.YtjmcndbkmknemaaX.isEmpty_ne]; done)), H', ⟨by first | omega | exact Nat.le_refl _⟩, ⟨by repeat (first | (with_reducible first | exact HB.out | apply below_alloc | apply pw_below_drewN | apply below_drew1) | exact HB.out)⟩⟩
        · replace c7 := Bool.eq_false_iff.mpr c7
          subst c7
          have H1 : (laws_FnParamTrimmed.j0 k a0 true) = some r := by rw [if_neg (show ¬ (false = true) by decide)] at H; exact H
          clear H
          have H := H1
          clear H1
          have H' := Aside0.mk H
          clear H
          go_wp2_with (first | ((with_reducible refine gate_callee (f := 22) rfl ?_); refine goesL_ (some 9) rfl rfl Try.func22 (by kernel_rfl) rfl #[.string a0] rfl (by (try simp only [List.map_toArray, List.map_cons, List.map_nil]); first | done | rfl | (simp only [List.length_drop, List.length_take]; rfl)) ?_; (with_reducible refine (laws_word.calls k a0 false _ A6.out).mono ?_); rintro e w' ⟨rfl, ⟨nd, rfl⟩⟩; refine ⟨_, rfl, ?_⟩))
          go_meet
          case rel => exact ⟨_, (true), (by first | rfl | (simp; done) | (simp [*]; done) | (simp [Go.Proofs.YtjmcndbkmknemaaX.isEmpty_ne]; done)), H', ⟨by first | omega | exact Nat.le_refl _⟩, ⟨by repeat (first | (with_reducible first | exact HB.out | apply below_alloc | apply pw_below_drewN | apply below_drew1) | exact HB.out)⟩⟩
      case rest =>
        clear HC5
        try clear c2
        try clear c2b0
        try clear c2b1
        try clear p2
        try clear c4
        try clear c4b0
        try clear c4b1
        try clear c6
        try clear c7
        obtain ⟨kq, x16_4, rfl, HA, HJ4, HB⟩ := hcut
        cases kq with
        | zero => exact absurd HA.out (by simp [laws_FnParamTrimmed.j0])
        | succ kj4 =>
          have H := HA.out
          clear HA
          simp only [laws_FnParamTrimmed.j0] at H
          by_cases c12 : x16_4 = true
          · subst c12
            have H1 : (some true) = some r := by rw [if_pos rfl] at H; exact H
            clear H
            have H := H1
            clear H1
            obtain rfl := Option.some.inj H
            go_wp2
            go_ret
            exact ⟨by first | rfl | (simp [errW_none, errW_some] <;> rfl) | (simp [*, errW_none, errW_some] <;> rfl), by repeat (first | (with_reducible first | exact HB.out | apply below_alloc | apply pw_below_drewN | apply below_drew1) | exact HB.out)⟩
          · replace c12 := Bool.eq_false_iff.mpr c12
            subst c12
            have H1 : (if 1 + a0.size ≤ 9223372036854775807 then ((impl_Trimmed.f kj4 ((⟨#[58]⟩ : ByteArray) ++ a0)).bind fun t161 => (if t161.toList = a0.toList then (if 1 + a0.size + 1 ≤ 9223372036854775807 then ((impl_Trimmed.f kj4 (((⟨#[58]⟩ : ByteArray) ++ a0) ++ (⟨#[63]⟩ : ByteArray))).bind fun t162 => (some (t162.toList == a0.toList))) else (none)) else (some false))) else (none)) = some r := by rw [if_neg (show ¬ (false = true) by decide)] at H; exact H
            clear H
            have H := H1
            clear H1
            by_cases c13 : 1 + a0.size ≤ 9223372036854775807
            · rw [if_pos c13] at H
              have c13b0 := eq_true c13
              have c13b1 : decide (1 + a0.size ≤ 9223372036854775807) = true := decide_eq_true c13
              try have c13b2 : (9223372036854775807 < 1 + a0.size) = False := eq_false (Nat.not_lt.2 c13)
              replace H := Option.bind_eq_some_iff.mp H
              obtain ⟨t161, A140, H⟩ := H
              replace H : (if t161.toList = a0.toList then (if 1 + a0.size + 1 ≤ 9223372036854775807 then ((impl_Trimmed.f kj4 (((⟨#[58]⟩ : ByteArray) ++ a0) ++ (⟨#[63]⟩ : ByteArray))).bind fun t162 => (some (t162.toList == a0.toList))) else (none)) else (some false)) = some r := H
              have A14 := Aside0.mk A140
              clear A140
              by_cases c15 : t161.toList = a0.toList
              · rw [if_pos c15] at H
                have c15b0 : (t161.toList == a0.toList) = true := beq_iff_eq.mpr c15
                have c15b1 : (t161.toList != a0.toList) = false := bne_eq_false_iff_eq.mpr c15
                clear c15
                by_cases c16 : 1 + a0.size + 1 ≤ 9223372036854775807
                · rw [if_pos c16] at H
                  have c16b0 := eq_true c16
                  have c16b1 : decide (1 + a0.size + 1 ≤ 9223372036854775807) = true := decide_eq_true c16
                  try have c16b2 : (9223372036854775807 < 1 + a0.size + 1) = False := eq_false (Nat.not_lt.2 c16)
                  replace H := Option.bind_eq_some_iff.mp H
                  obtain ⟨t162, A170, H⟩ := H
                  replace H : (some (t162.toList == a0.toList)) = some r := H
                  have A17 := Aside0.mk A170
                  clear A170
                  obtain rfl := Option.some.inj H
                  go_wp2_with (first | ((with_reducible refine gate_callee (f := 21) rfl ?_); refine goesL_ (some 19) rfl rfl Try.func21 (by kernel_rfl) rfl #[.string ((⟨#[58]⟩ : ByteArray) ++ a0)] rfl (by (try simp only [List.map_toArray, List.map_cons, List.map_nil]); first | done | rfl | (simp only [List.length_drop, List.length_take]; rfl)) ?_; (with_reducible refine (impl_Trimmed.calls kj4 ((⟨#[58]⟩ : ByteArray) ++ a0) t161 _ A14.out).mono ?_); rintro e w' ⟨rfl, ⟨nd, rfl⟩⟩; refine ⟨_, rfl, ?_⟩) | (go_at_call 21; (with_reducible refine (impl_Trimmed.calls kj4 (((⟨#[58]⟩ : ByteArray) ++ a0) ++ (⟨#[63]⟩ : ByteArray)) t162 _ A17.out).mono ?_); rintro e w' ⟨rfl, ⟨nd, rfl⟩⟩))
                  any_goals (try (exfalso; have zc13b1 := of_decide_eq_true c13b1; have zc16b1 := of_decide_eq_true c16b1; omega))
                  go_ret
                  exact ⟨by first | rfl | (simp [errW_none, errW_some] <;> rfl) | (simp [*, errW_none, errW_some] <;> rfl), by repeat (first | (with_reducible first | exact HB.out | apply below_alloc | apply pw_below_drewN | apply below_drew1) | exact HB.out)⟩
                · rw [if_neg c16] at H
                  exact absurd H (by simp)
              · rw [if_neg c15] at H
                have c15b0 : (t161.toList == a0.toList) = false := beq_eq_false_iff_ne.mpr c15
                have c15b1 : (t161.toList != a0.toList) = true := bne_iff_ne.mpr c15
                obtain rfl := Option.some.inj H
                go_wp2_with (first | ((with_reducible refine gate_callee (f := 21) rfl ?_); refine goesL_ (some 19) rfl rfl Try.func21 (by kernel_rfl) rfl #[.string ((⟨#[58]⟩ : ByteArray) ++ a0)] rfl (by (try simp only [List.map_toArray, List.map_cons, List.map_nil]); first | done | rfl | (simp only [List.length_drop, List.length_take]; rfl)) ?_; (with_reducible refine (impl_Trimmed.calls kj4 ((⟨#[58]⟩ : ByteArray) ++ a0) t161 _ A14.out).mono ?_); rintro e w' ⟨rfl, ⟨nd, rfl⟩⟩; refine ⟨_, rfl, ?_⟩))
                any_goals (try (exfalso; have zc13b1 := of_decide_eq_true c13b1; omega))
                go_ret
                exact ⟨by first | rfl | (simp [errW_none, errW_some] <;> rfl) | (simp [*, errW_none, errW_some] <;> rfl), by repeat (first | (with_reducible first | exact HB.out | apply below_alloc | apply pw_below_drewN | apply below_drew1) | exact HB.out)⟩
            · rw [if_neg c13] at H
              exact absurd H (by simp)
    · rw [if_neg c4] at H
      have c4b0 : (t155.toList == ([97] : List UInt8)) = false := beq_eq_false_iff_ne.mpr c4
      have c4b1 : (t155.toList != ([97] : List UInt8)) = true := bne_iff_ne.mpr c4
      obtain rfl := Option.some.inj H
      go_enter Try.func6, Try.ntmps6
      go_wp2_with (first | ((with_reducible refine gate_callee (f := 21) rfl ?_); refine goesL_ (some 6) rfl rfl Try.func21 (by kernel_rfl) rfl #[.string (⟨#[58, 97, 63]⟩ : ByteArray)] rfl (by (try simp only [List.map_toArray, List.map_cons, List.map_nil]); first | done | rfl | (simp only [List.length_drop, List.length_take]; rfl)) ?_; (with_reducible refine (impl_Trimmed.calls k (⟨#[58, 97, 63]⟩ : ByteArray) t155 _ A3.out).mono ?_); rintro e w' ⟨rfl, ⟨nd, rfl⟩⟩; refine ⟨_, rfl, ?_⟩))
      go_ret
      exact ⟨by first | rfl | (simp [errW_none, errW_some] <;> rfl) | (simp [*, errW_none, errW_some] <;> rfl), by repeat (first | (with_reducible first | exact HB.out | apply below_alloc | apply pw_below_drewN | apply below_drew1) | exact HB.out)⟩

/-- THE ONE PURE STATEMENT of laws_FnParamTrimmed: yours. -/
def laws_FnParamTrimmed.Pure : Prop := ∀ (a0 : ByteArray), a0.size ≤ 140737488351232 → ∃ k, laws_FnParamTrimmed.f k a0 = some true
theorem laws_FnParamTrimmed.walk (P : laws_FnParamTrimmed.Pure) (a0 : ByteArray) (w : World) (w0 : a0.size ≤ 140737488351232) :
    Calls Try.prog 6 #[.string a0] w fun e w' => e = .returned (.bool true) ∧ Below w.heap.size w w' := by
  obtain ⟨k, h⟩ := P a0 w0
  refine (laws_FnParamTrimmed.calls k a0 true w h).mono ?_
  rintro e w' ⟨rfl, hd⟩
  exact ⟨rfl, hd⟩

-- NOT PRINTED: function 69 (bytealg_IndexByteString)

-- NOT PRINTED: function 68 (stringslite_IndexByte)

-- NOT PRINTED: function 60 (strings_IndexByte)

end Go.Proofs.Ytjmcndbkmknemaa.Q
