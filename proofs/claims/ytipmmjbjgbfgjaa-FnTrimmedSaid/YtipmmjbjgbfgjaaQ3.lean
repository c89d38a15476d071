import Derived.Test.YtipmmjbjgbfgjaaTrB
import Derived.Test.YtipmmjbjgbfgjaaQ0
-- Written by a program of this session out of the translation, with the kit's printer. Not trusted: Lean checks it.
namespace Go.Proofs.Ytipmmjbjgbfgjaa.Q
open Go.RowKit Go.Proofs.YtipmmjbjgbfgjaaW.PrintWords Go.Proofs.YtipmmjbjgbfgjaaW.PrintLast Go.Proofs.YtipmmjbjgbfgjaaW.PrintMore
attribute [local go_sem] max2_int min2_int max_two min_two max_three min_three max_four min_four   -- for this text's walks alone
set_option linter.unusedVariables false
set_option linter.unusedSimpArgs false

/-! ### fiberutils_TrimRight: function 56 -/
def fiberutils_TrimRight.l0 : Nat → ByteArray → Int → Int → Option (ByteArray)
  | 0, _, _, _ => none
  | k + 1, x0, x1, x5 => if x5 > 0 then (if 0 ≤ (wrap64 (x5 - 1)) then (if (wrap64 (x5 - 1)) < (x0.size : Int) then (if (bt x0 (wrap64 (x5 - 1))) = x1 then (fiberutils_TrimRight.l0 k x0 x1 (wrap64 (x5 - 1))) else (if 0 ≤ x5 then (if x5 ≤ (x0.size : Int) then (some (x0.extract 0 (x5 : Int).toNat)) else (none)) else (none))) else (none)) else (none)) else (if 0 ≤ x5 then (if x5 ≤ (x0.size : Int) then (some (x0.extract 0 (x5 : Int).toNat)) else (none)) else (none))
def fiberutils_TrimRight.f (k : Nat) (a0 : ByteArray) (a1 : Int) : Option (ByteArray) := fiberutils_TrimRight.l0 k a0 a1 (a0.size : Int)
theorem fiberutils_TrimRight.mono_l : ∀ k, (∀ y0 y1 y2, LeO (fiberutils_TrimRight.l0 k y0 y1 y2) (fiberutils_TrimRight.l0 (k + 1) y0 y1 y2))
  | 0 => fun _ _ _ r h => by simp [fiberutils_TrimRight.l0] at h
  | k + 1 => by
    have ih0 := fiberutils_TrimRight.mono_l k
    · intro y0 y1 y2
      unfold fiberutils_TrimRight.l0
      repeat' first
      | (with_reducible exact ih0 _ _ _)
      | (with_reducible exact LeO.refl _)
      | (with_reducible exact LeO.none _)
      | (with_reducible refine LeO.ite ?_ ?_)
      | (with_reducible refine LeO.bind ?_ (fun _ => ?_))
      | exact ih0 _ _ _
      | exact LeO.none _
      | refine LeO.ite ?_ ?_
      | refine LeO.bind ?_ (fun _ => ?_)
theorem fiberutils_TrimRight.mono : ∀ a0 a1 k, LeO (fiberutils_TrimRight.f k a0 a1) (fiberutils_TrimRight.f (k + 1) a0 a1) := by
  intro a0 a1 k
  have ih0 := fiberutils_TrimRight.mono_l k
  unfold fiberutils_TrimRight.f
  repeat' first
      | (with_reducible exact ih0 _ _ _)
      | (with_reducible exact LeO.refl _)
      | (with_reducible exact LeO.none _)
      | (with_reducible refine LeO.ite ?_ ?_)
      | (with_reducible refine LeO.bind ?_ (fun _ => ?_))
      | exact ih0 _ _ _
      | exact LeO.none _
      | refine LeO.ite ?_ ?_
      | refine LeO.bind ?_ (fun _ => ?_)
set_option maxHeartbeats 8000000 in
set_option maxRecDepth 100000 in
theorem fiberutils_TrimRight.calls (k : Nat) (a0 : ByteArray) (a1 : Int) (r : ByteArray) (w : World) (h : fiberutils_TrimRight.f k a0 a1 = some r) :
    Calls Try.prog 56 #[.string a0, .int .u8 a1] w fun e w' => e = .returned (.string r) ∧ Drawn0 w w' := by
  have H : (fiberutils_TrimRight.l0 k a0 a1 (a0.size : Int)) = some r := h
  clear h
  have H' := Aside0.mk H
  clear H
  go_enter Try.func56, Try.ntmps56
  go_wp2
  go_loopg [5] k (fun kq v5 w' => ∃ (x5_1 : Int), v5 = .int .i64 x5_1 ∧ Aside0 (fiberutils_TrimRight.l0 kq a0 a1 x5_1 = some r) ∧ Aside0 (kq ≤ k) ∧ Drawn0 w w')
  case atStart => exact ⟨((a0.size : Int)), (by first | rfl | (simp; done) | (simp [*]; done) | (simp [Go.Proofs.YtipmmjbjgbfgjaaX.isEmpty_ne]; done)), H', ⟨Nat.le_refl _⟩, by repeat (first | exact Drawn0.refl _ | apply Drawn0.step)⟩
  case round =>
    clear H'
    try clear p2
    obtain ⟨x5_1, rfl, HA, HK1, ⟨m1, rfl⟩⟩ := hrel
    cases gk with
    | zero => exact absurd HA.out (by simp [fiberutils_TrimRight.l0])
    | succ k1 =>
      have H := HA.out
      clear HA
      simp only [fiberutils_TrimRight.l0] at H
      by_cases c3 : x5_1 > 0
      · rw [if_pos c3] at H
        have c3b0 : decide (0 < x5_1) = true := decide_eq_true c3
        clear c3
        obtain ⟨ji4, hji4⟩ : ∃ j_ : Int, (wrap64 (x5_1 - 1)) = j_ := ⟨_, rfl⟩
        replace H : (if 0 ≤ (ji4) then (if (ji4) < (a0.size : Int) then (if (bt a0 (ji4)) = a1 then (fiberutils_TrimRight.l0 k1 a0 a1 ji4) else (if 0 ≤ x5_1 then (if x5_1 ≤ (a0.size : Int) then (some (a0.extract 0 (x5_1 : Int).toNat)) else (none)) else (none))) else (none)) else (none)) = some r := by first | (rw [hji4] at H; exact H) | (simp only [hji4] at H ⊢; exact H)
        have hji4w : (IntKind.i64.wrap (x5_1 - 1)) = ji4 := (i64_w _).trans hji4
        by_cases c5 : 0 ≤ (ji4)
        · rw [if_pos c5] at H
          have c5b0 : decide (0 ≤ (ji4)) = true := decide_eq_true c5
          clear c5
          by_cases c6 : (ji4) < (a0.size : Int)
          · rw [if_pos c6] at H
            have c6b0 : decide ((ji4) < (a0.size : Int)) = true := decide_eq_true c6
            clear c6
            by_cases c8 : (bt a0 (ji4)) = a1
            · rw [if_pos c8] at H
              have c8b0 : ((bt a0 (ji4)) == a1) = true := beq_iff_eq.mpr c8
              have c8b1 : ((bt a0 (ji4)) != a1) = false := bne_eq_false_iff_eq.mpr c8
              clear c8
              have H' := Aside0.mk H
              clear H
              have p7 : 0 ≤ ((ji4) : Int) := of_decide_eq_true (by first | (with_reducible assumption) | assumption)
              have q7 : (ji4) < (a0.size : Int) := of_decide_eq_true (by first | (with_reducible assumption) | assumption)
              have hx7 := bt_at a0 (ji4)
              replace p7 := eq_true p7
              replace q7 := eq_true q7
              go_wp2
              go_roundg k1
              case measure => have := HK1.out; omega
              case rel => exact ⟨(ji4), (by first | rfl | (simp; done) | (simp only [← hji4] <;> (first | rfl | simp)) | (simp [*]; done) | (simp [Go.Proofs.YtipmmjbjgbfgjaaX.isEmpty_ne]; done)), H', ⟨by have := HK1.out; omega⟩, by repeat (first | exact Drawn0.refl _ | apply Drawn0.step)⟩
            · rw [if_neg c8] at H
              have c8b0 : ((bt a0 (ji4)) == a1) = false := beq_eq_false_iff_ne.mpr c8
              have c8b1 : ((bt a0 (ji4)) != a1) = true := bne_iff_ne.mpr c8
              by_cases c9 : 0 ≤ x5_1
              · rw [if_pos c9] at H
                have c9b0 := eq_true c9
                have c9b1 : decide (0 ≤ x5_1) = true := decide_eq_true c9
                clear c9
                by_cases c10 : x5_1 ≤ (a0.size : Int)
                · rw [if_pos c10] at H
                  have c10b0 := eq_true c10
                  have c10b1 : decide (x5_1 ≤ (a0.size : Int)) = true := decide_eq_true c10
                  clear c10
                  obtain rfl := Option.some.inj H
                  have p7 : 0 ≤ ((ji4) : Int) := of_decide_eq_true (by first | (with_reducible assumption) | assumption)
                  have q7 : (ji4) < (a0.size : Int) := of_decide_eq_true (by first | (with_reducible assumption) | assumption)
                  have hx7 := bt_at a0 (ji4)
                  replace p7 := eq_true p7
                  replace q7 := eq_true q7
                  go_wp2
                  go_ret
                  exact ⟨by first | rfl | (simp; done) | (simp only [← hji4] <;> (first | rfl | simp)) | (simp [*]; done) | (simp [Go.Proofs.YtipmmjbjgbfgjaaX.isEmpty_ne]; done), by repeat (first | exact Drawn0.refl _ | apply Drawn0.step)⟩
                · rw [if_neg c10] at H
                  exact absurd H (by simp)
              · rw [if_neg c9] at H
                exact absurd H (by simp)
          · rw [if_neg c6] at H
            exact absurd H (by simp)
        · rw [if_neg c5] at H
          exact absurd H (by simp)
      · rw [if_neg c3] at H
        have c3b0 : decide (0 < x5_1) = false := decide_eq_false c3
        clear c3
        by_cases c11 : 0 ≤ x5_1
        · rw [if_pos c11] at H
          have c11b0 := eq_true c11
          have c11b1 : decide (0 ≤ x5_1) = true := decide_eq_true c11
          clear c11
          by_cases c12 : x5_1 ≤ (a0.size : Int)
          · rw [if_pos c12] at H
            have c12b0 := eq_true c12
            have c12b1 : decide (x5_1 ≤ (a0.size : Int)) = true := decide_eq_true c12
            clear c12
            obtain rfl := Option.some.inj H
            go_wp2
            go_ret
            exact ⟨by first | rfl | (simp; done) | (simp [*]; done) | (simp [Go.Proofs.YtipmmjbjgbfgjaaX.isEmpty_ne]; done), by repeat (first | exact Drawn0.refl _ | apply Drawn0.step)⟩
          · rw [if_neg c12] at H
            exact absurd H (by simp)
        · rw [if_neg c11] at H
          exact absurd H (by simp)

/-! ### impl_TrimRight: function 15 -/
def impl_TrimRight.f (k : Nat) (a0 : ByteArray) (a1 : Int) : Option (ByteArray) := (fiberutils_TrimRight.f k a0 a1).bind fun t104 => (some t104)
theorem impl_TrimRight.mono : ∀ a0 a1 k, LeO (impl_TrimRight.f k a0 a1) (impl_TrimRight.f (k + 1) a0 a1) := by
  intro a0 a1 k
  unfold impl_TrimRight.f
  repeat' first
      | (with_reducible exact fiberutils_TrimRight.mono _ _ _)
      | (with_reducible exact LeO.refl _)
      | (with_reducible exact LeO.none _)
      | (with_reducible refine LeO.ite ?_ ?_)
      | (with_reducible refine LeO.bind ?_ (fun _ => ?_))
      | exact fiberutils_TrimRight.mono _ _ _
      | exact LeO.none _
      | refine LeO.ite ?_ ?_
      | refine LeO.bind ?_ (fun _ => ?_)
set_option maxHeartbeats 8000000 in
set_option maxRecDepth 100000 in
theorem impl_TrimRight.calls (k : Nat) (a0 : ByteArray) (a1 : Int) (r : ByteArray) (w : World) (h : impl_TrimRight.f k a0 a1 = some r) :
    Calls Try.prog 15 #[.string a0, .int .u8 a1] w fun e w' => e = .returned (.string r) ∧ Drawn0 w w' := by
  have H : ((fiberutils_TrimRight.f k a0 a1).bind fun t104 => (some t104)) = some r := h
  clear h
  replace H := Option.bind_eq_some_iff.mp H
  obtain ⟨t104, A30, H⟩ := H
  replace H : (some t104) = some r := H
  have A3 := Aside0.mk A30
  clear A30
  obtain rfl := Option.some.inj H
  go_enter Try.func15, Try.ntmps15
  go_wp2_with (first | ((with_reducible refine gate_callee (f := 56) rfl ?_); refine goesL_ (some 7) rfl rfl Try.func56 (by kernel_rfl) rfl #[.string a0, .int .u8 a1] rfl (by (try simp only [List.map_toArray, List.map_cons, List.map_nil]); first | done | rfl | (simp only [List.length_drop, List.length_take]; rfl)) ?_; (with_reducible refine (fiberutils_TrimRight.calls k a0 a1 t104 _ A3.out).mono ?_); rintro e w' ⟨rfl, ⟨nd, rfl⟩⟩; refine ⟨_, rfl, ?_⟩))
  go_ret
  exact ⟨by first | rfl | (simp; done) | (simp [*]; done) | (simp [Go.Proofs.YtipmmjbjgbfgjaaX.isEmpty_ne]; done), by repeat (first | exact Drawn0.refl _ | apply Drawn0.step)⟩

-- NOT PRINTED: function 57 (fiberutils_TrimBytes)

/-! ### impl_TrimBytes: function 16 -/
-- USES TrB
def impl_TrimBytes.f (l0 : List Int) (a1 : Int) : Option (List Int) := if l0.length < 140737488355328 then some (trimI l0 a1) else none
theorem impl_TrimBytes.calls (A0 : Option Addr) (c0 : Nat) (l0 : List Int) (a1 : Int) (r : List Int) (w : World) (hr0 : Kd.C (Kd.int .u8) w A0 l0.length l0) (hc0 : l0.length ≤ c0) (h : impl_TrimBytes.f l0 a1 = some r) :
    Calls Try.prog 16 #[.slice A0 l0.length c0, .int .u8 a1] w fun e w' => ∃ v0_ : Value, e = .returned (v0_) ∧ Kd.V (Kd.int .u8) 5 w' w.heap.size (fun k_ => (w.heap.size ≤ k_)) v0_ r ∧ Below w.heap.size w w' := by
  unfold impl_TrimBytes.f at h
  split at h
  · obtain rfl := Option.some.inj h
    exact implTrimBytes_calls A0 c0 l0 a1 w hr0 hc0 (by assumption)
  · cases h

end Go.Proofs.Ytipmmjbjgbfgjaa.Q
