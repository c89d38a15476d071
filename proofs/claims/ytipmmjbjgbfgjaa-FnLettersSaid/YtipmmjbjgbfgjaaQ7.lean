-- Written by a program of this session out of the translation, with the kit's printer. Not trusted: Lean checks it.
import Derived.Test.YtipmmjbjgbfgjaaLow
import Derived.Test.YtipmmjbjgbfgjaaQ0
import Derived.Test.YtipmmjbjgbfgjaaQ6
namespace Go.Proofs.Ytipmmjbjgbfgjaa.Q
open Go.RowKit Go.Proofs.YtipmmjbjgbfgjaaW.PrintWords Go.Proofs.YtipmmjbjgbfgjaaW.PrintLast Go.Proofs.YtipmmjbjgbfgjaaW.PrintMore
attribute [local go_sem] max2_int min2_int max_two min_two max_three min_three max_four min_four   -- for this text's walks alone
set_option linter.unusedVariables false
set_option linter.unusedSimpArgs false

/-! ### impl_TrimRight: function 15 -/
def impl_TrimRight.f (k : Nat) (a0 : ByteArray) (a1 : Int) : Option (ByteArray) := (fiberutils_TrimRight.f k a0 a1).bind fun t104 => (some t104)
theorem impl_TrimRight.mono : ∀ a0 a1 k, LeO (impl_TrimRight.f k a0 a1) (impl_TrimRight.f (k + 1) a0 a1) := by
  intro a0 a1 k
  unfold impl_TrimRight.f
  repeat' first
      | (with_reducible exact fiberutils_TrimRight.mono _ _ _)
      | (with_reducible exact LeO.refl _)
      | (with_reducible exact LeO.none _)
      | (with_reducible refine LeO.ite ?_ ?_)
      | (with_reducible refine LeO.bind ?_ (fun _ => ?_))
      | exact fiberutils_TrimRight.mono _ _ _
      | exact LeO.none _
      | refine LeO.ite ?_ ?_
      | refine LeO.bind ?_ (fun _ => ?_)
set_option maxHeartbeats 8000000 in
set_option maxRecDepth 100000 in
theorem impl_TrimRight.calls (k : Nat) (a0 : ByteArray) (a1 : Int) (r : ByteArray) (w : World) (h : impl_TrimRight.f k a0 a1 = some r) :
    Calls Try.prog 15 #[.string a0, .int .u8 a1] w fun e w' => e = .returned (.string r) ∧ Drawn0 w w' := by
  have H : ((fiberutils_TrimRight.f k a0 a1).bind fun t104 => (some t104)) = some r := h
  clear h
  replace H := Option.bind_eq_some_iff.mp H
  obtain ⟨t104, A30, H⟩ := H
  replace H : (some t104) = some r := H
  have A3 := Aside0.mk A30
  clear A30
  obtain rfl := Option.some.inj H
  go_enter Try.func15, Try.ntmps15
  go_wp2_with (first | ((with_reducible refine gate_callee (f := 56) rfl ?_); refine goesL_ (some 7) rfl rfl Try.func56 (by kernel_rfl) rfl #[.string a0, .int .u8 a1] rfl (by (try simp only [List.map_toArray, List.map_cons, List.map_nil]); first | done | rfl | (simp only [List.length_drop, List.length_take]; rfl)) ?_; (with_reducible refine (fiberutils_TrimRight.calls k a0 a1 t104 _ A3.out).mono ?_); rintro e w' ⟨rfl, ⟨nd, rfl⟩⟩; refine ⟨_, rfl, ?_⟩))
  go_ret
  exact ⟨by first | rfl | (simp; done) | (simp [*]; done) | (simp [Go.Proofs.YtipmmjbjgbfgjaaX.isEmpty_ne]; done), by repeat (first | exact Drawn0.refl _ | apply Drawn0.step)⟩

-- NOT PRINTED: function 57 (fiberutils_TrimBytes)

-- NOT PRINTED: function 16 (impl_TrimBytes)

-- NOT PRINTED: function 3 (laws_FnTrimmed)

/-! ### fiberutils_ToLower: function 58 -/
-- USES Low
def fiberutils_ToLower.f (a0 : ByteArray) : Option (ByteArray) := if a0.size ≤ 140737488355328 then some ⟨(a0.data.toList.map tabLow).toArray⟩ else none
theorem fiberutils_ToLower.calls (a0 : ByteArray) (r : ByteArray) (w : World) (h : fiberutils_ToLower.f a0 = some r) :
    Calls Try.prog 58 #[.string a0] w fun e w' => e = .returned (.string r) ∧ Below w.heap.size w w' := by
  unfold fiberutils_ToLower.f at h
  split at h
  · obtain rfl := Option.some.inj h
    exact toLower_calls a0 w (by assumption)
  · cases h

/-! ### impl_Lower: function 18 -/
def impl_Lower.f (a0 : ByteArray) : Option (ByteArray) := (fiberutils_ToLower.f a0).bind fun t132 => (some t132)
set_option maxHeartbeats 8000000 in
set_option maxRecDepth 100000 in
theorem impl_Lower.calls (a0 : ByteArray) (r : ByteArray) (w : World) (h : impl_Lower.f a0 = some r) :
    Calls Try.prog 18 #[.string a0] w fun e w' => e = .returned (.string r) ∧ Below w.heap.size w w' := by
  have HB := Aside0.mk (Below.refl w.heap.size w)
  have H : ((fiberutils_ToLower.f a0).bind fun t132 => (some t132)) = some r := h
  clear h
  replace H := Option.bind_eq_some_iff.mp H
  obtain ⟨t132, A20, H⟩ := H
  replace H : (some t132) = some r := H
  have A2 := Aside0.mk A20
  clear A20
  obtain rfl := Option.some.inj H
  go_enter Try.func18, Try.ntmps18
  go_wp2_with (first | ((with_reducible refine gate_callee (f := 58) rfl ?_); refine goesL_ (some 4) rfl rfl Try.func58 (by kernel_rfl) rfl #[.string a0] rfl (by (try simp only [List.map_toArray, List.map_cons, List.map_nil]); first | done | rfl | (simp only [List.length_drop, List.length_take]; rfl)) ?_; (with_reducible refine (fiberutils_ToLower.calls a0 t132 _ A2.out).mono ?_); rintro e w3 ⟨rfl, hb⟩; refine ⟨_, rfl, ?_⟩; have n0_ := Aside0.mk (below_step (by repeat (first | (with_reducible first | exact HB.out | apply below_alloc | apply pw_below_drewN | apply below_drew1) | exact HB.out)) hb); clear HB; have HB := n0_; clear n0_; (try clear hb); (try clear hb2); (try clear hk); (try clear hi)))
  go_ret
  exact ⟨by first | rfl | (simp [errW_none, errW_some] <;> rfl) | (simp [*, errW_none, errW_some] <;> rfl), by repeat (first | (with_reducible first | exact HB.out | apply below_alloc | apply pw_below_drewN | apply below_drew1) | exact HB.out)⟩

/-! ### fiberutils_ToUpper: function 59 -/
-- USES Low
def fiberutils_ToUpper.f (a0 : ByteArray) : Option (ByteArray) := if a0.size ≤ 140737488355328 then some ⟨(a0.data.toList.map tabUpp).toArray⟩ else none
theorem fiberutils_ToUpper.calls (a0 : ByteArray) (r : ByteArray) (w : World) (h : fiberutils_ToUpper.f a0 = some r) :
    Calls Try.prog 59 #[.string a0] w fun e w' => e = .returned (.string r) ∧ Below w.heap.size w w' := by
  unfold fiberutils_ToUpper.f at h
  split at h
  · obtain rfl := Option.some.inj h
    exact toUpper_calls a0 w (by assumption)
  · cases h

/-! ### impl_Upper: function 19 -/
def impl_Upper.f (a0 : ByteArray) : Option (ByteArray) := (fiberutils_ToUpper.f a0).bind fun t133 => (some t133)
set_option maxHeartbeats 8000000 in
set_option maxRecDepth 100000 in
theorem impl_Upper.calls (a0 : ByteArray) (r : ByteArray) (w : World) (h : impl_Upper.f a0 = some r) :
    Calls Try.prog 19 #[.string a0] w fun e w' => e = .returned (.string r) ∧ Below w.heap.size w w' := by
  have HB := Aside0.mk (Below.refl w.heap.size w)
  have H : ((fiberutils_ToUpper.f a0).bind fun t133 => (some t133)) = some r := h
  clear h
  replace H := Option.bind_eq_some_iff.mp H
  obtain ⟨t133, A20, H⟩ := H
  replace H : (some t133) = some r := H
  have A2 := Aside0.mk A20
  clear A20
  obtain rfl := Option.some.inj H
  go_enter Try.func19, Try.ntmps19
  go_wp2_with (first | ((with_reducible refine gate_callee (f := 59) rfl ?_); refine goesL_ (some 4) rfl rfl Try.func59 (by kernel_rfl) rfl #[.string a0] rfl (by (try simp only [List.map_toArray, List.map_cons, List.map_nil]); first | done | rfl | (simp only [List.length_drop, List.length_take]; rfl)) ?_; (with_reducible refine (fiberutils_ToUpper.calls a0 t133 _ A2.out).mono ?_); rintro e w3 ⟨rfl, hb⟩; refine ⟨_, rfl, ?_⟩; have n0_ := Aside0.mk (below_step (by repeat (first | (with_reducible first | exact HB.out | apply below_alloc | apply pw_below_drewN | apply below_drew1) | exact HB.out)) hb); clear HB; have HB := n0_; clear n0_; (try clear hb); (try clear hb2); (try clear hk); (try clear hi)))
  go_ret
  exact ⟨by first | rfl | (simp [errW_none, errW_some] <;> rfl) | (simp [*, errW_none, errW_some] <;> rfl), by repeat (first | (with_reducible first | exact HB.out | apply below_alloc | apply pw_below_drewN | apply below_drew1) | exact HB.out)⟩

end Go.Proofs.Ytipmmjbjgbfgjaa.Q
