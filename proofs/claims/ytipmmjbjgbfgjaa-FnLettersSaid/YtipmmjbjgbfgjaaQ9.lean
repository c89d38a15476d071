-- Written by a program of this session out of the translation, with the kit's printer. Not trusted: Lean checks it.
import Derived.Test.YtipmmjbjgbfgjaaLow
import Derived.Test.YtipmmjbjgbfgjaaQ0
import Derived.Test.YtipmmjbjgbfgjaaQ7
import Derived.Test.YtipmmjbjgbfgjaaQ8
namespace Go.Proofs.Ytipmmjbjgbfgjaa.Q
open Go.RowKit Go.Proofs.YtipmmjbjgbfgjaaW.PrintWords Go.Proofs.YtipmmjbjgbfgjaaW.PrintLast Go.Proofs.YtipmmjbjgbfgjaaW.PrintMore
attribute [local go_sem] max2_int min2_int max_two min_two max_three min_three max_four min_four   -- for this text's walks alone
set_option linter.unusedVariables false
set_option linter.unusedSimpArgs false

/-! ### impl_Fold: function 21 -/
def impl_Fold.f (k : Nat) (a0 : ByteArray) (a1 : ByteArray) : Option (Bool) := (fiberutils_EqualFold.f k a0 a1).bind fun t134 => (some t134)
theorem impl_Fold.mono : ∀ a0 a1 k, LeO (impl_Fold.f k a0 a1) (impl_Fold.f (k + 1) a0 a1) := by
  intro a0 a1 k
  unfold impl_Fold.f
  repeat' first
      | (with_reducible exact fiberutils_EqualFold.mono _ _ _)
      | (with_reducible exact LeO.refl _)
      | (with_reducible exact LeO.none _)
      | (with_reducible refine LeO.ite ?_ ?_)
      | (with_reducible refine LeO.bind ?_ (fun _ => ?_))
      | exact fiberutils_EqualFold.mono _ _ _
      | exact LeO.none _
      | refine LeO.ite ?_ ?_
      | refine LeO.bind ?_ (fun _ => ?_)
set_option maxHeartbeats 8000000 in
set_option maxRecDepth 100000 in
theorem impl_Fold.calls (k : Nat) (a0 : ByteArray) (a1 : ByteArray) (r : Bool) (w : World) (h : impl_Fold.f k a0 a1 = some r) :
    Calls Try.prog 21 #[.string a0, .string a1] w fun e w' => e = .returned (.bool r) ∧ Drawn0 w w' := by
  have H : ((fiberutils_EqualFold.f k a0 a1).bind fun t134 => (some t134)) = some r := h
  clear h
  replace H := Option.bind_eq_some_iff.mp H
  obtain ⟨t134, A30, H⟩ := H
  replace H : (some t134) = some r := H
  have A3 := Aside0.mk A30
  clear A30
  obtain rfl := Option.some.inj H
  go_enter Try.func21, Try.ntmps21
  go_wp2_with (first | ((with_reducible refine gate_callee (f := 60) rfl ?_); refine goesL_ (some 7) rfl rfl Try.func60 (by kernel_rfl) rfl #[.string a0, .string a1] rfl (by (try simp only [List.map_toArray, List.map_cons, List.map_nil]); first | done | rfl | (simp only [List.length_drop, List.length_take]; rfl)) ?_; (with_reducible refine (fiberutils_EqualFold.calls k a0 a1 t134 _ A3.out).mono ?_); rintro e w' ⟨rfl, ⟨nd, rfl⟩⟩; refine ⟨_, rfl, ?_⟩))
  go_ret
  exact ⟨by first | rfl | (simp; done) | (simp [*]; done) | (simp [Go.Proofs.YtipmmjbjgbfgjaaX.isEmpty_ne]; done), by repeat (first | exact Drawn0.refl _ | apply Drawn0.step)⟩

/-! ### laws_lowers: function 17 -/
def laws_lowers.f (k : Nat)  : Option (Bool) := (impl_Lower.f (⟨#[97, 66]⟩ : ByteArray)).bind fun t135 => (if t135.toList = ([97, 98] : List UInt8) then ((impl_Upper.f (⟨#[97, 66]⟩ : ByteArray)).bind fun t136 => (if t136.toList = ([65, 66] : List UInt8) then ((impl_Fold.f k (⟨#[97, 66]⟩ : ByteArray) (⟨#[65, 98]⟩ : ByteArray)).bind fun t137 => (some t137)) else (some false))) else (some false))
theorem laws_lowers.mono : ∀ k, LeO (laws_lowers.f k ) (laws_lowers.f (k + 1) ) := by
  intro  k
  unfold laws_lowers.f
  repeat' first
      | (with_reducible exact impl_Fold.mono _ _ _)
      | (with_reducible exact LeO.refl _)
      | (with_reducible exact LeO.none _)
      | (with_reducible refine LeO.ite ?_ ?_)
      | (with_reducible refine LeO.bind ?_ (fun _ => ?_))
      | exact impl_Fold.mono _ _ _
      | exact LeO.none _
      | refine LeO.ite ?_ ?_
      | refine LeO.bind ?_ (fun _ => ?_)
set_option maxHeartbeats 8000000 in
set_option maxRecDepth 100000 in
theorem laws_lowers.calls (k : Nat)  (r : Bool) (w : World) (h : laws_lowers.f k  = some r) :
    Calls Try.prog 17 #[] w fun e w' => e = .returned (.bool r) ∧ Below w.heap.size w w' := by
  have HB := Aside0.mk (Below.refl w.heap.size w)
  have H : ((impl_Lower.f (⟨#[97, 66]⟩ : ByteArray)).bind fun t135 => (if t135.toList = ([97, 98] : List UInt8) then ((impl_Upper.f (⟨#[97, 66]⟩ : ByteArray)).bind fun t136 => (if t136.toList = ([65, 66] : List UInt8) then ((impl_Fold.f k (⟨#[97, 66]⟩ : ByteArray) (⟨#[65, 98]⟩ : ByteArray)).bind fun t137 => (some t137)) else (some false))) else (some false))) = some r := h
  clear h
  replace H := Option.bind_eq_some_iff.mp H
  obtain ⟨t135, A10, H⟩ := H
  replace H : (if t135.toList = ([97, 98] : List UInt8) then ((impl_Upper.f (⟨#[97, 66]⟩ : ByteArray)).bind fun t136 => (if t136.toList = ([65, 66] : List UInt8) then ((impl_Fold.f k (⟨#[97, 66]⟩ : ByteArray) (⟨#[65, 98]⟩ : ByteArray)).bind fun t137 => (some t137)) else (some false))) else (some false)) = some r := H
  have A1 := Aside0.mk A10
  clear A10
  by_cases c2 : t135.toList = ([97, 98] : List UInt8)
  · rw [if_pos c2] at H
    have c2b0 : (t135.toList == ([97, 98] : List UInt8)) = true := beq_iff_eq.mpr c2
    have c2b1 : (t135.toList != ([97, 98] : List UInt8)) = false := bne_eq_false_iff_eq.mpr c2
    clear c2
    replace H := Option.bind_eq_some_iff.mp H
    obtain ⟨t136, A30, H⟩ := H
    replace H : (if t136.toList = ([65, 66] : List UInt8) then ((impl_Fold.f k (⟨#[97, 66]⟩ : ByteArray) (⟨#[65, 98]⟩ : ByteArray)).bind fun t137 => (some t137)) else (some false)) = some r := H
    have A3 := Aside0.mk A30
    clear A30
    by_cases c4 : t136.toList = ([65, 66] : List UInt8)
    · rw [if_pos c4] at H
      have c4b0 : (t136.toList == ([65, 66] : List UInt8)) = true := beq_iff_eq.mpr c4
      have c4b1 : (t136.toList != ([65, 66] : List UInt8)) = false := bne_eq_false_iff_eq.mpr c4
      clear c4
      replace H := Option.bind_eq_some_iff.mp H
      obtain ⟨t137, A50, H⟩ := H
      replace H : (some t137) = some r := H
      have A5 := Aside0.mk A50
      clear A50
      obtain rfl := Option.some.inj H
      go_enter Try.func17, Try.ntmps17
      go_wp2_with (first | ((with_reducible refine gate_callee (f := 18) rfl ?_); refine goesL_ (some 1) rfl rfl Try.func18 (by kernel_rfl) rfl #[.string (⟨#[97, 66]⟩ : ByteArray)] rfl (by (try simp only [List.map_toArray, List.map_cons, List.map_nil]); first | done | rfl | (simp only [List.length_drop, List.length_take]; rfl)) ?_; (with_reducible refine (impl_Lower.calls (⟨#[97, 66]⟩ : ByteArray) t135 _ A1.out).mono ?_); rintro e w6 ⟨rfl, hb⟩; refine ⟨_, rfl, ?_⟩; have n0_ := Aside0.mk (below_step (by repeat (first | (with_reducible first | exact HB.out | apply below_alloc | apply pw_below_drewN | apply below_drew1) | exact HB.out)) hb); clear HB; have HB := n0_; clear n0_; (try clear hb); (try clear hb2); (try clear hk); (try clear hi)) | (go_at_call 19; (with_reducible refine (impl_Upper.calls (⟨#[97, 66]⟩ : ByteArray) t136 _ A3.out).mono ?_); rintro e w7 ⟨rfl, hb⟩; have n0_ := Aside0.mk (below_step (by repeat (first | (with_reducible first | exact HB.out | apply below_alloc | apply pw_below_drewN | apply below_drew1) | exact HB.out)) hb); clear HB; have HB := n0_; clear n0_; (try clear hb); (try clear hb2); (try clear hk); (try clear hi)) | (go_at_call 21; (with_reducible refine (impl_Fold.calls k (⟨#[97, 66]⟩ : ByteArray) (⟨#[65, 98]⟩ : ByteArray) t137 _ A5.out).mono ?_); rintro e w' ⟨rfl, ⟨nd, rfl⟩⟩))
      go_ret
      exact ⟨by first | rfl | (simp [errW_none, errW_some] <;> rfl) | (simp [*, errW_none, errW_some] <;> rfl), by repeat (first | (with_reducible first | exact HB.out | apply below_alloc | apply pw_below_drewN | apply below_drew1) | exact HB.out)⟩
    · rw [if_neg c4] at H
      have c4b0 : (t136.toList == ([65, 66] : List UInt8)) = false := beq_eq_false_iff_ne.mpr c4
      have c4b1 : (t136.toList != ([65, 66] : List UInt8)) = true := bne_iff_ne.mpr c4
      obtain rfl := Option.some.inj H
      go_enter Try.func17, Try.ntmps17
      go_wp2_with (first | ((with_reducible refine gate_callee (f := 18) rfl ?_); refine goesL_ (some 1) rfl rfl Try.func18 (by kernel_rfl) rfl #[.string (⟨#[97, 66]⟩ : ByteArray)] rfl (by (try simp only [List.map_toArray, List.map_cons, List.map_nil]); first | done | rfl | (simp only [List.length_drop, List.length_take]; rfl)) ?_; (with_reducible refine (impl_Lower.calls (⟨#[97, 66]⟩ : ByteArray) t135 _ A1.out).mono ?_); rintro e w8 ⟨rfl, hb⟩; refine ⟨_, rfl, ?_⟩; have n0_ := Aside0.mk (below_step (by repeat (first | (with_reducible first | exact HB.out | apply below_alloc | apply pw_below_drewN | apply below_drew1) | exact HB.out)) hb); clear HB; have HB := n0_; clear n0_; (try clear hb); (try clear hb2); (try clear hk); (try clear hi)) | (go_at_call 19; (with_reducible refine (impl_Upper.calls (⟨#[97, 66]⟩ : ByteArray) t136 _ A3.out).mono ?_); rintro e w9 ⟨rfl, hb⟩; have n0_ := Aside0.mk (below_step (by repeat (first | (with_reducible first | exact HB.out | apply below_alloc | apply pw_below_drewN | apply below_drew1) | exact HB.out)) hb); clear HB; have HB := n0_; clear n0_; (try clear hb); (try clear hb2); (try clear hk); (try clear hi)))
      go_ret
      exact ⟨by first | rfl | (simp [errW_none, errW_some] <;> rfl) | (simp [*, errW_none, errW_some] <;> rfl), by repeat (first | (with_reducible first | exact HB.out | apply below_alloc | apply pw_below_drewN | apply below_drew1) | exact HB.out)⟩
  · rw [if_neg c2] at H
    have c2b0 : (t135.toList == ([97, 98] : List UInt8)) = false := beq_eq_false_iff_ne.mpr c2
    have c2b1 : (t135.toList != ([97, 98] : List UInt8)) = true := bne_iff_ne.mpr c2
    obtain rfl := Option.some.inj H
    go_enter Try.func17, Try.ntmps17
    go_wp2_with (first | ((with_reducible refine gate_callee (f := 18) rfl ?_); refine goesL_ (some 1) rfl rfl Try.func18 (by kernel_rfl) rfl #[.string (⟨#[97, 66]⟩ : ByteArray)] rfl (by (try simp only [List.map_toArray, List.map_cons, List.map_nil]); first | done | rfl | (simp only [List.length_drop, List.length_take]; rfl)) ?_; (with_reducible refine (impl_Lower.calls (⟨#[97, 66]⟩ : ByteArray) t135 _ A1.out).mono ?_); rintro e w10 ⟨rfl, hb⟩; refine ⟨_, rfl, ?_⟩; have n0_ := Aside0.mk (below_step (by repeat (first | (with_reducible first | exact HB.out | apply below_alloc | apply pw_below_drewN | apply below_drew1) | exact HB.out)) hb); clear HB; have HB := n0_; clear n0_; (try clear hb); (try clear hb2); (try clear hk); (try clear hi)))
    go_ret
    exact ⟨by first | rfl | (simp [errW_none, errW_some] <;> rfl) | (simp [*, errW_none, errW_some] <;> rfl), by repeat (first | (with_reducible first | exact HB.out | apply below_alloc | apply pw_below_drewN | apply below_drew1) | exact HB.out)⟩

/-! ### laws_low: function 20 -/
-- USES Low
def laws_low.f (a0 : ByteArray) : Option (ByteArray) := if a0.size ≤ 140737488355328 then some ⟨(a0.data.toList.map lowB).toArray⟩ else none
theorem laws_low.calls (a0 : ByteArray) (r : ByteArray) (w : World) (h : laws_low.f a0 = some r) :
    Calls Try.prog 20 #[.string a0] w fun e w' => e = .returned (.string r) ∧ Below w.heap.size w w' := by
  unfold laws_low.f at h
  split at h
  · obtain rfl := Option.some.inj h
    exact low_calls a0 w (by assumption)
  · cases h

end Go.Proofs.Ytipmmjbjgbfgjaa.Q
