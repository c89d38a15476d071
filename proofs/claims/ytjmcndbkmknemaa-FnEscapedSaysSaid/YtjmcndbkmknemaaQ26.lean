-- Written by a program of this session out of the translation, with the kit's printer. Not trusted: Lean checks it.
import Derived.Test.YtjmcndbkmknemaaQ0
import Derived.Test.YtjmcndbkmknemaaQ25
namespace Go.Proofs.Ytjmcndbkmknemaa.Q
open Go.RowKit Go.Proofs.YtjmcndbkmknemaaW.PrintWords Go.Proofs.YtjmcndbkmknemaaW.PrintLast Go.Proofs.YtjmcndbkmknemaaW.PrintMore
attribute [local go_sem] max2_int min2_int max_two min_two max_three min_three max_four min_four   -- for this text's walks alone
set_option linter.unusedVariables false
set_option linter.unusedSimpArgs false

/-! ### spec_QuotedArg: function 35 -/
def spec_QuotedArg.f (k : Nat) (a0 : ByteArray) : Option (ByteArray) := (spec_quoted.f k a0 (⟨#[]⟩ : ByteArray) (⟨#[43]⟩ : ByteArray)).bind fun t238 => (some t238)
theorem spec_QuotedArg.mono : ∀ a0 k, LeO (spec_QuotedArg.f k a0) (spec_QuotedArg.f (k + 1) a0) := by
  intro a0 k
  unfold spec_QuotedArg.f
  repeat' first
      | (with_reducible exact spec_quoted.mono _ _ _ _)
      | (with_reducible exact LeO.refl _)
      | (with_reducible exact LeO.none _)
      | (with_reducible refine LeO.ite ?_ ?_)
      | (with_reducible refine LeO.bind ?_ (fun _ => ?_))
      | exact spec_quoted.mono _ _ _ _
      | exact LeO.none _
      | refine LeO.ite ?_ ?_
      | refine LeO.bind ?_ (fun _ => ?_)
set_option maxHeartbeats 8000000 in
set_option maxRecDepth 100000 in
theorem spec_QuotedArg.calls (k : Nat) (a0 : ByteArray) (r : ByteArray) (w : World) (h : spec_QuotedArg.f k a0 = some r) :
    Calls Try.prog 35 #[.string a0] w fun e w' => e = .returned (.string r) ∧ Drawn0 w w' := by
  have H : ((spec_quoted.f k a0 (⟨#[]⟩ : ByteArray) (⟨#[43]⟩ : ByteArray)).bind fun t238 => (some t238)) = some r := h
  clear h
  replace H := Option.bind_eq_some_iff.mp H
  obtain ⟨t238, A20, H⟩ := H
  replace H : (some t238) = some r := H
  have A2 := Aside0.mk A20
  clear A20
  obtain rfl := Option.some.inj H
  go_enter Try.func35, Try.ntmps35
  go_wp2_with (first | ((with_reducible refine gate_callee (f := 56) rfl ?_); refine goesL_ (some 4) rfl rfl Try.func56 (by kernel_rfl) rfl #[.string a0, .string (⟨#[]⟩ : ByteArray), .string (⟨#[43]⟩ : ByteArray)] rfl (by (try simp only [List.map_toArray, List.map_cons, List.map_nil]); first | done | rfl | (simp only [List.length_drop, List.length_take]; rfl)) ?_; (with_reducible refine (spec_quoted.calls k a0 (⟨#[]⟩ : ByteArray) (⟨#[43]⟩ : ByteArray) t238 _ A2.out).mono ?_); rintro e w' ⟨rfl, ⟨nd, rfl⟩⟩; refine ⟨_, rfl, ?_⟩))
  go_ret
  exact ⟨by first | rfl | (simp; done) | (simp [*]; done) | (simp [Go.Proofs.YtjmcndbkmknemaaX.isEmpty_ne]; done), by repeat (first | exact Drawn0.refl _ | apply Drawn0.step)⟩

/-! ### spec_QuotedPath: function 36 -/
def spec_QuotedPath.f (k : Nat) (a0 : ByteArray) : Option (ByteArray) := if a0.toList = ([42] : List UInt8) then (some a0) else ((spec_quoted.f k a0 (⟨#[47, 36, 38, 43, 44, 58, 59, 61, 64]⟩ : ByteArray) (⟨#[]⟩ : ByteArray)).bind fun t239 => (some t239))
theorem spec_QuotedPath.mono : ∀ a0 k, LeO (spec_QuotedPath.f k a0) (spec_QuotedPath.f (k + 1) a0) := by
  intro a0 k
  unfold spec_QuotedPath.f
  repeat' first
      | (with_reducible exact spec_quoted.mono _ _ _ _)
      | (with_reducible exact LeO.refl _)
      | (with_reducible exact LeO.none _)
      | (with_reducible refine LeO.ite ?_ ?_)
      | (with_reducible refine LeO.bind ?_ (fun _ => ?_))
      | exact spec_quoted.mono _ _ _ _
      | exact LeO.none _
      | refine LeO.ite ?_ ?_
      | refine LeO.bind ?_ (fun _ => ?_)
set_option maxHeartbeats 8000000 in
set_option maxRecDepth 100000 in
theorem spec_QuotedPath.calls (k : Nat) (a0 : ByteArray) (r : ByteArray) (w : World) (h : spec_QuotedPath.f k a0 = some r) :
    Calls Try.prog 36 #[.string a0] w fun e w' => e = .returned (.string r) ∧ Drawn0 w w' := by
  have H : (if a0.toList = ([42] : List UInt8) then (some a0) else ((spec_quoted.f k a0 (⟨#[47, 36, 38, 43, 44, 58, 59, 61, 64]⟩ : ByteArray) (⟨#[]⟩ : ByteArray)).bind fun t239 => (some t239))) = some r := h
  clear h
  by_cases c2 : a0.toList = ([42] : List UInt8)
  · rw [if_pos c2] at H
    have c2b0 : (a0.toList == ([42] : List UInt8)) = true := beq_iff_eq.mpr c2
    have c2b1 : (a0.toList != ([42] : List UInt8)) = false := bne_eq_false_iff_eq.mpr c2
    clear c2
    obtain rfl := Option.some.inj H
    go_enter Try.func36, Try.ntmps36
    go_wp2
    go_ret
    exact ⟨by first | rfl | (simp; done) | (simp [*]; done) | (simp [Go.Proofs.YtjmcndbkmknemaaX.isEmpty_ne]; done), by repeat (first | exact Drawn0.refl _ | apply Drawn0.step)⟩
  · rw [if_neg c2] at H
    have c2b0 : (a0.toList == ([42] : List UInt8)) = false := beq_eq_false_iff_ne.mpr c2
    have c2b1 : (a0.toList != ([42] : List UInt8)) = true := bne_iff_ne.mpr c2
    replace H := Option.bind_eq_some_iff.mp H
    obtain ⟨t239, A30, H⟩ := H
    replace H : (some t239) = some r := H
    have A3 := Aside0.mk A30
    clear A30
    obtain rfl := Option.some.inj H
    go_enter Try.func36, Try.ntmps36
    go_wp2_with (first | ((with_reducible refine gate_callee (f := 56) rfl ?_); refine goesL_ (some 7) rfl rfl Try.func56 (by kernel_rfl) rfl #[.string a0, .string (⟨#[47, 36, 38, 43, 44, 58, 59, 61, 64]⟩ : ByteArray), .string (⟨#[]⟩ : ByteArray)] rfl (by (try simp only [List.map_toArray, List.map_cons, List.map_nil]); first | done | rfl | (simp only [List.length_drop, List.length_take]; rfl)) ?_; (with_reducible refine (spec_quoted.calls k a0 (⟨#[47, 36, 38, 43, 44, 58, 59, 61, 64]⟩ : ByteArray) (⟨#[]⟩ : ByteArray) t239 _ A3.out).mono ?_); rintro e w' ⟨rfl, ⟨nd, rfl⟩⟩; refine ⟨_, rfl, ?_⟩))
    go_ret
    exact ⟨by first | rfl | (simp; done) | (simp [*]; done) | (simp [Go.Proofs.YtjmcndbkmknemaaX.isEmpty_ne]; done), by repeat (first | exact Drawn0.refl _ | apply Drawn0.step)⟩

end Go.Proofs.Ytjmcndbkmknemaa.Q
