/- Slashes: what the plain functions come to. No program in sight. -/
import Derived.Test.YtjmcndbkmknemaaQ6
import Derived.Test.YtjmcndbkmknemaaKit
namespace Go.Proofs.Ytjmcndbkmknemaa.SpA
open Go.RowKit Go.Proofs.Ytjmcndbkmknemaa.Q Go.Proofs.YtjmcndbkmknemaaW.PrintWords Go.Proofs.YtjmcndbkmknemaaW.PrintLast Go.Proofs.YtjmcndbkmknemaaKit
set_option linter.unusedVariables false
set_option linter.unusedSimpArgs false
/-! ### slashes -/
theorem ends_eq (a b : ByteArray) (ha : a.size ≤ 9223372036854775807) : laws_ends.f a b = some (decide (b.size ≤ a.size) && ((L a).drop (a.size - b.size) == L b)) := by
  unfold laws_ends.f
  by_cases h : b.size ≤ a.size
  · rw [if_pos (by omega), wrap_id (by omega) (by omega), if_pos (by omega), if_pos (by omega), decide_eq_true h, Bool.true_and, tl, tl, L_extract]
    have e : ((a.size : Int) - (b.size : Int)).toNat = a.size - b.size := by omega
    rw [e, List.take_of_length_le (by rw [List.length_drop, ← size_L]; omega)]
  · rw [if_neg (by omega), decide_eq_false h, Bool.false_and]
theorem suffix_eq (a b : ByteArray) (ha : a.size ≤ 9223372036854775807) : strings_HasSuffix.f a b = some (decide (b.size ≤ a.size) && ((L a).drop (a.size - b.size) == L b)) := by
  have h : stringslite_HasSuffix.f a b = some (decide (b.size ≤ a.size) && ((L a).drop (a.size - b.size) == L b)) := by
    rw [← ends_eq a b ha]; rfl
  unfold strings_HasSuffix.f
  rw [h]; rfl
def slashed (s : ByteArray) : Bool := decide (1 ≤ s.size) && ((L s).drop (s.size - 1) == [47])
theorem slash_eq (a : ByteArray) (ha : a.size ≤ 140737488351232) : impl_Slashed.f a = some (if slashed a = true then a else a ++ ⟨#[47]⟩) := by
  unfold impl_Slashed.f fiberutils_AddTrailingSlash.f
  rw [suffix_eq _ _ (by omega)]
  show ((if slashed a = true then some a else if a.size + 1 ≤ 9223372036854775807 then some (a ++ ⟨#[47]⟩) else none).bind some) = _
  rw [if_pos (show a.size + 1 ≤ 9223372036854775807 by omega)]
  split <;> rfl
theorem slashed_app (a : ByteArray) : slashed (a ++ ⟨#[47]⟩) = true := by
  unfold slashed
  rw [size_append, L_append]
  simp only [show (⟨#[47]⟩ : ByteArray).size = 1 from rfl, Nat.add_sub_cancel]
  rw [size_L, List.drop_left]
  simp
end Go.Proofs.Ytjmcndbkmknemaa.SpA
