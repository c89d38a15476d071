/- The pure statement of FnSlashed: a slash is added where none stands at the end, and only there. -/
import Derived.Test.YtjmcndbkmknemaaQ7
import Derived.Test.YtjmcndbkmknemaaSpSla
namespace Go.Proofs.Ytjmcndbkmknemaa.Pure
open Go.RowKit Go.Proofs.Ytjmcndbkmknemaa.Q Go.Proofs.YtjmcndbkmknemaaW.PrintWords Go.Proofs.YtjmcndbkmknemaaW.PrintLast Go.Proofs.YtjmcndbkmknemaaKit Go.Proofs.Ytjmcndbkmknemaa.SpA
theorem FnSlashed : laws_FnSlashed.Pure := by
  intro s hs
  unfold laws_FnSlashed.f
  by_cases h : (s.size : Int) > 2147483647
  · rw [if_pos h]
  rw [if_neg h, slash_eq _ (by decide), slash_eq s hs]
  have e0 : (if slashed ⟨#[97]⟩ = true then (⟨#[97]⟩ : ByteArray) else ⟨#[97]⟩ ++ ⟨#[47]⟩) = ⟨#[97, 47]⟩ := by decide +kernel
  rw [e0]
  simp only [Option.bind_some, tl]
  rw [if_pos trivial]
  have hen : ∀ a : ByteArray, a.size ≤ 140737488351233 → laws_ends.f a ⟨#[47]⟩ = some (slashed a) := fun a ha => ends_eq a ⟨#[47]⟩ (by omega)
  have hap := slashed_app s
  have hsz : (s ++ ⟨#[47]⟩ : ByteArray).size = s.size + 1 := size_append _ _
  by_cases c : slashed s = true
  · rw [if_pos c, hen s (by omega)]
    simp only [Option.bind_some]
    rw [if_pos c, if_pos trivial, slash_eq s hs, if_pos c]
    simp
  · rw [if_neg c, hen (s ++ ⟨#[47]⟩) (by omega)]
    simp only [Option.bind_some]
    rw [if_pos hap]
    have hne : ¬ L (s ++ ⟨#[47]⟩) = L s := by rw [L_append]; simp
    rw [if_neg hne, if_pos (by omega), if_pos trivial, hen s (by omega)]
    simp only [Option.bind_some]
    rw [if_neg c]
    have : impl_Slashed.f (s ++ ⟨#[47]⟩) = some (s ++ ⟨#[47]⟩) := by rw [slash_eq _ (by omega), if_pos hap]
    rw [this]
    simp
end Go.Proofs.Ytjmcndbkmknemaa.Pure
