/- Arguments as data, and back: what the plain functions come to. No program in sight. -/
import Derived.Test.YtipmmjbjgbfgjaaQ1
import Derived.Test.YtipmmjbjgbfgjaaQ5
import Derived.Test.YtipmmjbjgbfgjaaKit
namespace Go.Proofs.Ytipmmjbjgbfgjaa.SpA
open Go.RowKit Go.Proofs.Ytipmmjbjgbfgjaa.Q Go.Proofs.YtipmmjbjgbfgjaaW.PrintWords Go.Proofs.YtipmmjbjgbfgjaaW.PrintLast Go.Proofs.YtipmmjbjgbfgjaaKit
set_option linter.unusedVariables false
set_option linter.unusedSimpArgs false
theorem rd36 (l : List S40) (n : Nat) (h : n < l.length) : rd_T40 l (n : Int) = l[n] := by unfold rd_T40; rw [Int.toNat_natCast, List.getD_eq_getElem?_getD, List.getElem?_eq_getElem h]; rfl
theorem fits8 (a b : ByteArray) (c : Bool) : ∃ r, laws_zzFits8.f a b c = some r := by
  unfold laws_zzFits8.f
  split
  · exact ⟨_, rfl⟩
  · split <;> exact ⟨_, rfl⟩
theorem fits7_l (l : List S40) (hl : l.length ≤ 2147483647) : ∀ d n, l.length - n = d → n ≤ l.length → ∃ b, Ev (fun k => laws_zzFits7.l0 k l (l.length : Int) (n : Int)) b := by
  intro d
  induction d with
  | zero =>
    intro n hd hn
    refine ⟨true, Ev.step (f := fun _ => some true) (fun k => ?_) (Ev.now _)⟩
    simp only [laws_zzFits7.l0]
    rw [if_neg (by omega)]
  | succ d ih =>
    intro n hd hn
    obtain ⟨r, hr⟩ := fits8 l[n].f0 l[n].f1 l[n].f2
    have hw : wrap64 ((n : Int) + 1) = ((n + 1 : Nat) : Int) := by unfold wrap64; omega
    obtain ⟨b, hb⟩ := ih (n + 1) (by omega) (by omega)
    by_cases h : r = true
    · refine ⟨b, Ev.step (fun k => ?_) hb⟩
      simp only [laws_zzFits7.l0]
      rw [if_pos (by omega), if_pos (by omega), if_pos (by omega), rd36 l n (by omega), hr, Option.bind_some, if_pos h, hw]
    · refine ⟨false, Ev.step (f := fun _ => some false) (fun k => ?_) (Ev.now _)⟩
      simp only [laws_zzFits7.l0]
      rw [if_pos (by omega), if_pos (by omega), if_pos (by omega), rd36 l n (by omega), hr, Option.bind_some, if_neg h]
theorem fits7 (l : List S40) : ∃ b, Ev (fun k => laws_zzFits7.f k l) b ∧ (b = true → l.length ≤ 2147483647) := by
  unfold laws_zzFits7.f
  by_cases h : (l.length : Int) > 2147483647
  · exact ⟨false, Ev.pos h (Ev.now _), fun e => by cases e⟩
  · obtain ⟨b, hb⟩ := fits7_l l (by omega) _ 0 rfl (Nat.zero_le _)
    exact ⟨b, Ev.neg h hb, fun _ => by omega⟩
theorem few_l (l : List S40) (hl : l.length ≤ 2147483647) : ∀ d n, l.length - n = d → n ≤ l.length → (∀ j (h : j < l.length), j < n → l[j].f0.size ≤ 200 ∧ l[j].f1.size ≤ 200) →
    ∃ b, Ev (fun k => laws_few.l0 k l l (l.length : Int) (n : Int)) b ∧ (b = true → l.length ≤ 20 ∧ ∀ x ∈ l, x.f0.size ≤ 200 ∧ x.f1.size ≤ 200) := by
  intro d
  induction d with
  | zero =>
    intro n hd hn hp
    refine ⟨_, Ev.step (f := fun _ => some (decide ((l.length : Int) ≤ 20))) (fun k => ?_) (Ev.now _), fun e => ⟨by have := of_decide_eq_true e; omega, fun x hx => ?_⟩⟩
    · simp only [laws_few.l0]
      rw [if_neg (by omega)]
    · obtain ⟨j, hj, e⟩ := List.getElem_of_mem hx
      rw [← e]
      exact hp j hj (by omega)
  | succ d ih =>
    intro n hd hn hp
    have hw : wrap64 ((n : Int) + 1) = ((n + 1 : Nat) : Int) := by unfold wrap64; omega
    by_cases h0 : (l[n].f0.size : Int) > 200
    · refine ⟨false, Ev.step (f := fun _ => some false) (fun k => ?_) (Ev.now _), fun e => by cases e⟩
      simp only [laws_few.l0]
      rw [if_pos (by omega), if_pos (by omega), if_pos (by omega), rd36 l n (by omega), if_pos h0]
    · by_cases h1 : (l[n].f1.size : Int) > 200
      · refine ⟨false, Ev.step (f := fun _ => some false) (fun k => ?_) (Ev.now _), fun e => by cases e⟩
        simp only [laws_few.l0]
        rw [if_pos (by omega), if_pos (by omega), if_pos (by omega), rd36 l n (by omega), if_neg h0, if_pos h1]
      · obtain ⟨b, hb, hb2⟩ := ih (n + 1) (by omega) (by omega) (fun j hj hj2 => by
          by_cases e : j = n
          · subst e; exact ⟨by omega, by omega⟩
          · exact hp j hj (by omega))
        refine ⟨b, Ev.step (fun k => ?_) hb, hb2⟩
        simp only [laws_few.l0]
        rw [if_pos (by omega), if_pos (by omega), if_pos (by omega), rd36 l n (by omega), if_neg h0, if_neg h1, hw]
theorem few (l : List S40) (hl : l.length ≤ 2147483647) : ∃ b, Ev (fun k => laws_few.f k l) b ∧ (b = true → l.length ≤ 20 ∧ ∀ x ∈ l, x.f0.size ≤ 200 ∧ x.f1.size ≤ 200) := few_l l hl _ 0 rfl (Nat.zero_le _) (fun _ _ h => absurd h (Nat.not_lt_zero _))
end Go.Proofs.Ytipmmjbjgbfgjaa.SpA
