/- A number's decimal digits: what the plain function comes to. No program in sight. -/
import Derived.Test.YtjmcndbkmknemaaQ16
import Derived.Test.YtjmcndbkmknemaaKit
namespace Go.Proofs.Ytjmcndbkmknemaa.SpA
open Go.RowKit Go.Proofs.Ytjmcndbkmknemaa.Q Go.Proofs.YtjmcndbkmknemaaW.PrintWords Go.Proofs.YtjmcndbkmknemaaW.PrintLast Go.Proofs.YtjmcndbkmknemaaKit
set_option linter.unusedVariables false
set_option linter.unusedSimpArgs false
def dec (n : Nat) : List UInt8 := if h : n < 10 then [UInt8.ofNat (48 + n)] else dec (n / 10) ++ [UInt8.ofNat (48 + n % 10)]
termination_by n
decreasing_by omega
theorem enc_ascii (n : Nat) (h : n < 128) : L (Utf8.encode (n : Int)) = [UInt8.ofNat n] := by
  have hv : Utf8.valid (n : Int) = true := by
    unfold Utf8.valid
    rw [decide_eq_true (show (0 : Int) ≤ (n : Int) by omega), decide_eq_true (show (n : Int) < 0xD800 by omega)]
    rfl
  unfold Utf8.encode
  simp only [hv, if_true]
  rw [if_pos (show ((n : Int)).toNat < 0x80 by omega)]
  rfl
theorem enc_dig (d : Nat) (h : d < 10) : L (Utf8.encode (wrap32 (wrap64 (48 + (d : Int))))) = [UInt8.ofNat (48 + d)] := by
  rw [wrap_id (by omega) (by omega), show wrap32 (48 + (d : Int)) = ((48 + d : Nat) : Int) by unfold wrap32; omega]
  exact enc_ascii (48 + d) (by omega)
theorem dec_len : ∀ (m n : Nat), n < 10 ^ (m + 1) → (dec n).length ≤ m + 1
  | 0, n, h => by
    rw [dec, dif_pos (by omega)]
    simp
  | m + 1, n, h => by
    rw [dec]
    split
    · simp
    · rw [List.length_append, List.length_singleton]
      have := dec_len m (n / 10) (by rw [Nat.pow_succ] at h; omega)
      omega
theorem digits_ev : ∀ (m n : Nat), n < 10 ^ (m + 1) → m ≤ 17 → ∃ s, Ev (fun k => laws_digits.f k (n : Int)) s ∧ L s = dec n
  | 0, n, h, _ => by
    refine ⟨_, Ev.step (f := fun _ => some (Utf8.encode (wrap32 (wrap64 (48 + (n : Int)))))) (fun k => ?_) (Ev.now _), ?_⟩
    · simp only [laws_digits.f]
      rw [if_pos (by omega)]
    · rw [enc_dig n (by omega), dec, dif_pos (by omega)]
  | m + 1, n, h, hm => by
    by_cases c : n < 10
    · refine ⟨_, Ev.step (f := fun _ => some (Utf8.encode (wrap32 (wrap64 (48 + (n : Int)))))) (fun k => ?_) (Ev.now _), ?_⟩
      · simp only [laws_digits.f]
        rw [if_pos (by omega)]
      · rw [enc_dig n c, dec, dif_pos c]
    · have hb : n < 10 ^ 18 := Nat.lt_of_lt_of_le h (Nat.pow_le_pow_right (by omega) (by omega))
      obtain ⟨s, hs, he⟩ := digits_ev m (n / 10) (by rw [Nat.pow_succ] at h; omega) (by omega)
      have hsz : s.size ≤ 19 := by
        rw [size_L, he]
        exact Nat.le_trans (dec_len m (n / 10) (by rw [Nat.pow_succ] at h; omega)) (by omega)
      have hq : Int.tdiv (n : Int) 10 = ((n / 10 : Nat) : Int) := by rw [Int.tdiv_eq_ediv_of_nonneg (by omega)]; omega
      have hr : Int.tmod (n : Int) 10 = ((n % 10 : Nat) : Int) := by rw [Int.tmod_eq_emod_of_nonneg (by omega)]; omega
      have hed := enc_dig (n % 10) (by omega)
      have hes : (Utf8.encode (wrap32 (wrap64 (48 + ((n % 10 : Nat) : Int))))).size = 1 := by rw [size_L, hed]; rfl
      have hdiv : n / 10 ≤ 9223372036854775807 := by omega
      refine ⟨s ++ Utf8.encode (wrap32 (wrap64 (48 + ((n % 10 : Nat) : Int)))), ?_, ?_⟩
      · refine Ev.step (fun k => ?_) (Ev.call (f := fun _ t => if t.size + (Utf8.encode (wrap32 (wrap64 (48 + ((n % 10 : Nat) : Int))))).size ≤ 9223372036854775807 then some (t ++ Utf8.encode (wrap32 (wrap64 (48 + ((n % 10 : Nat) : Int))))) else none) hs (Ev.pos (show s.size + (Utf8.encode (wrap32 (wrap64 (48 + ((n % 10 : Nat) : Int))))).size ≤ 9223372036854775807 by omega) (Ev.now _)))
        simp only [laws_digits.f]
        rw [if_neg (by omega), hq, hr, wrap_id (by omega) (by omega)]
      · rw [L_append, he, hed]
        conv => rhs; rw [dec, dif_neg c]
theorem digits (n : Nat) (h : n < 10 ^ 18) : ∃ s, Ev (fun k => laws_digits.f k (n : Int)) s ∧ L s = dec n := digits_ev 17 n h (by omega)
end Go.Proofs.Ytjmcndbkmknemaa.SpA
