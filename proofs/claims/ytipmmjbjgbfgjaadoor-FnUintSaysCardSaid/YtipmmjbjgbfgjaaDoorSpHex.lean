/- Hexadecimal digits: what the plain functions come to. No program in sight. -/
import Derived.Test.YtipmmjbjgbfgjaaDoorQ11
import Derived.Test.YtipmmjbjgbfgjaaDoorQ12
import Derived.Test.YtipmmjbjgbfgjaaDoorQ13
import Derived.Test.YtipmmjbjgbfgjaaDoorQ14
import Derived.Test.YtipmmjbjgbfgjaaDoorSpBytes
namespace Go.Proofs.YtipmmjbjgbfgjaaDoor.SpA
open Go.RowKit Go.Proofs.YtipmmjbjgbfgjaaDoor.Q Go.Proofs.YtipmmjbjgbfgjaaDoorW.PrintWords Go.Proofs.YtipmmjbjgbfgjaaDoorW.PrintLast Go.Proofs.YtipmmjbjgbfgjaaDoorKit
set_option linter.unusedVariables false
set_option linter.unusedSimpArgs false
/-- The digits' numbers. -/
def nib : Nat → Nat → List Nat → List Nat
  | 0, _, acc => acc
  | d + 1, n, acc => if n = 0 then acc else nib d (n / 16) (n % 16 :: acc)
abbrev LX : ByteArray := ⟨#[48, 49, 50, 51, 52, 53, 54, 55, 56, 57, 97, 98, 99, 100, 101, 102]⟩
def hx (d : Nat) : UInt8 := (L LX).getD d 0
theorem bt_LX (d : Nat) (h : d < 16) : bt LX (d : Int) = ((hx d).toNat : Int) := by
  rw [bt_nat LX d (by simpa using h)]
  unfold hx
  rw [List.getD_eq_getElem?_getD, List.getElem?_eq_getElem (show d < (L LX).length from h)]
  rfl
theorem hexd_nib : ∀ (d n : Nat) (acc : List Nat), hexd d n (toI (acc.map hx)) = toI ((nib d n acc).map hx)
  | 0, n, acc => rfl
  | d + 1, n, acc => by
    rw [hexd, nib]
    split
    · rfl
    · have := hexd_nib d (n / 16) (n % 16 :: acc)
      rw [← this, bt_LX _ (by omega)]
      rfl
theorem nib_acc : ∀ (d n : Nat) (acc : List Nat), nib d n acc = nib d n [] ++ acc
  | 0, n, acc => rfl
  | d + 1, n, acc => by
    rw [nib, nib]
    split
    · rfl
    · rw [nib_acc d _ (n % 16 :: acc), nib_acc d _ [n % 16]]
      simp
theorem nib_lt : ∀ (d n : Nat) (acc : List Nat), (∀ x ∈ acc, x < 16) → ∀ x ∈ nib d n acc, x < 16
  | 0, n, acc, h => h
  | d + 1, n, acc, h => by
    rw [nib]
    split
    · exact h
    · refine nib_lt d _ _ (fun x hx => ?_)
      rcases List.mem_cons.1 hx with rfl | hx
      · omega
      · exact h x hx
theorem nib_len : ∀ (d n : Nat), (nib d n []).length ≤ d
  | 0, n => by simp [nib]
  | d + 1, n => by
    rw [nib]
    split
    · simp
    · rw [nib_acc, List.length_append]
      have := nib_len d (n / 16)
      simp
      omega
def valN (l : List Nat) : Nat := l.foldl (fun x d => x * 16 + d) 0
theorem valN_snoc (l : List Nat) (d : Nat) : valN (l ++ [d]) = valN l * 16 + d := by unfold valN; rw [List.foldl_append, List.foldl_cons, List.foldl_nil]
theorem nib_val : ∀ (d n : Nat), n < 16 ^ d → valN (nib d n []) = n
  | 0, n, h => by simp [nib, valN]; simp at h; omega
  | d + 1, n, h => by
    rw [nib]
    split
    · rename_i h0; rw [h0]; rfl
    · rw [nib_acc, valN_snoc, nib_val d (n / 16) (by rw [Nat.pow_succ] at h; omega)]
      omega
theorem nib_head : ∀ (d n : Nat), n < 16 ^ d → 0 < n → ∃ x t, nib d n [] = x :: t ∧ 0 < x
  | 0, n, h, hp => by simp at h; omega
  | d + 1, n, h, hp => by
    rw [nib, if_neg (by omega), nib_acc]
    by_cases h0 : n / 16 = 0
    · refine ⟨n % 16, [], ?_, by omega⟩
      rw [h0]
      cases d <;> simp [nib]
    · obtain ⟨x, t, e, hx⟩ := nib_head d (n / 16) (by rw [Nat.pow_succ] at h; omega) (by omega)
      exact ⟨x, t ++ [n % 16], by rw [e]; rfl, hx⟩
/-! ### how many digits -/
theorem len_l : ∀ (d n : Nat) (c : Nat), n < 16 ^ d → c + d ≤ 100 → Ev (fun k => hertzconv_EncodedIntHexLen.l0 k (n : Int) (c : Int)) ((c + (nib d n []).length : Nat) : Int)
  | 0, n, c, h, hc => by
    have : n = 0 := by simp at h; omega
    subst this
    refine Ev.step (f := fun _ => some (c : Int)) (fun k => ?_) (Ev.same (Ev.now _) (by simp [nib]))
    simp only [hertzconv_EncodedIntHexLen.l0]
    rw [if_neg (by omega)]
  | d + 1, n, c, h, hc => by
    by_cases h0 : n = 0
    · subst h0
      refine Ev.step (f := fun _ => some (c : Int)) (fun k => ?_) (Ev.same (Ev.now _) (by simp [nib]))
      simp only [hertzconv_EncodedIntHexLen.l0]
      rw [if_neg (by omega)]
    · have ih := len_l d (n / 16) (c + 1) (by rw [Nat.pow_succ] at h; omega) (by omega)
      rw [nib, if_neg h0, nib_acc]
      refine Ev.step (fun k => ?_) (Ev.same ih (by rw [List.length_append]; simp; omega))
      simp only [hertzconv_EncodedIntHexLen.l0]
      rw [if_pos (by omega), wrap_id (by omega) (by omega)]
      rfl
/-- The text of a number. -/
def digs (n : Nat) : List Nat := if n = 0 then [0] else nib 16 n []
theorem hexText (n : Nat) (h : n < 16 ^ 16) : Ev (fun k => impl_HexText.f k (n : Int)) (⟨((digs n).map hx).toArray⟩, (((digs n).length : Nat) : Int)) := by
  have ha : hertzconv_AppendIntHex.f ([] : List Int) (n : Int) = some (toI ((digs n).map hx)) := by
    unfold hertzconv_AppendIntHex.f digs
    rw [if_pos ⟨by omega, by omega, by simp⟩]
    by_cases h0 : n = 0
    · rw [if_pos (by omega), if_pos h0]; rfl
    · rw [if_neg (by omega), if_neg h0]
      have := hexd_nib 16 n []
      simp only [List.map_nil] at this
      rw [show (n : Int).toNat = n by omega]
      congr 1
  have hb : Ev (fun k => hertzconv_EncodedIntHexLen.f k (n : Int)) (((digs n).length : Nat) : Int) := by
    unfold hertzconv_EncodedIntHexLen.f digs
    by_cases h0 : n = 0
    · exact Ev.pos (by omega) (Ev.some (by rw [if_pos h0]; rfl))
    · refine Ev.neg (by omega) ?_
      rw [if_neg h0]
      exact Ev.same (len_l 16 n 0 h (by omega)) (by simp)
  unfold impl_HexText.f
  rw [ha]
  simp only [Option.bind_some]
  refine Ev.call hb (Ev.some ?_)
  rw [show strOfNums (toI ((digs n).map hx)) = ⟨((digs n).map hx).toArray⟩ from ext (L_strOf _)]

/-- The same, as the reference works it out. -/
def hexS (n : Nat) : List Nat := if h : n < 16 then [n] else hexS (n / 16) ++ [n % 16]
termination_by n
decreasing_by omega
theorem nib_hexS : ∀ (d n : Nat), 0 < n → n < 16 ^ d → nib d n [] = hexS n
  | 0, n, h0, h => by simp at h; omega
  | d + 1, n, h0, h => by
    rw [nib, if_neg (by omega), nib_acc, hexS]
    by_cases c : n < 16
    · rw [dif_pos c, show n / 16 = 0 by omega, show n % 16 = n by omega]
      cases d <;> simp [nib]
    · rw [dif_neg c, nib_hexS d (n / 16) (by omega) (by rw [Nat.pow_succ] at h; omega)]
theorem digs_hexS (n : Nat) (h : n < 16 ^ 16) : digs n = hexS n := by
  unfold digs
  by_cases h0 : n = 0
  · subst h0
    rw [if_pos rfl, hexS, dif_pos (by decide)]
  · rw [if_neg h0, nib_hexS 16 n (by omega) h]
theorem hexS_len : ∀ (d n : Nat), n < 16 ^ (d + 1) → (hexS n).length ≤ d + 1
  | 0, n, h => by
    rw [hexS, dif_pos (by omega)]
    simp
  | d + 1, n, h => by
    rw [hexS]
    split
    · simp
    · have := hexS_len d (n / 16) (by rw [Nat.pow_succ] at h; omega)
      simp
      omega
theorem ext16 (d : Nat) (h : d < 16) : L (LX.extract d (d + 1)) = [hx d] := by
  have : ∀ e : Fin 16, L (LX.extract e (e + 1)) = [hx e] := by decide +kernel
  exact this ⟨d, h⟩
theorem specHex : ∀ (d n : Nat), n < 16 ^ (d + 1) → d ≤ 15 → ∃ s, Ev (fun k => spec_HexText.f k (n : Int)) (s, ((hexS n).length : Int)) ∧ L s = (hexS n).map hx := by
  intro d
  induction d with
  | zero =>
    intro n h hd
    have hn : n < 16 := by omega
    have hb := bits15 n (by omega)
    have hm : n % 16 = n := by omega
    refine ⟨LX.extract n (n + 1), ?_, ?_⟩
    · refine Ev.step (f := fun _ => some (LX.extract n (n + 1), (1 : Int))) (fun k => ?_) (Ev.same (Ev.now _) (by rw [hexS, dif_pos hn]; rfl))
      simp only [spec_HexText.f]
      rw [hb, hm, wraps_u64 _ (by omega) (by omega), if_pos (by omega), if_pos (by omega), if_pos (by omega), if_pos (by omega)]
      congr 2
    · rw [ext16 n hn, hexS, dif_pos hn]
      rfl
  | succ d ih =>
    intro n h hd
    have hb := bits15 n (Nat.lt_of_lt_of_le h (Nat.le_trans (Nat.pow_le_pow_right (by omega) (show d + 1 + 1 ≤ 16 by omega)) (by decide)))
    by_cases c : n < 16
    · have hm : n % 16 = n := by omega
      refine ⟨LX.extract n (n + 1), ?_, ?_⟩
      · refine Ev.step (f := fun _ => some (LX.extract n (n + 1), (1 : Int))) (fun k => ?_) (Ev.same (Ev.now _) (by rw [hexS, dif_pos c]; rfl))
        simp only [spec_HexText.f]
        rw [hb, hm, wraps_u64 _ (by omega) (by omega), if_pos (by omega), if_pos (by omega), if_pos (by omega), if_pos (by omega)]
        congr 2
      · rw [ext16 n c, hexS, dif_pos c]
        rfl
    · have hq : n / 16 < 16 ^ (d + 1) := by rw [Nat.pow_succ] at h; omega
      obtain ⟨s, hs, he⟩ := ih (n / 16) hq (by omega)
      have hl := hexS_len d (n / 16) hq
      have hsz : s.size = (hexS (n / 16)).length := by rw [size_L, he, List.length_map]
      have hdm : n % 16 < 16 := by omega
      refine ⟨s ++ LX.extract (n % 16) (n % 16 + 1), ?_, ?_⟩
      · refine Ev.step (fun k => ?_) (Ev.call (f := fun _ (bt119 : ByteArray × Int) => if bt119.1.size + (min (n % 16 + 1) 16 - n % 16) ≤ 9223372036854775807 then some (bt119.1 ++ LX.extract (n % 16) (n % 16 + 1), wrap64 (bt119.2 + 1)) else none) hs (Ev.pos (show s.size + (min (n % 16 + 1) 16 - n % 16) ≤ 9223372036854775807 by omega) (Ev.some ?_)))
        · simp only [spec_HexText.f]
          rw [hb, wraps_u64 _ (by omega) (by omega), if_pos (by omega), if_pos (by omega), if_pos (by omega), if_neg (by omega)]
          rfl
        · conv => rhs; rw [hexS, dif_neg c]
          congr 2
          rw [wrap_id (by omega) (by omega)]
          simp
      · rw [L_append, he, ext16 _ hdm]
        conv => rhs; rw [hexS, dif_neg c]
        simp
end Go.Proofs.YtipmmjbjgbfgjaaDoor.SpA
