/- The tokens of a text, step by step. No program in sight. -/
import Derived.Test.YtipmmjbjgbfgjaaQ3
import Derived.Test.YtipmmjbjgbfgjaaKit
import Derived.Test.YtipmmjbjgbfgjaaLx5
namespace Go.Proofs.Ytipmmjbjgbfgjaa.SpA
open Go.RowKit Go.Proofs.Ytipmmjbjgbfgjaa.Q Go.Proofs.YtipmmjbjgbfgjaaW.PrintWords Go.Proofs.YtipmmjbjgbfgjaaW.PrintLast Go.Proofs.YtipmmjbjgbfgjaaKit
set_option linter.unusedVariables false
set_option linter.unusedSimpArgs false
theorem tokens_eq (s : ByteArray) (h : s.size ≤ 2147483647) : impl_Tokens.f s = some ((toks s 0).map toS) := if_pos h
theorem ch_at (s : ByteArray) (n : Nat) (h : n < (L s).length) : chAt s n = ((L s)[n].toNat : Int) := by
  unfold chAt
  rw [if_pos (by rw [size_L]; exact h)]
  exact bt_nat s n h
theorem ch_out (s : ByteArray) (n : Nat) (h : s.size ≤ n) : chAt s n = 0 := by unfold chAt; rw [if_neg (by omega)]
/-- What a run of bytes of a kind is. -/
theorem skip_run {P : Int → Bool} (h0 : P 0 = false) (s : ByteArray) : ∀ f n, n ≤ s.size → skipN P s f n ≤ s.size ∧ (∀ b ∈ ((L s).drop n).take (skipN P s f n - n), P (b.toNat : Int) = true)
  | 0, n, h => ⟨h, by simp [skipN]⟩
  | f + 1, n, h => by
    rw [skipN]
    by_cases hc : P (chAt s n) = true
    · rw [if_pos hc]
      have hin := ch_in h0 hc
      have hl : n < (L s).length := by rw [← size_L]; exact hin
      have ih := skip_run h0 s f (n + 1) hin
      have hge := skipN_ge P s f (n + 1)
      refine ⟨ih.1, fun b hb => ?_⟩
      rw [List.drop_eq_getElem_cons hl, show skipN P s f (n + 1) - n = (skipN P s f (n + 1) - (n + 1)) + 1 by omega, List.take_succ_cons, List.mem_cons] at hb
      rcases hb with rfl | hb
      · rw [← ch_at s n hl]; exact hc
      · exact ih.2 b hb
    · rw [if_neg hc]
      exact ⟨h, by simp⟩
theorem skip_seg {P : Int → Bool} (h0 : P 0 = false) (s : ByteArray) (n : Nat) (h : n ≤ s.size) : (L s).drop n = L (s.extract n (skipTo P s n)) ++ (L s).drop (skipTo P s n) ∧ (∀ b ∈ L (s.extract n (skipTo P s n)), P (b.toNat : Int) = true) := by
  have hr := skip_run h0 s (s.size - n) n h
  have hge := skipTo_ge P s n
  rw [L_extract]
  refine ⟨?_, hr.2⟩
  have : (L s).drop (skipTo P s n) = ((L s).drop n).drop (skipTo P s n - n) := by rw [List.drop_drop]; congr 1; omega
  rw [this, List.take_append_drop]
theorem next_ws {s : ByteArray} {n : Nat} (h : isWs (chAt s n) = true) : nextTk s n = nextTk s (n + 1) := by
  unfold nextTk
  rw [skip_go (by decide) h]
theorem toks_ws {s : ByteArray} {n : Nat} (h : isWs (chAt s n) = true) : toks s n = toks s (n + 1) := by
  have hin := ch_in (P := isWs) (by decide) h
  by_cases hk : (nextTk s n).1.k = 0
  · rw [toks_end s n (by omega) hk, toks_end s (n + 1) (by omega) (by rw [← next_ws h]; exact hk), next_ws h]
  · rw [toks_go s n (by omega) hk, toks_go s (n + 1) (by omega) (by rw [← next_ws h]; exact hk), next_ws h]
theorem next_sign {s : ByteArray} {n : Nat} (hw : isWs (chAt s n) = false) (h0 : resT (chAt s n) ≠ 0) (h8 : resT (chAt s n) ≠ 8) : nextTk s n = (tokAt (resT (chAt s n)) (Utf8.encode (chAt s n)) n, n + 1) := by
  unfold nextTk
  rw [skip_stop hw, if_neg h0, if_neg h8]
theorem next_name {s : ByteArray} {n : Nat} (hw : isWs (chAt s n) = false) (h8 : resT (chAt s n) = 8) (hl : isLt (chAt s n) = true) : nextTk s n = (tokAt (lookT (s.extract n (skipTo isLD s n))) (s.extract n (skipTo isLD s n)) (skipTo isLD s n), skipTo isLD s n) := by
  unfold nextTk
  rw [skip_stop hw, if_neg (by rw [h8]; decide), if_pos h8, if_pos hl]
theorem next_num {s : ByteArray} {n : Nat} (hw : isWs (chAt s n) = false) (h8 : resT (chAt s n) = 8) (hl : isLt (chAt s n) = false) (hd : isDg (chAt s n) = true) : nextTk s n = (tokAt 10 (s.extract n (skipTo isDg s n)) (skipTo isDg s n), skipTo isDg s n) := by
  unfold nextTk
  rw [skip_stop hw, if_neg (by rw [h8]; decide), if_pos h8, if_neg (by rw [hl]; simp), if_pos hd]
theorem next_end {s : ByteArray} {n : Nat} (h : s.size ≤ n) : nextTk s n = (⟨0, ⟨#[]⟩, 0, 0⟩, n + 1) := by
  unfold nextTk
  rw [skip_stop (by rw [ch_out s n h]; decide), if_pos (by rw [ch_out s n h]; decide)]
theorem toks_at_end (s : ByteArray) : toks s s.size = [⟨0, ⟨#[]⟩, 0, 0⟩] := by
  have := next_end (Nat.le_refl s.size)
  rw [toks_end s s.size (by omega) (by rw [this]), this]
theorem toks_ne (s : ByteArray) (n : Nat) (h : n ≤ s.size + 1) : toks s n ≠ [] := by
  by_cases hk : (nextTk s n).1.k = 0
  · rw [toks_end s n h hk]; simp
  · rw [toks_go s n h hk]; simp
theorem tokAt_t (k : Int) (t : ByteArray) (n : Nat) : (tokAt k t n).t = t := by unfold tokAt; split <;> rfl
/-- One of two signs and more ends behind its beginning. -/
theorem tokAt_az (k : Int) (t : ByteArray) (n : Nat) (h : 1 < t.size) (hn : t.size ≤ n) : (tokAt k t n).a < (tokAt k t n).z := by
  unfold tokAt
  rw [if_pos ⟨by omega, h⟩]
  show (n : Int) - (t.size : Int) < (n : Int) - 1
  omega
theorem id_toks : (toks ⟨#[123, 105, 100, 125]⟩ 0).map (fun x => (x.k, L x.t)) = [(2, [123]), (8, [105, 100]), (3, [125]), (0, [])] := by decide +kernel
end Go.Proofs.Ytipmmjbjgbfgjaa.SpA
