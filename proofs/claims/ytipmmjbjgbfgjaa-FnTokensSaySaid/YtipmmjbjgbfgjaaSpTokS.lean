/- The reference's tokens: what the plain functions come to. No program in sight. -/
import Derived.Test.YtipmmjbjgbfgjaaQ3
import Derived.Test.YtipmmjbjgbfgjaaQ5
import Derived.Test.YtipmmjbjgbfgjaaQ7
import Derived.Test.YtipmmjbjgbfgjaaSpTok
namespace Go.Proofs.Ytipmmjbjgbfgjaa.SpA
open Go.RowKit Go.Proofs.Ytipmmjbjgbfgjaa.Q Go.Proofs.YtipmmjbjgbfgjaaW.PrintWords Go.Proofs.YtipmmjbjgbfgjaaW.PrintLast Go.Proofs.YtipmmjbjgbfgjaaKit
set_option linter.unusedVariables false
set_option linter.unusedSimpArgs false
def isLe (c : Int) : Bool := (decide (97 ≤ c) && decide (c ≤ 122)) || (decide (65 ≤ c) && decide (c ≤ 90))
theorem isLe0 : isLe 0 = false := by decide
theorem ch_all {p : Int → Prop} (h : ∀ c : Fin 256, p ((c : Nat) : Int)) (s : ByteArray) (n : Nat) : p (chAt s n) := by
  have hb := ch_byte s n
  have := h ⟨(chAt s n).toNat, by omega⟩
  simp only [show (((chAt s n).toNat : Nat) : Int) = chAt s n by omega] at this
  exact this
theorem lt_le (s : ByteArray) (n : Nat) : isLt (chAt s n) = (isLe (chAt s n) || decide (chAt s n = 95)) := ch_all (p := fun c => isLt c = (isLe c || decide (c = 95))) (by decide +kernel) s n
theorem cls_le (s : ByteArray) (n : Nat) : isLe (chAt s n) = true → isWs (chAt s n) = false ∧ resT (chAt s n) = 8 ∧ isLt (chAt s n) = true := ch_all (p := fun c => isLe c = true → isWs c = false ∧ resT c = 8 ∧ isLt c = true) (by decide +kernel) s n
theorem cls_dg (s : ByteArray) (n : Nat) : isDg (chAt s n) = true → isWs (chAt s n) = false ∧ resT (chAt s n) = 8 ∧ isLt (chAt s n) = false := ch_all (p := fun c => isDg c = true → isWs c = false ∧ resT c = 8 ∧ isLt c = false) (by decide +kernel) s n
def sgn (c : Int) : Int := (spec_signOf.f c).getD 0
theorem sgn_eq (c : Int) : spec_signOf.f c = some (sgn c) := by
  unfold sgn spec_signOf.f
  repeat' split
  all_goals rfl
theorem cls_sgn (s : ByteArray) (n : Nat) : sgn (chAt s n) ≠ 0 → isWs (chAt s n) = false ∧ resT (chAt s n) = sgn (chAt s n) ∧ sgn (chAt s n) ≠ 8 ∧ L (Utf8.encode (chAt s n)) = [(chAt s n).toNat.toUInt8] ∧ chAt s n ≠ 95 := ch_all (p := fun c => sgn c ≠ 0 → isWs c = false ∧ resT c = sgn c ∧ sgn c ≠ 8 ∧ L (Utf8.encode c) = [c.toNat.toUInt8] ∧ c ≠ 95) (by decide +kernel) s n
theorem le95 (s : ByteArray) (n : Nat) : isLe (chAt s n) = true → chAt s n ≠ 95 := ch_all (p := fun c => isLe c = true → c ≠ 95) (by decide +kernel) s n
theorem dg95 (s : ByteArray) (n : Nat) : isDg (chAt s n) = true → chAt s n ≠ 95 := ch_all (p := fun c => isDg c = true → c ≠ 95) (by decide +kernel) s n
theorem skipN_end {P : Int → Bool} (h0 : P 0 = false) (s : ByteArray) : ∀ f n, s.size ≤ n + f → P (chAt s (skipN P s f n)) = false
  | 0, n, h => by rw [skipN, ch_out s n (by omega)]; exact h0
  | f + 1, n, h => by
    rw [skipN]
    by_cases hc : P (chAt s n) = true
    · rw [if_pos hc]; exact skipN_end h0 s f (n + 1) (by omega)
    · rw [if_neg hc]; simpa using hc
theorem skip_end {P : Int → Bool} (h0 : P 0 = false) (s : ByteArray) (n : Nat) : P (chAt s (skipTo P s n)) = false := skipN_end h0 s _ n (by omega)
theorem skip_wider {P Q : Int → Bool} (h0 : P 0 = false) (q0 : Q 0 = false) (s : ByteArray) (hpq : ∀ n, P (chAt s n) = true → Q (chAt s n) = true) : ∀ d n, s.size - n = d → Q (chAt s (skipTo P s n)) = false → skipTo Q s n = skipTo P s n := by
  intro d
  induction d with
  | zero =>
    intro n hd h
    rw [skipTo_far (by omega), skipTo_far (by omega)]
  | succ d ih =>
    intro n hd h
    by_cases hc : P (chAt s n) = true
    · rw [skip_go h0 hc] at h ⊢
      rw [skip_go q0 (hpq n hc)]
      exact ih (n + 1) (by omega) h
    · have e := skip_stop (P := P) (s := s) (n := n) (by simpa using hc)
      rw [e] at h ⊢
      exact skip_stop h
theorem ext_size (s : ByteArray) (i : Nat) (h : i ≤ s.size) : (s.extract i s.size).size = s.size - i := by simp
theorem ch_ext (s : ByteArray) (i j : Nat) (h : i ≤ s.size) : chAt (s.extract i s.size) j = chAt s (i + j) := by
  by_cases hj : j < s.size - i
  · have h1 : j < (L (s.extract i s.size)).length := by rw [← size_L, ext_size s i h]; exact hj
    have h2 : i + j < (L s).length := by rw [← size_L]; omega
    rw [ch_at _ _ h1, ch_at _ _ h2]
    congr 2
    have e : (L (s.extract i s.size))[j]? = (L s)[i + j]? := by
      rw [L_extract, List.getElem?_take, if_pos hj, List.getElem?_drop]
    rw [List.getElem?_eq_getElem h1, List.getElem?_eq_getElem h2] at e
    exact Option.some.inj e
  · rw [ch_out _ _ (by rw [ext_size s i h]; omega), ch_out _ _ (by omega)]
theorem bt_ch (s : ByteArray) (n : Nat) (h : n < s.size) : bt s (n : Int) = chAt s n := by unfold chAt; rw [if_pos h]
theorem word_from (s : ByteArray) (i : Nat) (h : i ≤ s.size) (hs : s.size ≤ 2147483647) : ∀ d j, s.size - (i + j) = d → i + j ≤ s.size → Ev (fun k => spec_word.l0 k (s.extract i s.size) (j : Int)) ((skipTo isLe s (i + j) - i : Nat) : Int) := by
  intro d
  induction d with
  | zero =>
    intro j hd hj
    refine Ev.step (f := fun _ => some (j : Int)) (fun k => ?_) (Ev.same (Ev.now _) (by rw [skipTo_far (by omega)]; omega))
    simp only [spec_word.l0]
    rw [if_neg (by rw [ext_size s i h]; omega)]
  | succ d ih =>
    intro j hd hj
    have hb : bt (s.extract i s.size) (j : Int) = chAt s (i + j) := by rw [bt_ch _ _ (by rw [ext_size s i h]; omega), ch_ext s i j h]
    have hw : wrap64 ((j : Int) + 1) = ((j + 1 : Nat) : Int) := by rw [wrap_id (by omega) (by omega)]; omega
    have hstep : ∀ k, spec_word.l0 (k + 1) (s.extract i s.size) (j : Int) = if isLe (chAt s (i + j)) = true then spec_word.l0 k (s.extract i s.size) ((j + 1 : Nat) : Int) else some (j : Int) := fun k => by
      simp only [spec_word.l0]
      rw [if_pos (by rw [ext_size s i h]; omega), if_pos (by omega), hb, hw]
      unfold isLe
      generalize chAt s (i + j) = c
      by_cases a1 : c ≥ 97 <;> by_cases a2 : c ≤ 122 <;> by_cases a3 : c ≥ 65 <;> by_cases a4 : c ≤ 90 <;> simp [a1, a2, a3, a4] <;> omega
    by_cases hc : isLe (chAt s (i + j)) = true
    · refine Ev.step (fun k => by rw [hstep k, if_pos hc]) (Ev.same (ih (j + 1) (by omega) (by omega)) ?_)
      rw [skip_go isLe0 hc]
      rfl
    · refine Ev.step (f := fun _ => some (j : Int)) (fun k => by rw [hstep k, if_neg hc]) (Ev.same (Ev.now _) ?_)
      rw [skip_stop (by simpa using hc)]
      omega
theorem word_ev (s : ByteArray) (i : Nat) (h : i ≤ s.size) (hs : s.size ≤ 2147483647) : Ev (fun k => spec_word.f k (s.extract i s.size)) ((skipTo isLe s i - i : Nat) : Int) := word_from s i h hs _ 0 rfl h
theorem num_from (s : ByteArray) (i : Nat) (h : i ≤ s.size) (hs : s.size ≤ 2147483647) : ∀ d j, s.size - (i + j) = d → i + j ≤ s.size → Ev (fun k => spec_number.l0 k (s.extract i s.size) (j : Int)) ((skipTo isDg s (i + j) - i : Nat) : Int) := by
  intro d
  induction d with
  | zero =>
    intro j hd hj
    refine Ev.step (f := fun _ => some (j : Int)) (fun k => ?_) (Ev.same (Ev.now _) (by rw [skipTo_far (by omega)]; omega))
    simp only [spec_number.l0]
    rw [if_neg (by rw [ext_size s i h]; omega)]
  | succ d ih =>
    intro j hd hj
    have hb : bt (s.extract i s.size) (j : Int) = chAt s (i + j) := by rw [bt_ch _ _ (by rw [ext_size s i h]; omega), ch_ext s i j h]
    have hw : wrap64 ((j : Int) + 1) = ((j + 1 : Nat) : Int) := by rw [wrap_id (by omega) (by omega)]; omega
    have hdg : isDg (chAt s (i + j)) = (decide (48 ≤ chAt s (i + j)) && decide (chAt s (i + j) ≤ 57)) := ch_all (p := fun c => isDg c = (decide (48 ≤ c) && decide (c ≤ 57))) (by decide +kernel) s (i + j)
    have hstep : ∀ k, spec_number.l0 (k + 1) (s.extract i s.size) (j : Int) = if isDg (chAt s (i + j)) = true then spec_number.l0 k (s.extract i s.size) ((j + 1 : Nat) : Int) else some (j : Int) := fun k => by
      simp only [spec_number.l0]
      rw [if_pos (by rw [ext_size s i h]; omega), if_pos (by omega), hb, hw, hdg]
      generalize chAt s (i + j) = c
      by_cases a1 : c ≥ 48 <;> by_cases a2 : c ≤ 57 <;> simp [a1, a2] <;> omega
    by_cases hc : isDg (chAt s (i + j)) = true
    · refine Ev.step (fun k => by rw [hstep k, if_pos hc]) (Ev.same (ih (j + 1) (by omega) (by omega)) ?_)
      rw [skip_go isDg0 hc]
      rfl
    · refine Ev.step (f := fun _ => some (j : Int)) (fun k => by rw [hstep k, if_neg hc]) (Ev.same (Ev.now _) ?_)
      rw [skip_stop (by simpa using hc)]
      omega
theorem num_ev (s : ByteArray) (i : Nat) (h : i ≤ s.size) (hs : s.size ≤ 2147483647) : Ev (fun k => spec_number.f k (s.extract i s.size)) ((skipTo isDg s i - i : Nat) : Int) := num_from s i h hs _ 0 rfl h
theorem skip_pos {P : Int → Bool} (h0 : P 0 = false) (s : ByteArray) (n : Nat) : 0 < skipTo P s n - n ↔ P (chAt s n) = true := by
  constructor
  · intro h
    refine Classical.byContradiction fun hc => ?_
    rw [skip_stop (by simpa using hc)] at h
    omega
  · intro h
    have := skipTo_gt h0 h
    omega
end Go.Proofs.Ytipmmjbjgbfgjaa.SpA
