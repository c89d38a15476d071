/- A byte taken away at a text's ends: what the plain functions come to. No program in sight. -/
import Derived.Test.YtipmmjbjgbfgjaaQ1
import Derived.Test.YtipmmjbjgbfgjaaQ3
import Derived.Test.YtipmmjbjgbfgjaaTrB
import Derived.Test.YtipmmjbjgbfgjaaSpBytes
import Derived.Test.YtipmmjbjgbfgjaaSpSht
namespace Go.Proofs.Ytipmmjbjgbfgjaa.SpA
open Go.RowKit Go.Proofs.Ytipmmjbjgbfgjaa.Q Go.Proofs.YtipmmjbjgbfgjaaW.PrintWords Go.Proofs.YtipmmjbjgbfgjaaW.PrintLast Go.Proofs.YtipmmjbjgbfgjaaKit
set_option linter.unusedVariables false
set_option linter.unusedSimpArgs false
/-- How many of a text's first bytes are c; how long it is without those at its end. -/
def ldS (s : ByteArray) (c : Int) : Nat := leadN c (toI (L s))
def tlS (s : ByteArray) (c : Int) : Nat := tailN c (toI (L s))
def trS (s : ByteArray) (c : Int) : ByteArray := if ldS s c < s.size then s.extract (ldS s c) (tlS s c) else ⟨#[]⟩
theorem bt_get (s : ByteArray) (i : Nat) (h : i < s.size) : bt s (i : Int) = (toI (L s)).getD i 0 := by
  have hl : i < (L s).length := by rw [← size_L]; exact h
  rw [bt_nat s i hl, List.getD_eq_getElem?_getD, List.getElem?_eq_getElem (by rw [toI_length]; exact hl)]
  simp [toI]
section
variable (s : ByteArray) (c : Int)
theorem ld_le : ldS s c ≤ s.size := by have := leadN_le c (toI (L s)); rw [toI_length, ← size_L] at this; exact this
theorem tl_le : tlS s c ≤ s.size := by have := tailN_le c (toI (L s)); rw [toI_length, ← size_L] at this; exact this
theorem ld_lt (i : Nat) (h : i < ldS s c) : bt s (i : Int) = c := by
  rw [bt_get s i (Nat.lt_of_lt_of_le h (ld_le s c))]
  exact leadN_lt c _ i h
theorem ld_at (h : ldS s c < s.size) : bt s (ldS s c : Int) ≠ c := by
  rw [bt_get s _ h]
  exact leadN_at c _ (by rw [toI_length, ← size_L]; exact h)
theorem tl_ge (i : Nat) (h1 : tlS s c ≤ i) (h2 : i < s.size) : bt s (i : Int) = c := by
  rw [bt_get s _ h2]
  exact tailN_ge c _ i h1 (by rw [toI_length, ← size_L]; exact h2)
theorem tl_at (h : 0 < tlS s c) : bt s ((tlS s c - 1 : Nat) : Int) ≠ c := by
  rw [bt_get s _ (by have := tl_le s c; omega)]
  exact tailN_at c _ h
theorem ld_tl (h : ldS s c < s.size) : ldS s c < tlS s c := lead_tail c _ (by rw [toI_length, ← size_L]; exact h)
theorem tl_zero (h : ¬ ldS s c < s.size) : tlS s c = 0 := by
  refine Classical.byContradiction fun hn => ?_
  have h1 := tl_at s c (by omega)
  exact h1 (ld_lt s c _ (by have := tl_le s c; omega))
end
theorem left_l (s : ByteArray) (c : Int) (hs : s.size ≤ 2147483647) : ∀ d n, ldS s c - n = d → n ≤ ldS s c → Ev (fun k => fiberutils_TrimLeft.l0 k s c (s.size : Int) (n : Int)) (s.extract (ldS s c) s.size) := by
  have hld := ld_le s c
  intro d
  induction d with
  | zero =>
    intro n hd hn
    obtain rfl : n = ldS s c := by omega
    refine Ev.step (f := fun _ => some (s.extract (ldS s c) s.size)) (fun k => ?_) (Ev.now _)
    simp only [fiberutils_TrimLeft.l0]
    by_cases h : ldS s c < s.size
    · rw [if_pos (by omega), if_pos (by omega), if_pos (by omega), if_neg (ld_at s c h), if_pos (by omega), Int.toNat_natCast]
    · rw [if_neg (by omega), if_pos (by omega), if_pos (by omega), Int.toNat_natCast]
  | succ d ih =>
    intro n hd hn
    have hw : wrap64 ((n : Int) + 1) = ((n + 1 : Nat) : Int) := by unfold wrap64; omega
    refine Ev.step (fun k => ?_) (ih (n + 1) (by omega) (by omega))
    simp only [fiberutils_TrimLeft.l0]
    rw [if_pos (by omega), if_pos (by omega), if_pos (by omega), if_pos (ld_lt s c n (by omega)), hw]
theorem left_f (s : ByteArray) (c : Int) (hs : s.size ≤ 2147483647) : Ev (fun k => impl_TrimLeft.f k s c) (s.extract (ldS s c) s.size) := by
  unfold impl_TrimLeft.f fiberutils_TrimLeft.f
  exact Ev.call (left_l s c hs _ 0 rfl (Nat.zero_le _)) (Ev.now _)
theorem right_l (s : ByteArray) (c : Int) (hs : s.size ≤ 2147483647) : ∀ d n, n - tlS s c = d → tlS s c ≤ n → n ≤ s.size → Ev (fun k => fiberutils_TrimRight.l0 k s c (n : Int)) (s.extract 0 (tlS s c)) := by
  intro d
  induction d with
  | zero =>
    intro n hd hn hs2
    obtain rfl : n = tlS s c := by omega
    refine Ev.step (f := fun _ => some (s.extract 0 (tlS s c))) (fun k => ?_) (Ev.now _)
    simp only [fiberutils_TrimRight.l0]
    by_cases h : 0 < tlS s c
    · have hw : wrap64 ((tlS s c : Int) - 1) = ((tlS s c - 1 : Nat) : Int) := by unfold wrap64; omega
      rw [if_pos (by omega), hw, if_pos (by omega), if_pos (by omega), if_neg (tl_at s c h), if_pos (by omega), if_pos (by omega), Int.toNat_natCast]
    · rw [if_neg (by omega), if_pos (by omega), if_pos (by omega), Int.toNat_natCast]
  | succ d ih =>
    intro n hd hn hs2
    have hw : wrap64 ((n : Int) - 1) = ((n - 1 : Nat) : Int) := by unfold wrap64; omega
    refine Ev.step (fun k => ?_) (ih (n - 1) (by omega) (by omega) (by omega))
    simp only [fiberutils_TrimRight.l0]
    rw [if_pos (by omega), hw, if_pos (by omega), if_pos (by omega), if_pos (tl_ge s c (n - 1) (by omega) (by omega))]
theorem right_f (s : ByteArray) (c : Int) (hs : s.size ≤ 2147483647) : Ev (fun k => impl_TrimRight.f k s c) (s.extract 0 (tlS s c)) := by
  unfold impl_TrimRight.f fiberutils_TrimRight.f
  exact Ev.call (right_l s c hs _ s.size rfl (tl_le s c) (Nat.le_refl _)) (Ev.now _)
theorem both_l1 (s : ByteArray) (c : Int) (hs : s.size ≤ 2147483647) (h : ldS s c < s.size) : ∀ d n, n - tlS s c = d → tlS s c ≤ n → n ≤ s.size → Ev (fun k => fiberutils_Trim.l1 k s c (ldS s c : Int) ((n : Int) - 1)) (s.extract (ldS s c) (tlS s c)) := by
  have hlt := ld_tl s c h
  intro d
  induction d with
  | zero =>
    intro n hd hn hs2
    obtain rfl : n = tlS s c := by omega
    have e : ((tlS s c : Int) - 1) = ((tlS s c - 1 : Nat) : Int) := by omega
    have hw : wrap64 ((tlS s c : Int) - 1 + 1) = (tlS s c : Int) := by unfold wrap64; omega
    refine Ev.step (f := fun _ => some (s.extract (ldS s c) (tlS s c))) (fun k => ?_) (Ev.now _)
    simp only [fiberutils_Trim.l1]
    by_cases h1 : (ldS s c : Int) < (tlS s c : Int) - 1
    · rw [if_pos h1, if_pos (by omega), if_pos (by omega), if_neg (by rw [e]; exact tl_at s c (by omega)), if_pos (by omega), hw, if_pos (by omega), if_pos (by omega), Int.toNat_natCast, Int.toNat_natCast]
    · rw [if_neg h1, if_pos (by omega), hw, if_pos (by omega), if_pos (by omega), Int.toNat_natCast, Int.toNat_natCast]
  | succ d ih =>
    intro n hd hn hs2
    have e : ((n : Int) - 1) = ((n - 1 : Nat) : Int) := by omega
    have hw : wrap64 ((n : Int) - 1 - 1) = ((n - 1 : Nat) : Int) - 1 := by unfold wrap64; omega
    refine Ev.step (fun k => ?_) (ih (n - 1) (by omega) (by omega) (by omega))
    simp only [fiberutils_Trim.l1]
    rw [if_pos (by omega), if_pos (by omega), if_pos (by omega), if_pos (by rw [e]; exact tl_ge s c (n - 1) (by omega) (by omega)), hw]
theorem both_l0 (s : ByteArray) (c : Int) (hs : s.size ≤ 2147483647) : ∀ d n, ldS s c - n = d → n ≤ ldS s c → Ev (fun k => fiberutils_Trim.l0 k s c (n : Int) ((s.size : Int) - 1)) (trS s c) := by
  have hld := ld_le s c
  intro d
  induction d with
  | zero =>
    intro n hd hn
    obtain rfl : n = ldS s c := by omega
    by_cases h : ldS s c < s.size
    · have h1 := both_l1 s c hs h _ s.size rfl (tl_le s c) (Nat.le_refl _)
      rw [trS, if_pos h]
      refine Ev.step (f := fun k => fiberutils_Trim.j1 k s c (ldS s c : Int) ((s.size : Int) - 1)) (fun k => ?_) (Ev.step (fun k => ?_) h1)
      · simp only [fiberutils_Trim.l0]
        rw [if_pos (by omega), if_pos (by omega), if_pos (by omega), if_neg (ld_at s c h)]
      · simp only [fiberutils_Trim.j1]
    · rw [trS, if_neg h]
      have hw : wrap64 ((s.size : Int) - 1 + 1) = (s.size : Int) := by unfold wrap64; omega
      have he : s.extract (ldS s c) s.size = ⟨#[]⟩ := ext (by rw [L_extract, List.drop_eq_nil_of_le (by rw [← size_L]; omega), List.take_nil])
      refine Ev.step (f := fun k => fiberutils_Trim.j1 k s c (ldS s c : Int) ((s.size : Int) - 1)) (fun k => ?_) (Ev.step (f := fun k => fiberutils_Trim.l1 k s c (ldS s c : Int) ((s.size : Int) - 1)) (fun k => ?_) (Ev.step (f := fun _ => some ⟨#[]⟩) (fun k => ?_) (Ev.now _)))
      · simp only [fiberutils_Trim.l0]
        rw [if_neg (by omega)]
      · simp only [fiberutils_Trim.j1]
      · simp only [fiberutils_Trim.l1]
        rw [if_neg (by omega), if_pos (by omega), hw, if_pos (by omega), if_pos (by omega), Int.toNat_natCast, Int.toNat_natCast, he]
  | succ d ih =>
    intro n hd hn
    have hw : wrap64 ((n : Int) + 1) = ((n + 1 : Nat) : Int) := by unfold wrap64; omega
    refine Ev.step (fun k => ?_) (ih (n + 1) (by omega) (by omega))
    simp only [fiberutils_Trim.l0]
    rw [if_pos (by omega), if_pos (by omega), if_pos (by omega), if_pos (ld_lt s c n (by omega)), hw]
theorem both_f (s : ByteArray) (c : Int) (hs : s.size ≤ 2147483647) : Ev (fun k => impl_Trim.f k s c) (trS s c) := by
  unfold impl_Trim.f fiberutils_Trim.f
  have hw : wrap64 ((s.size : Int) - 1) = (s.size : Int) - 1 := by unfold wrap64; omega
  rw [hw]
  exact Ev.call (both_l0 s c hs _ 0 rfl (Nat.zero_le _)) (Ev.now _)
theorem tri_take (l : List UInt8) (n : Nat) : (toI l).take n = toI (l.take n) := by simp [toI, List.map_take]
theorem tri_drop (l : List UInt8) (n : Nat) : (toI l).drop n = toI (l.drop n) := by simp [toI, List.map_drop]
theorem bytes_f (s : ByteArray) (c : Int) : strOfNums (trimI (toI (L s)) c) = trS s c := by
  have hld := ld_le s c
  have htl := tl_le s c
  show strOfNums (((toI (L s)).take (max (tlS s c) (ldS s c))).drop (ldS s c)) = _
  rw [tri_take, tri_drop]
  refine ext ?_
  rw [L_strOf]
  by_cases h : ldS s c < s.size
  · have hlt := ld_tl s c h
    rw [trS, if_pos h, L_extract, Nat.max_eq_left (by omega), List.drop_take]
  · rw [trS, if_neg h]
    have := size_L s
    exact List.drop_eq_nil_of_le (by rw [List.length_take]; omega)
end Go.Proofs.Ytipmmjbjgbfgjaa.SpA
