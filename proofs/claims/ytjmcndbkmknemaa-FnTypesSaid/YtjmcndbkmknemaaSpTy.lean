/- What the functions of the types come to. -/
import Derived.Test.YtjmcndbkmknemaaQ19
import Derived.Test.YtjmcndbkmknemaaQ36
import Derived.Test.YtjmcndbkmknemaaQ37
import Derived.Test.YtjmcndbkmknemaaKit
namespace Go.Proofs.Ytjmcndbkmknemaa.SpTy
open Go.RowKit Go.Proofs.Ytjmcndbkmknemaa.Q Go.Proofs.YtjmcndbkmknemaaW.PrintWords Go.Proofs.YtjmcndbkmknemaaW.PrintLast Go.Proofs.YtjmcndbkmknemaaKit
theorem fits3 (a b : ByteArray) (c d : Bool) : laws_zzFits3.f a b c d = some (decide (a.size ≤ 2147483647) && decide (b.size ≤ 2147483647)) := by
  unfold laws_zzFits3.f
  by_cases h : (a.size : Int) > 2147483647
  · rw [if_pos h, decide_eq_false (by omega)]; rfl
  · rw [if_neg h, decide_eq_true (by omega)]
    by_cases h2 : (b.size : Int) > 2147483647
    · rw [if_pos h2, decide_eq_false (by omega)]; rfl
    · rw [if_neg h2, decide_eq_true (by omega)]; rfl
def fit45 (p : S45) : Bool := decide (p.f0.size ≤ 2147483647) && decide (p.f1.size ≤ 2147483647)
theorem fits2_l (xs : List S45) (hx : xs.length ≤ 9223372036854775807) : ∀ (suf pre : List S45), xs = pre ++ suf → Ev (fun k => laws_zzFits2.l0 k xs xs.length pre.length) (suf.all fit45)
  | [], pre, h => Ev.step (f := fun _ => some true) (fun k => by simp only [laws_zzFits2.l0]; rw [if_neg (ln_not h)]) (Ev.now _)
  | p :: t, pre, h => by
    have e : rd_T45 xs pre.length = p := get_mid h _
    by_cases c : fit45 p = true
    · have ih := fits2_l xs hx t (pre ++ [p]) (lmid_next h)
      rw [List.all_cons, c, Bool.true_and]
      refine Ev.step (fun k => ?_) ih
      simp only [laws_zzFits2.l0]
      rw [if_pos (ln_mid h), if_pos (by omega), if_pos (ln_mid h), e, fits3, Option.bind_some, wrap_lmid h hx]
      exact if_pos c
    · rw [List.all_cons, Bool.eq_false_iff.2 c, Bool.false_and]
      refine Ev.step (f := fun _ => some false) (fun k => ?_) (Ev.now _)
      simp only [laws_zzFits2.l0]
      rw [if_pos (ln_mid h), if_pos (by omega), if_pos (ln_mid h), e, fits3, Option.bind_some]
      exact if_neg c
theorem fits2 (xs : List S45) (hx : xs.length ≤ 9223372036854775807) : ∃ b, Ev (fun k => laws_zzFits2.f k xs) b ∧ (b = true → xs.length ≤ 2147483647) := by
  unfold laws_zzFits2.f
  by_cases h : (xs.length : Int) > 2147483647
  · exact ⟨false, Ev.pos h (Ev.now _), fun h => by cases h⟩
  · exact ⟨_, Ev.neg h (fits2_l xs hx xs [] rfl), fun _ => by omega⟩
theorem tl_nil {s : ByteArray} : s.toList = [] ↔ s.size = 0 := by
  rw [tl, size_L]
  exact List.length_eq_zero_iff.symm
theorem typeOf (nm : ByteArray) (xs : List S45) (hx : xs.length ≤ 2147483647) : impl_TypeOf.f nm xs = some (orNone (findO nm xs)) := if_pos hx
theorem firstType (xs : List S45) (hx : xs.length ≤ 2147483647) : impl_FirstType.f xs = some (orNone (masterO xs xs)) := if_pos hx
theorem typeOf_number : (laws_types.f.bind fun t => impl_TypeOf.f (⟨#[110, 117, 109, 98, 101, 114]⟩ : ByteArray) t) = some ((⟨#[105, 110, 116]⟩ : ByteArray), (⟨#[110, 117, 109, 98, 101, 114]⟩ : ByteArray), false, false, true) := by
  simp [laws_types.f, impl_TypeOf.f, findO, hasName, orNone, tl, L]
  rfl
theorem firstType_types : (laws_types.f.bind fun t => impl_FirstType.f t) = some ((⟨#[115, 116, 114, 105, 110, 103]⟩ : ByteArray), (⟨#[]⟩ : ByteArray), true, false, true) := by
  simp [laws_types.f, impl_FirstType.f, masterO, orNone]
def to53 (x : S45) : S53 := ⟨x.f0, x.f1, x.f2, x.f3⟩
theorem typesOf_l (xs : List S45) (hx : xs.length ≤ 2147483647) : ∀ (suf pre : List S45) (acc : List S53), xs = pre ++ suf → acc.length = pre.length → Ev (fun k => laws_typesOf.l0 k acc xs xs.length pre.length) (acc ++ suf.map to53)
  | [], pre, acc, h, ha => Ev.step (f := fun _ => some (acc ++ List.map to53 [])) (fun k => by simp only [laws_typesOf.l0]; rw [if_neg (ln_not h)]; simp) (Ev.now _)
  | p :: t, pre, acc, h, ha => by
    have e : rd_T45 xs pre.length = p := get_mid h _
    have hn := ln_nat h
    have ih := typesOf_l xs hx t (pre ++ [p]) (acc ++ [to53 p]) (lmid_next h) (by simp [ha])
    rw [List.map_cons, show acc ++ to53 p :: List.map to53 t = (acc ++ [to53 p]) ++ List.map to53 t by simp]
    refine Ev.step (fun k => ?_) ih
    simp only [laws_typesOf.l0]
    rw [if_pos (ln_mid h), if_pos (by omega), if_pos (ln_mid h), if_pos (by omega), e, wrap_lmid h (by omega)]
    rfl
theorem typesOf (xs : List S45) (hx : xs.length ≤ 2147483647) : Ev (fun k => laws_typesOf.f k xs) (xs.map to53) := by
  unfold laws_typesOf.f
  exact typesOf_l xs hx xs [] [] rfl rfl
theorem hasName_iff {nm : ByteArray} {x : S45} : hasName nm x = true ↔ (x.f0.toList = nm.toList ∨ (x.f1.toList ≠ [] ∧ x.f1.toList = nm.toList)) := by
  unfold hasName
  rw [Bool.or_eq_true, Bool.and_eq_true, beq_iff_eq, beq_iff_eq, decide_eq_true_eq, ne_eq, tl_nil]
  constructor <;> rintro (h | h) <;> first | exact Or.inl h | exact Or.inr ⟨by omega, h.2⟩
theorem specTypeOf_l (nm : ByteArray) (ys : List S53) (hx : ys.length ≤ 9223372036854775807) : ∀ (suf : List S45) (pre : List S53), ys = pre ++ suf.map to53 → Ev (fun k => spec_TypeOf.l0 k nm ys ys.length pre.length) (orNone (findO nm suf))
  | [], pre, h => Ev.step (f := fun _ => some (orNone (findO nm []))) (fun k => by simp only [spec_TypeOf.l0]; rw [if_neg (ln_not h)]; rfl) (Ev.now _)
  | p :: t, pre, h0 => by
    have h : ys = pre ++ to53 p :: t.map to53 := h0
    have e : rd_T53 ys pre.length = to53 p := get_mid h _
    have ih := specTypeOf_l nm ys hx t (pre ++ [to53 p]) (lmid_next h)
    by_cases c : hasName nm p = true
    · have he : orNone (findO nm (p :: t)) = (p.f0, p.f1, p.f2, p.f3, true) := by rw [findO, if_pos c]; rfl
      rw [he]
      refine Ev.step (f := fun _ => some (p.f0, p.f1, p.f2, p.f3, true)) (fun k => ?_) (Ev.now _)
      simp only [spec_TypeOf.l0]
      rw [if_pos (ln_mid h), if_pos (by omega), if_pos (ln_mid h), e]
      by_cases c0 : p.f0.toList = nm.toList
      · exact if_pos c0
      · rcases hasName_iff.1 c with c1 | ⟨c1, c2⟩
        · exact absurd c1 c0
        · refine (if_neg c0).trans ((if_neg c1).trans (if_pos c2))
    · have he : orNone (findO nm (p :: t)) = orNone (findO nm t) := by rw [findO, if_neg c]
      rw [he]
      refine Ev.step (fun k => ?_) ih
      simp only [spec_TypeOf.l0]
      rw [if_pos (ln_mid h), if_pos (by omega), if_pos (ln_mid h), e, wrap_lmid h hx]
      have c0 : ¬ p.f0.toList = nm.toList := fun q => c (hasName_iff.2 (Or.inl q))
      refine (if_neg c0).trans ?_
      by_cases c1 : p.f1.toList = []
      · exact if_pos c1
      · exact (if_neg c1).trans (if_neg fun q => c (hasName_iff.2 (Or.inr ⟨c1, q⟩)))
theorem specTypeOf (nm : ByteArray) (xs : List S45) (hx : xs.length ≤ 2147483647) : Ev (fun k => spec_TypeOf.f k nm (xs.map to53)) (orNone (findO nm xs)) := by
  unfold spec_TypeOf.f
  exact specTypeOf_l nm (xs.map to53) (by rw [List.length_map]; omega) xs [] rfl
end Go.Proofs.Ytjmcndbkmknemaa.SpTy
