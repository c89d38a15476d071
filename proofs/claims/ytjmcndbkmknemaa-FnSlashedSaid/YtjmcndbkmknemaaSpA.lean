/- What the plain functions of this seat come to: short texts, words, parameters, slashes. No program in sight. -/
import Derived.Test.YtjmcndbkmknemaaQ
import Derived.Test.YtjmcndbkmknemaaKit
namespace Go.Proofs.Ytjmcndbkmknemaa.SpA
open Go.RowKit Go.Proofs.Ytjmcndbkmknemaa.Q Go.Proofs.YtjmcndbkmknemaaW.PrintWords Go.Proofs.YtjmcndbkmknemaaW.PrintLast Go.Proofs.YtjmcndbkmknemaaKit
set_option linter.unusedVariables false
set_option linter.unusedSimpArgs false
/-! ### parameters -/
theorem fits5 (a b : ByteArray) : laws_zzFits5.f a b = some (decide (a.size ≤ 2147483647) && decide (b.size ≤ 2147483647)) := by
  unfold laws_zzFits5.f
  by_cases h1 : (a.size : Int) > 2147483647
  · rw [if_pos h1, decide_eq_false (by omega)]; rfl
  · rw [if_neg h1, decide_eq_true (by omega)]
    by_cases h2 : (b.size : Int) > 2147483647
    · rw [if_pos h2, decide_eq_false (by omega)]; rfl
    · rw [if_neg h2, decide_eq_true (by omega)]; rfl
def fit27 (p : S27) : Bool := decide (p.f0.size ≤ 2147483647) && decide (p.f1.size ≤ 2147483647)
theorem fits4_l (xs : List S27) (hx : xs.length ≤ 9223372036854775807) : ∀ (suf pre : List S27), xs = pre ++ suf → Ev (fun k => laws_zzFits4.l0 k xs xs.length pre.length) (suf.all fit27)
  | [], pre, h => Ev.step (f := fun _ => some true) (fun k => by simp only [laws_zzFits4.l0]; rw [if_neg (ln_not h)]) (Ev.now _)
  | p :: t, pre, h => by
    have e : rd_T27 xs pre.length = p := get_mid h _
    by_cases c : fit27 p = true
    · have ih := fits4_l xs hx t (pre ++ [p]) (lmid_next h)
      rw [List.all_cons, c, Bool.true_and]
      refine Ev.step (fun k => ?_) ih
      simp only [laws_zzFits4.l0]
      rw [if_pos (ln_mid h), if_pos (by omega), if_pos (ln_mid h), e, fits5, Option.bind_some, wrap_lmid h hx]
      exact if_pos c
    · rw [List.all_cons, Bool.eq_false_iff.2 c, Bool.false_and]
      refine Ev.step (f := fun _ => some false) (fun k => ?_) (Ev.now _)
      simp only [laws_zzFits4.l0]
      rw [if_pos (ln_mid h), if_pos (by omega), if_pos (ln_mid h), e, fits5, Option.bind_some]
      exact if_neg c
theorem fits4 (xs : List S27) (hx : xs.length ≤ 9223372036854775807) : ∃ b, Ev (fun k => laws_zzFits4.f k xs) b ∧ (b = true → xs.length ≤ 2147483647) := by
  unfold laws_zzFits4.f
  by_cases h : (xs.length : Int) > 2147483647
  · exact ⟨false, Ev.pos h (Ev.now _), fun h => by cases h⟩
  · exact ⟨_, Ev.neg h (fits4_l xs hx xs [] rfl), fun _ => by omega⟩
/-- The value of a name. -/
def getP (nm : ByteArray) : List (ByteArray × ByteArray) → ByteArray × Bool
  | [] => (⟨#[]⟩, false)
  | p :: t => if p.1 = nm then (p.2, true) else getP nm t
theorem get_l (nm : ByteArray) (xs : List S63) (hx : xs.length ≤ 9223372036854775807) : ∀ (suf pre : List S63), xs = pre ++ suf → Ev (fun k => hertzparam_Params_Get.l0 k nm xs xs.length pre.length) (getP nm (suf.map fun p => (p.f0, p.f1)))
  | [], pre, h => Ev.step (f := fun _ => some (⟨#[]⟩, false)) (fun k => by simp only [hertzparam_Params_Get.l0]; rw [if_neg (ln_not h)]) (Ev.now _)
  | p :: t, pre, h => by
    have e : rd_T63 xs pre.length = p := get_mid h _
    simp only [List.map_cons, getP]
    by_cases c : p.f0 = nm
    · rw [if_pos c]
      refine Ev.step (f := fun _ => some (p.f1, true)) (fun k => ?_) (Ev.now _)
      simp only [hertzparam_Params_Get.l0]
      rw [if_pos (ln_mid h), if_pos (by omega), if_pos (ln_mid h), e, if_pos (tl_eq.2 c)]
    · rw [if_neg c]
      refine Ev.step (fun k => ?_) (get_l nm xs hx t (pre ++ [p]) (lmid_next h))
      simp only [hertzparam_Params_Get.l0]
      rw [if_pos (ln_mid h), if_pos (by omega), if_pos (ln_mid h), e, if_neg (fun q => c (tl_eq.1 q)), wrap_lmid h hx]
theorem paramOf_l (nm : ByteArray) (xs : List S27) (hx : xs.length ≤ 2147483647) : ∀ (suf pre : List S27) (acc : List S63), xs = pre ++ suf → acc = pre.map (fun p => ⟨p.f0, p.f1⟩) →
    Ev (fun k => impl_ParamOf.l0 k nm acc xs xs.length pre.length) (getP nm (xs.map fun p => (p.f0, p.f1)))
  | [], pre, acc, h, ha => by
    have hp : xs = pre := by rw [h, List.append_nil]
    have hal : acc.length = xs.length := by rw [ha, List.length_map, ← hp]
    have g := get_l nm acc (by omega) acc [] rfl
    have e : acc.map (fun p => (p.f0, p.f1)) = xs.map (fun p => (p.f0, p.f1)) := by rw [ha, List.map_map, hp]; rfl
    rw [e] at g
    refine Ev.step (fun k => ?_) (Ev.call (f := fun _ b => some (b.1, b.2)) g (Ev.now _))
    simp only [impl_ParamOf.l0]
    rw [if_neg (ln_not h)]
    rfl
  | p :: t, pre, acc, h, ha => by
    have e : rd_T27 xs pre.length = p := get_mid h _
    have hl := ln_nat h
    have hal : acc.length = pre.length := by rw [ha, List.length_map]
    refine Ev.step (fun k => ?_) (paramOf_l nm xs hx t (pre ++ [p]) (acc ++ [⟨p.f0, p.f1⟩]) (lmid_next h) (by rw [ha, List.map_append]; rfl))
    simp only [impl_ParamOf.l0]
    rw [if_pos (ln_mid h), if_pos (by omega), if_pos (ln_mid h), if_pos (by omega), e, wrap_lmid h (by omega)]
theorem paramOf (nm : ByteArray) (xs : List S27) (hx : xs.length ≤ 2147483647) : Ev (fun k => impl_ParamOf.f k xs nm) (getP nm (xs.map fun p => (p.f0, p.f1))) :=
  paramOf_l nm xs hx xs [] [] rfl rfl
theorem pairsOf_l (xs : List S27) (hx : xs.length ≤ 2147483647) : ∀ (suf pre : List S27) (acc : List S65), xs = pre ++ suf → acc = pre.map (fun p => ⟨p.f0, p.f1⟩) →
    Ev (fun k => laws_pairsOf.l0 k acc xs xs.length pre.length) (xs.map fun p => ⟨p.f0, p.f1⟩)
  | [], pre, acc, h, ha => by
    refine Ev.step (f := fun _ => some acc) (fun k => ?_) (Ev.same (Ev.now _) (by rw [ha, h, List.append_nil]))
    simp only [laws_pairsOf.l0]
    rw [if_neg (ln_not h)]
  | p :: t, pre, acc, h, ha => by
    have e : rd_T27 xs pre.length = p := get_mid h _
    have hl := ln_nat h
    have hal : acc.length = pre.length := by rw [ha, List.length_map]
    refine Ev.step (fun k => ?_) (pairsOf_l xs hx t (pre ++ [p]) (acc ++ [⟨p.f0, p.f1⟩]) (lmid_next h) (by rw [ha, List.map_append]; rfl))
    simp only [laws_pairsOf.l0]
    rw [if_pos (ln_mid h), if_pos (by omega), if_pos (ln_mid h), if_pos (by omega), e, wrap_lmid h (by omega)]
theorem specOf_l (nm : ByteArray) (xs : List S65) (hx : xs.length ≤ 9223372036854775807) : ∀ (suf pre : List S65), xs = pre ++ suf → Ev (fun k => spec_ParamOf.l0 k nm xs xs.length pre.length) (getP nm (suf.map fun p => (p.f0, p.f1)))
  | [], pre, h => Ev.step (f := fun _ => some (⟨#[]⟩, false)) (fun k => by simp only [spec_ParamOf.l0]; rw [if_neg (ln_not h)]) (Ev.now _)
  | p :: t, pre, h => by
    have e : rd_T65 xs pre.length = p := get_mid h _
    simp only [List.map_cons, getP]
    by_cases c : p.f0 = nm
    · rw [if_pos c]
      refine Ev.step (f := fun _ => some (p.f1, true)) (fun k => ?_) (Ev.now _)
      simp only [spec_ParamOf.l0]
      rw [if_pos (ln_mid h), if_pos (by omega), if_pos (ln_mid h), e, if_pos (tl_eq.2 c)]
    · rw [if_neg c]
      refine Ev.step (fun k => ?_) (specOf_l nm xs hx t (pre ++ [p]) (lmid_next h))
      simp only [spec_ParamOf.l0]
      rw [if_pos (ln_mid h), if_pos (by omega), if_pos (ln_mid h), e, if_neg (fun q => c (tl_eq.1 q)), wrap_lmid h hx]
/-! ### texts -/
theorem short_l (ys xs : List ByteArray) (hx : xs.length ≤ 9223372036854775807) : ∀ (suf pre : List ByteArray), xs = pre ++ suf → Ev (fun k => laws_short.l0 k ys xs xs.length pre.length) (suf.all (fun s => decide (s.size ≤ 2000)) && decide (ys.length ≤ 60))
  | [], pre, h => by
    refine Ev.step (f := fun _ => some (decide ((ys.length : Int) ≤ 60))) (fun k => by simp only [laws_short.l0]; rw [if_neg (ln_not h)]) (Ev.same (Ev.now _) ?_)
    rw [List.all_nil, Bool.true_and]
    exact decide_eq_decide.2 (by omega)
  | p :: t, pre, h => by
    have e : rdOf ByteArray.empty xs pre.length = p := get_mid h _
    rw [List.all_cons]
    by_cases c : p.size ≤ 2000
    · rw [decide_eq_true c, Bool.true_and]
      refine Ev.step (fun k => ?_) (short_l ys xs hx t (pre ++ [p]) (lmid_next h))
      simp only [laws_short.l0]
      rw [if_pos (ln_mid h), if_pos (by omega), if_pos (ln_mid h), e, if_neg (by omega), wrap_lmid h hx]
    · rw [decide_eq_false c, Bool.false_and, Bool.false_and]
      refine Ev.step (f := fun _ => some false) (fun k => ?_) (Ev.now _)
      simp only [laws_short.l0]
      rw [if_pos (ln_mid h), if_pos (by omega), if_pos (ln_mid h), e, if_pos (by omega)]
theorem short1 (s : ByteArray) : Ev (fun k => laws_short.f k [s]) (decide (s.size ≤ 2000)) :=
  Ev.same (short_l [s] [s] (by simp) [s] [] rfl) (by simp)
def isWordB (c : UInt8) : Bool := !(decide ((Go.bits .or .u8 (c.toNat : Int) 32) < 97) || decide ((Go.bits .or .u8 (c.toNat : Int) 32) > 122)) || !(decide ((c.toNat : Int) < 48) || decide ((c.toNat : Int) > 57))
theorem word_l (s : ByteArray) (hs : s.size ≤ 140737488351232) : ∀ (suf pre : List UInt8), L s = pre ++ suf → Ev (fun k => laws_word.l0 k s s.size pre.length) (suf.all isWordB && (L s != []))
  | [], pre, h => by
    refine Ev.step (f := fun _ => some (s.toList != [])) (fun k => by simp only [laws_word.l0]; rw [if_neg (sz_not h)]) (Ev.same (Ev.now _) ?_)
    rw [List.all_nil, Bool.true_and, tl]
  | c :: t, pre, h => by
    have ih := word_l s hs t (pre ++ [c]) (mid_next h)
    rw [List.all_cons]
    have hg : ∀ k, laws_word.l0 (k + 1) s s.size pre.length = if isWordB c = true then laws_word.l0 k s s.size (pre ++ [c]).length else some false := by
      intro k
      simp only [laws_word.l0]
      rw [if_pos (sz_mid h), if_pos (by omega), if_pos (sz_mid h), bt_mid h, wrap_mid h hs]
      unfold isWordB
      generalize Go.bits BinOp.or IntKind.u8 (c.toNat : Int) 32 = z
      by_cases h1 : z < 97
      · by_cases h2 : (c.toNat : Int) < 48
        · simp [h1, h2]
        · by_cases h3 : (c.toNat : Int) > 57 <;> simp [h1, h2, h3]
      · by_cases h4 : z > 122
        · by_cases h2 : (c.toNat : Int) < 48
          · simp [h1, h2, h4]
          · by_cases h3 : (c.toNat : Int) > 57 <;> simp [h1, h2, h3, h4]
        · simp [h1, h4]
    by_cases c1 : isWordB c = true
    · rw [c1, Bool.true_and]
      exact Ev.step (fun k => by rw [hg k, if_pos c1]) ih
    · rw [Bool.eq_false_iff.2 c1, Bool.false_and, Bool.false_and]
      exact Ev.step (f := fun _ => some false) (fun k => by rw [hg k, if_neg c1]) (Ev.now _)
theorem word (s : ByteArray) (hs : s.size ≤ 140737488351232) : Ev (fun k => laws_word.f k s) ((L s).all isWordB && (L s != [])) := word_l s hs (L s) [] rfl
theorem holds_l (s : ByteArray) (x : Int) (hs : s.size ≤ 140737488351232) : ∀ (suf pre : List UInt8), L s = pre ++ suf → Ev (fun k => laws_holds.l0 k s x s.size pre.length) (suf.any (fun c => decide ((c.toNat : Int) = x)))
  | [], pre, h => Ev.step (f := fun _ => some false) (fun k => by simp only [laws_holds.l0]; rw [if_neg (sz_not h)]) (Ev.now _)
  | c :: t, pre, h => by
    rw [List.any_cons]
    by_cases c1 : (c.toNat : Int) = x
    · rw [decide_eq_true c1, Bool.true_or]
      refine Ev.step (f := fun _ => some true) (fun k => ?_) (Ev.now _)
      simp only [laws_holds.l0]
      rw [if_pos (sz_mid h), if_pos (by omega), if_pos (sz_mid h), bt_mid h, if_pos c1]
    · rw [decide_eq_false c1, Bool.false_or]
      refine Ev.step (fun k => ?_) (holds_l s x hs t (pre ++ [c]) (mid_next h))
      simp only [laws_holds.l0]
      rw [if_pos (sz_mid h), if_pos (by omega), if_pos (sz_mid h), bt_mid h, if_neg c1, wrap_mid h hs]
theorem holds (s : ByteArray) (x : Int) (hs : s.size ≤ 140737488351232) : Ev (fun k => laws_holds.f k s x) ((L s).any (fun c => decide ((c.toNat : Int) = x))) := holds_l s x hs (L s) [] rfl
/-! ### slashes -/
theorem ends_eq (a b : ByteArray) (ha : a.size ≤ 9223372036854775807) : laws_ends.f a b = some (decide (b.size ≤ a.size) && ((L a).drop (a.size - b.size) == L b)) := by
  unfold laws_ends.f
  by_cases h : b.size ≤ a.size
  · rw [if_pos (by omega), wrap_id (by omega) (by omega), if_pos (by omega), if_pos (by omega), decide_eq_true h, Bool.true_and, tl, tl, L_extract]
    have e : ((a.size : Int) - (b.size : Int)).toNat = a.size - b.size := by omega
    rw [e, List.take_of_length_le (by rw [List.length_drop, ← size_L]; omega)]
  · rw [if_neg (by omega), decide_eq_false h, Bool.false_and]
theorem suffix_eq (a b : ByteArray) (ha : a.size ≤ 9223372036854775807) : strings_HasSuffix.f a b = some (decide (b.size ≤ a.size) && ((L a).drop (a.size - b.size) == L b)) := by
  have h : stringslite_HasSuffix.f a b = some (decide (b.size ≤ a.size) && ((L a).drop (a.size - b.size) == L b)) := by
    rw [← ends_eq a b ha]; rfl
  unfold strings_HasSuffix.f
  rw [h]; rfl
def slashed (s : ByteArray) : Bool := decide (1 ≤ s.size) && ((L s).drop (s.size - 1) == [47])
theorem slash_eq (a : ByteArray) (ha : a.size ≤ 140737488351232) : impl_Slashed.f a = some (if slashed a = true then a else a ++ ⟨#[47]⟩) := by
  unfold impl_Slashed.f fiberutils_AddTrailingSlash.f
  rw [suffix_eq _ _ (by omega)]
  show ((if slashed a = true then some a else if a.size + 1 ≤ 9223372036854775807 then some (a ++ ⟨#[47]⟩) else none).bind some) = _
  rw [if_pos (show a.size + 1 ≤ 9223372036854775807 by omega)]
  split <;> rfl
theorem slashed_app (a : ByteArray) : slashed (a ++ ⟨#[47]⟩) = true := by
  unfold slashed
  rw [size_append, L_append]
  simp only [show (⟨#[47]⟩ : ByteArray).size = 1 from rfl, Nat.add_sub_cancel]
  rw [size_L, List.drop_left]
  simp
end Go.Proofs.Ytjmcndbkmknemaa.SpA
