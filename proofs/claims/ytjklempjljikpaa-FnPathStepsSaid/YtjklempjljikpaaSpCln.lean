/- Cleaned paths: what the plain functions come to. No program in sight. -/
import Derived.Test.YtjklempjljikpaaQ10
import Derived.Test.YtjklempjljikpaaQ7
import Derived.Test.YtjklempjljikpaaQ8
import Derived.Test.YtjklempjljikpaaSpTxt
import Derived.Test.YtjklempjljikpaaSpNp
namespace Go.Proofs.Ytjklempjljikpaa.SpA
open Go.RowKit Go.Proofs.Ytjklempjljikpaa.Q Go.Proofs.YtjklempjljikpaaW.PrintWords Go.Proofs.YtjklempjljikpaaW.PrintLast Go.Proofs.YtjklempjljikpaaKit
set_option linter.unusedVariables false
set_option linter.unusedSimpArgs false
theorem cleanPath (s : ByteArray) (h : s.size ≤ 2147483647) : impl_CleanPath.f s = some ⟨(norm (L s)).toArray⟩ := by
  unfold impl_CleanPath.f hertzproto_ZzPath.f
  rw [if_pos h]
  rfl
theorem norm_plain (l : List UInt8) (h : (37 : UInt8) ∉ l) : norm l = Cl.cleanK (lead l ++ l) := by rw [norm, dec_none l h]
theorem norm_slash (t : List UInt8) (h : (37 : UInt8) ∉ (47 :: t : List UInt8)) : norm (47 :: t) = Cl.cleanK (47 :: t) := by rw [norm_plain _ h, lead, if_pos rfl]; rfl
theorem cleans : laws_cleans.f = some true := by
  have n1 : norm [47, 97, 47, 46, 46, 47, 98] = [47, 98] := by rw [norm_plain _ (by decide)]; decide
  have n2 : norm [97] = [47, 97] := by rw [norm_plain _ (by decide)]; decide
  unfold laws_cleans.f
  rw [cleanPath _ (by decide), cleanPath _ (by decide), show L (⟨#[47, 97, 47, 46, 46, 47, 98]⟩ : ByteArray) = [47, 97, 47, 46, 46, 47, 98] from rfl, show L (⟨#[97]⟩ : ByteArray) = [97] from rfl, n1, n2]
  simp only [Option.bind_some, tl]
  rw [if_pos trivial]
  simp
theorem begins_eq (a b : ByteArray) : laws_begins.f a b = some (decide (b.size ≤ a.size) && ((L a).take b.size == L b)) := by
  unfold laws_begins.f
  by_cases h : b.size ≤ a.size
  · rw [if_pos (by omega), if_pos (by omega), decide_eq_true h, Bool.true_and, tl, tl, L_extract]
    simp
  · rw [if_neg (by omega), decide_eq_false h, Bool.false_and]
theorem stands_l (a b : ByteArray) (hs : a.size ≤ 140737488351232) (hno : ∀ x y, L a ≠ x ++ L b ++ y) : ∀ (suf pre : List UInt8), L a = pre ++ suf → Ev (fun k => laws_stands.l0 k a b ((a.size : Int) + 1) pre.length) false
  | suf, pre, h => by
    have hsz : a.size = pre.length + suf.length := by rw [size_L, h, List.length_append]
    have hb : laws_begins.f (a.extract (pre.length : Int).toNat a.size) b = some false := by
      rw [begins_eq]
      congr 1
      rw [Bool.and_eq_false_iff]
      by_cases hle : b.size ≤ (a.extract (pre.length : Int).toNat a.size).size
      · right
        rw [L_extract, Int.toNat_natCast, h, List.drop_left, beq_eq_false_iff_ne]
        intro e
        refine hno pre (((suf).take (a.size - pre.length)).drop b.size ++ suf.drop (a.size - pre.length)) ?_
        rw [h, ← e, List.append_assoc, ← List.append_assoc (List.take b.size _), List.take_append_drop, List.take_append_drop]
      · exact .inl (decide_eq_false hle)
    have hstep : ∀ k, laws_stands.l0 (k + 1) a b ((a.size : Int) + 1) pre.length = laws_stands.l0 k a b ((a.size : Int) + 1) ((pre.length : Int) + 1) := fun k => by
      simp only [laws_stands.l0]
      rw [if_pos (by omega), if_pos (by omega), if_pos (by omega), hb, wrap_id (by omega) (by omega)]
      simp
    cases suf with
    | nil =>
      refine Ev.step (f := fun k => laws_stands.l0 k a b ((a.size : Int) + 1) ((pre.length : Int) + 1)) hstep (Ev.step (f := fun _ => some false) (fun k => ?_) (Ev.now _))
      simp only [laws_stands.l0]
      rw [if_neg (by simp at hsz; omega)]
    | cons c t =>
      have ih := stands_l a b hs hno t (pre ++ [c]) (mid_next h)
      rw [show ((pre ++ [c]).length : Int) = (pre.length : Int) + 1 by simp] at ih
      exact Ev.step hstep ih
theorem stands_no (a b : ByteArray) (hs : a.size ≤ 140737488351232) (hno : ∀ x y, L a ≠ x ++ L b ++ y) : Ev (fun k => laws_stands.f k a b) false := by
  have := stands_l a b hs hno (L a) [] rfl
  unfold laws_stands.f
  rw [wrap_id (by omega) (by omega)]
  exact this
theorem fits1_l (xs : List ByteArray) (hx : xs.length ≤ 9223372036854775807) : ∀ (suf pre : List ByteArray), xs = pre ++ suf → Ev (fun k => laws_zzFits1.l0 k xs xs.length pre.length) (suf.all fun s => decide (s.size ≤ 2147483647))
  | [], pre, h => by
    refine Ev.step (f := fun _ => some true) (fun k => by simp only [laws_zzFits1.l0]; rw [if_neg (ln_not h)]) (Ev.now _)
  | p :: t, pre, h => by
    have e : rdOf ByteArray.empty xs pre.length = p := get_mid h _
    rw [List.all_cons]
    by_cases c : p.size ≤ 2147483647
    · rw [decide_eq_true c, Bool.true_and]
      refine Ev.step (fun k => ?_) (fits1_l xs hx t (pre ++ [p]) (lmid_next h))
      simp only [laws_zzFits1.l0]
      rw [if_pos (ln_mid h), if_pos (by omega), if_pos (ln_mid h), e, if_neg (by omega), wrap_lmid h hx]
    · rw [decide_eq_false c, Bool.false_and]
      refine Ev.step (f := fun _ => some false) (fun k => ?_) (Ev.now _)
      simp only [laws_zzFits1.l0]
      rw [if_pos (ln_mid h), if_pos (by omega), if_pos (ln_mid h), e, if_pos (by omega)]
theorem fits1 (xs : List ByteArray) (hx : xs.length ≤ 9223372036854775807) : ∃ b, Ev (fun k => laws_zzFits1.f k xs) b ∧ (b = true → xs.length ≤ 2147483647 ∧ ∀ p ∈ xs, p.size ≤ 2147483647) := by
  unfold laws_zzFits1.f
  by_cases h : (xs.length : Int) > 2147483647
  · exact ⟨false, Ev.pos h (Ev.now _), fun e => by simp at e⟩
  · refine ⟨_, Ev.neg h (fits1_l xs hx xs [] rfl), fun e => ⟨by omega, fun p hp => ?_⟩⟩
    have := List.all_eq_true.1 e p hp
    exact of_decide_eq_true this
/-- What a word has. -/
structure Wd (l : List UInt8) : Prop where
  slash : (47 : UInt8) ∉ l
  pct : (37 : UInt8) ∉ l
  good : Cl.good l
theorem wd_of (l : List UInt8) (h : (l.all isWordB && (l != [])) = true) : Wd l := by
  have hall : ∀ c ∈ l, isWordB c = true := fun c hc => List.all_eq_true.1 (Bool.and_eq_true_iff.1 h).1 c hc
  have hne : l ≠ [] := by
    intro e
    rw [e] at h
    simp at h
  have no : ∀ c : UInt8, isWordB c = false → c ∉ l := fun c hc hm => by rw [hall c hm] at hc; cases hc
  have hdot : (46 : UInt8) ∉ l := no 46 (by decide +kernel)
  refine ⟨no 47 (by decide +kernel), no 37 (by decide +kernel), hne, fun e => hdot (by rw [e]; simp), fun e => hdot (by rw [e]; simp)⟩
theorem join_pct (S : List (List UInt8)) (h : ∀ q ∈ S, (37 : UInt8) ∉ q) : (37 : UInt8) ∉ Cl.joinS S := by
  unfold Cl.joinS
  intro hm
  obtain ⟨q, hq, hc⟩ := List.mem_flatMap.1 hm
  rcases List.mem_cons.1 hc with e | e
  · exact absurd e (by decide)
  · exact h q hq e
/-- A path of words stays. -/
theorem norm_words (S : List (List UInt8)) (last : List UInt8) (hS : ∀ q ∈ S, Wd q) (h1 : (47 : UInt8) ∉ last) (h2 : (37 : UInt8) ∉ last) (h3 : last ≠ [46, 46]) : norm (Cl.joinS (S ++ [last])) = Cl.joinS (S ++ [last]) := by
  obtain ⟨t, ht⟩ := Cl.joinS_slash S last
  have hp : (37 : UInt8) ∉ Cl.joinS (S ++ [last]) := join_pct _ fun q hq => by
    rw [List.mem_append] at hq
    rcases hq with hq | hq
    · exact (hS q hq).pct
    · rw [List.mem_singleton.1 hq]; exact h2
  rw [ht] at hp ⊢
  rw [norm_slash t hp, ← ht]
  exact Cl.clean_words S last (fun q hq => ⟨(hS q hq).slash, (hS q hq).good⟩) h1 h3
/-! ### sizes -/
theorem join_len_step (S k : List (List UInt8)) : (Cl.joinS (S.foldl Cl.stepK k)).length ≤ (Cl.joinS k).length + (Cl.joinS S).length := by
  induction S generalizing k with
  | nil => simp [Cl.joinS]
  | cons p S ih =>
    rw [List.foldl_cons, Cl.joinS_cons]
    refine Nat.le_trans (ih _) ?_
    have hs : (Cl.joinS (Cl.stepK k p)).length ≤ (Cl.joinS k).length + (47 :: p).length := by
      unfold Cl.stepK
      split
      · simp
      · split
        · have hle : (Cl.joinS k.dropLast).length ≤ (Cl.joinS k).length := by
            rcases List.eq_nil_or_concat k with rfl | ⟨k', x, rfl⟩
            · simp
            · rw [List.concat_eq_append, List.dropLast_concat, Cl.joinS_app]; simp
          simp; omega
        · rw [Cl.joinS_app, Cl.joinS_cons, Cl.joinS_nil]; simp
    simp at hs ⊢
    omega
theorem clean_len (l : List UInt8) : (Cl.cleanK l).length ≤ l.length + 2 := by
  have hne := Cl.splitS_ne l
  have hj := Cl.join_split l
  obtain ⟨S, last, hs⟩ : ∃ S last, Cl.splitS l = S ++ [last] := ⟨_, _, (List.dropLast_concat_getLast hne).symm⟩
  have h1 := join_len_step S []
  have h2 : (Cl.joinS S).length + (last.length + 1) = l.length + 1 := by
    have := congrArg List.length hj
    rw [hs, Cl.joinS_app, Cl.joinS_cons, Cl.joinS_nil] at this
    simp at this
    omega
  unfold Cl.cleanK
  simp only [hs, List.dropLast_concat]
  have hl : (S ++ [last]).getLastD [] = last := by simp
  rw [hl]
  generalize S.foldl Cl.stepK [] = k at h1 ⊢
  unfold Cl.finK
  simp [Cl.joinS_nil] at h1
  split
  · have hle : (Cl.joinS k.dropLast).length ≤ (Cl.joinS k).length := by
      rcases List.eq_nil_or_concat k with rfl | ⟨k', x, rfl⟩
      · simp
      · rw [List.concat_eq_append, List.dropLast_concat, Cl.joinS_app]; simp
    rw [Cl.joinS_app, Cl.joinS_cons, Cl.joinS_nil]
    simp
    omega
  · rw [Cl.joinS_app, Cl.joinS_cons, Cl.joinS_nil]
    simp
    omega
theorem norm_len (l : List UInt8) : (norm l).length ≤ l.length + 3 := by
  have h1 := clean_len (lead l ++ dec l)
  have h2 := lead_len l
  have h3 := dec_len l.length l (Nat.le_refl _)
  unfold norm
  simp only [List.length_append] at h1
  omega
end Go.Proofs.Ytjklempjljikpaa.SpA
