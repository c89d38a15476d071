/- The pure statement of FnArgEscaped: an escaped text is the value that is read. -/
import Derived.Test.YtjklempjljikpaaQ20
import Derived.Test.YtjklempjljikpaaQ25
import Derived.Test.YtjklempjljikpaaSpAr
import Derived.Test.YtjklempjljikpaaSpWh
namespace Go.Proofs.Ytjklempjljikpaa.Pure
open Go.RowKit Go.Proofs.Ytjklempjljikpaa.Q Go.Proofs.YtjklempjljikpaaW.PrintWords Go.Proofs.YtjklempjljikpaaW.PrintLast Go.Proofs.YtjklempjljikpaaKit Go.Proofs.Ytjklempjljikpaa.SpA
set_option linter.unusedVariables false
set_option linter.unusedSimpArgs false
theorem short2e (a b : ByteArray) : Ev (fun k => laws_short.f k [a, b]) (decide (a.size ≤ 2000) && decide (b.size ≤ 2000)) :=
  Ev.same (short_l [a, b] [a, b] (by simp) [a, b] [] rfl) (by simp)
theorem quoted (s : ByteArray) (h : s.size ≤ 2147483647) : Ev (fun k => impl_QuotedArg.f k s) ⟨((L s).flatMap escA).toArray⟩ := by
  have hc : conv48.f s = some (toI (L s)) := by unfold conv48.f; rw [if_pos (by omega)]; rfl
  have hl : (L s).length ≤ 2147483647 := by rw [← size_L]; exact h
  unfold impl_QuotedArg.f
  refine Ev.call (Ev.some hc) (Ev.call (arg_ev (L s) [] (by omega) (by simp; omega)) ?_)
  rw [List.nil_append, strOf_toI]
  exact Ev.now _
theorem word_all : ∀ c : Fin 256, (!isWordB (UInt8.ofNat c.val) || (UInt8.ofNat c.val != 38 && UInt8.ofNat c.val != 61 && UInt8.ofNat c.val != 37 && UInt8.ofNat c.val != 43)) = true := by decide +kernel
theorem word_no (c : UInt8) (h : isWordB c = true) : c ≠ 38 ∧ c ≠ 61 ∧ c ≠ 37 ∧ c ≠ 43 := by
  have h1 := word_all ⟨c.toNat, c.toNat_lt⟩
  simp only [ofNat_toNat, h, Bool.not_true, Bool.false_or, Bool.and_eq_true, bne_iff_ne, ne_eq] at h1
  exact ⟨h1.1.1.1, h1.1.1.2, h1.1.2, h1.2⟩
theorem holds_no (q : List UInt8) (x : UInt8) (hq : q.length ≤ 140737488351232) (h : x ∉ q) : Ev (fun k => laws_holds.f k ⟨q.toArray⟩ (x.toNat : Int)) false := by
  refine Ev.same (holds _ _ (by rw [size_L]; simpa using hq)) ?_
  show q.any _ = false
  rw [List.any_eq_false]
  intro c hc
  simp only [decide_eq_true_eq]
  intro e
  have : c = x := UInt8.toNat_inj.1 (by omega)
  exact h (by rw [← this]; exact hc)
theorem esc_true2 (a b : ByteArray) : Ev (fun k => laws_FnArgEscaped.j2 k a b true) true :=
  Ev.step (f := fun _ => some true) (fun k => by rw [laws_FnArgEscaped.j2, if_pos rfl]) (Ev.now _)
theorem esc_false2 (a b : ByteArray) (ha : a.size ≤ 2000) (hb : b.size ≤ 2000) (hw : (L a).all isWordB = true) (hne : L a ≠ []) : Ev (fun k => laws_FnArgEscaped.j2 k a b false) true := by
  obtain ⟨n1, n2, n3, n4⟩ := esc_nots (L b)
  have hq : ((L b).flatMap escA).length ≤ 3 * (L b).length := by
    generalize L b = l
    induction l with
    | nil => simp
    | cons c t ih => have := escA_len c; simp only [List.flatMap_cons, List.length_append, List.length_cons]; omega
  have hbl : (L b).length ≤ 2000 := by rw [← size_L]; exact hb
  have hqs : (⟨((L b).flatMap escA).toArray⟩ : ByteArray).size = ((L b).flatMap escA).length := by rw [size_L]
  have hwn : ∀ c ∈ L a, c ≠ 38 ∧ c ≠ 61 ∧ c ≠ 37 ∧ c ≠ 43 := fun c hc => word_no c (List.all_eq_true.1 hw c hc)
  have hsz : ((a ++ (⟨#[61]⟩ : ByteArray)) ++ (⟨((L b).flatMap escA).toArray⟩ : ByteArray)).size = a.size + 1 + ((L b).flatMap escA).length := by rw [size_append, size_append, hqs]; rfl
  have hLL : L ((a ++ (⟨#[61]⟩ : ByteArray)) ++ (⟨((L b).flatMap escA).toArray⟩ : ByteArray)) = L a ++ 61 :: (L b).flatMap escA := by rw [L_append, L_append]; show (L a ++ [61]) ++ (L b).flatMap escA = _; simp
  have no38 : (38 : UInt8) ∉ L a ++ 61 :: (L b).flatMap escA := by
    simp only [List.mem_append, List.mem_cons, not_or]
    exact ⟨fun h => (hwn _ h).1 rfl, by decide, n1⟩
  obtain ⟨p1, p2, p3⟩ := part_two (p := L a ++ 61 :: (L b).flatMap escA) rfl (fun h => (hwn _ h).2.1 rfl)
  have hres : argsL (L a ++ 61 :: (L b).flatMap escA) = [(L a, L b, false)] := by
    rw [argsL_one _ no38, entOf, (fst_all no38).1, p1, p2, p3, dec_all, decP_none _ (fun h => (hwn _ h).2.2.1 rfl) (fun h => (hwn _ h).2.2.2 rfl), if_neg (fun e => hne e.1)]
  refine Ev.step (fun k => by rw [laws_FnArgEscaped.j2, if_neg (by decide)]) ?_
  refine Ev.call (quoted b (by omega)) (Ev.call (holds_no _ 38 (by omega) n1) (Ev.neg (by decide) (Ev.call (holds_no _ 32 (by omega) n3) (Ev.neg (by decide) (Ev.call (holds_no _ 35 (by omega) n4) (Ev.neg (by decide) (Ev.pos (by omega) (Ev.pos (by omega) (Ev.call (Ev.some (argsOf _ (by omega))) ?_)))))))))
  rw [hLL, hres]
  have he : [((L a, L b, false) : En)].map arS = [(⟨a, b, false⟩ : S36)] := rfl
  rw [he]
  exact Ev.call (same _ (by simp)) (Ev.now _)
theorem esc_j1 (a b : ByteArray) (ha : a.size ≤ 2147483647) (hb : b.size ≤ 2147483647) : Ev (fun k => laws_FnArgEscaped.j1 k a b false) true := by
  refine Ev.step (fun k => by rw [laws_FnArgEscaped.j1, if_neg (by decide)]) ?_
  refine Ev.call (word a (by omega)) ?_
  by_cases hw : ((L a).all isWordB && (L a != [])) = true
  · rw [hw]
    rw [Bool.and_eq_true, bne_iff_ne] at hw
    refine Ev.pos rfl (Ev.call (short2e a b) ?_)
    by_cases h1 : a.size ≤ 2000
    · by_cases h2 : b.size ≤ 2000
      · rw [decide_eq_true h1, decide_eq_true h2]
        exact esc_false2 a b h1 h2 hw.1 hw.2
      · rw [decide_eq_false h2, Bool.and_false]; exact esc_true2 a b
    · rw [decide_eq_false h1, Bool.false_and]; exact esc_true2 a b
  · rw [Bool.eq_false_iff.2 hw]
    exact Ev.neg (by decide) (esc_true2 a b)
set_option maxRecDepth 100000 in
theorem esc_ab : ((L (⟨#[97, 32, 98]⟩ : ByteArray)).flatMap escA) = [97, 43, 98] := by decide +kernel
theorem esc_j0t (a b : ByteArray) : Ev (fun k => laws_FnArgEscaped.j0 k a b true) true :=
  Ev.step (f := fun _ => some true) (fun k => by rw [laws_FnArgEscaped.j0, if_pos rfl]) (Ev.now _)
theorem esc_j0 (a b : ByteArray) (ha : a.size ≤ 2147483647) (hb : b.size ≤ 2147483647) : Ev (fun k => laws_FnArgEscaped.j0 k a b false) true := by
  refine Ev.step (fun k => by rw [laws_FnArgEscaped.j0, if_neg (by decide)]) ?_
  refine Ev.call (quoted _ (by decide)) ?_
  rw [esc_ab]
  exact Ev.neg (by rw [tl]; simp) (Ev.call reads (esc_j1 a b ha hb))
theorem FnArgEscaped : laws_FnArgEscaped.Pure := by
  intro a b ha hb
  refine Ev.rounds ?_
  unfold laws_FnArgEscaped.f
  by_cases h : (a.size : Int) > 2147483647
  · exact Ev.pos h (esc_j0t a b)
  · refine Ev.neg h ?_
    by_cases h2 : (b.size : Int) > 2147483647
    · rw [decide_eq_true h2]; exact esc_j0t a b
    · rw [decide_eq_false h2]; exact esc_j0 a b (by omega) (by omega)
end Go.Proofs.Ytjklempjljikpaa.Pure
