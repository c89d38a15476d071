/- Words, texts that hold a sign: what the plain functions come to. No program in sight. -/
import Derived.Test.YtjklempjljikpaaQ20
import Derived.Test.YtjklempjljikpaaSpSht
namespace Go.Proofs.Ytjklempjljikpaa.SpA
open Go.RowKit Go.Proofs.Ytjklempjljikpaa.Q Go.Proofs.YtjklempjljikpaaW.PrintWords Go.Proofs.YtjklempjljikpaaW.PrintLast Go.Proofs.YtjklempjljikpaaKit
set_option linter.unusedVariables false
set_option linter.unusedSimpArgs false
/-! ### texts -/
theorem word_l (s : ByteArray) (hs : s.size ≤ 140737488351232) : ∀ (suf pre : List UInt8), L s = pre ++ suf → Ev (fun k => laws_word.l0 k s s.size pre.length) (suf.all isWordB && (L s != []))
  | [], pre, h => by
    refine Ev.step (f := fun _ => some (s.toList != [])) (fun k => by simp only [laws_word.l0]; rw [if_neg (sz_not h)]) (Ev.same (Ev.now _) ?_)
    rw [List.all_nil, Bool.true_and, tl]
  | c :: t, pre, h => by
    have ih := word_l s hs t (pre ++ [c]) (mid_next h)
    rw [List.all_cons]
    have hg : ∀ k, laws_word.l0 (k + 1) s s.size pre.length = if isWordB c = true then laws_word.l0 k s s.size (pre ++ [c]).length else some false := by
      intro k
      simp only [laws_word.l0]
      rw [if_pos (sz_mid h), if_pos (by omega), if_pos (sz_mid h), bt_mid h, wrap_mid h hs]
      unfold isWordB
      generalize Go.bits BinOp.or IntKind.u8 (c.toNat : Int) 32 = z
      by_cases h1 : z < 97
      · by_cases h2 : (c.toNat : Int) < 48
        · simp [h1, h2]
        · by_cases h3 : (c.toNat : Int) > 57 <;> simp [h1, h2, h3]
      · by_cases h4 : z > 122
        · by_cases h2 : (c.toNat : Int) < 48
          · simp [h1, h2, h4]
          · by_cases h3 : (c.toNat : Int) > 57 <;> simp [h1, h2, h3, h4]
        · simp [h1, h4]
    by_cases c1 : isWordB c = true
    · rw [c1, Bool.true_and]
      exact Ev.step (fun k => by rw [hg k, if_pos c1]) ih
    · rw [Bool.eq_false_iff.2 c1, Bool.false_and, Bool.false_and]
      exact Ev.step (f := fun _ => some false) (fun k => by rw [hg k, if_neg c1]) (Ev.now _)
theorem word (s : ByteArray) (hs : s.size ≤ 140737488351232) : Ev (fun k => laws_word.f k s) ((L s).all isWordB && (L s != [])) := word_l s hs (L s) [] rfl
theorem holds_l (s : ByteArray) (x : Int) (hs : s.size ≤ 140737488351232) : ∀ (suf pre : List UInt8), L s = pre ++ suf → Ev (fun k => laws_holds.l0 k s x s.size pre.length) (suf.any (fun c => decide ((c.toNat : Int) = x)))
  | [], pre, h => Ev.step (f := fun _ => some false) (fun k => by simp only [laws_holds.l0]; rw [if_neg (sz_not h)]) (Ev.now _)
  | c :: t, pre, h => by
    rw [List.any_cons]
    by_cases c1 : (c.toNat : Int) = x
    · rw [decide_eq_true c1, Bool.true_or]
      refine Ev.step (f := fun _ => some true) (fun k => ?_) (Ev.now _)
      simp only [laws_holds.l0]
      rw [if_pos (sz_mid h), if_pos (by omega), if_pos (sz_mid h), bt_mid h, if_pos c1]
    · rw [decide_eq_false c1, Bool.false_or]
      refine Ev.step (fun k => ?_) (holds_l s x hs t (pre ++ [c]) (mid_next h))
      simp only [laws_holds.l0]
      rw [if_pos (sz_mid h), if_pos (by omega), if_pos (sz_mid h), bt_mid h, if_neg c1, wrap_mid h hs]
theorem holds (s : ByteArray) (x : Int) (hs : s.size ≤ 140737488351232) : Ev (fun k => laws_holds.f k s x) ((L s).any (fun c => decide ((c.toNat : Int) = x))) := holds_l s x hs (L s) [] rfl
end Go.Proofs.Ytjklempjljikpaa.SpA
