/- The pure statement of FnParamTrimmed: what stands between a colon and a question mark. -/
import Derived.Test.YtjmcndbkmknemaaQ11
import Derived.Test.YtjmcndbkmknemaaQ8
import Derived.Test.YtjmcndbkmknemaaSpTxt
namespace Go.Proofs.Ytjmcndbkmknemaa.Pure
open Go.RowKit Go.Proofs.Ytjmcndbkmknemaa.Q Go.Proofs.YtjmcndbkmknemaaW.PrintWords Go.Proofs.YtjmcndbkmknemaaW.PrintLast Go.Proofs.YtjmcndbkmknemaaKit Go.Proofs.Ytjmcndbkmknemaa.SpA
/-- A name behind a colon: the end of what is given is a question mark or none. -/
theorem trimmed (a : ByteArray) (t : List UInt8) (ha : L a = 58 :: t) (hs : a.size ≤ 140737488351240) (ht : t ≠ []) :
    Ev (fun k => impl_Trimmed.f k a) ⟨(if t.getLast ht = 63 then t.dropLast else t).toArray⟩ := by
  have hl : a.size = t.length + 1 := by rw [size_L, ha]; rfl
  have htl : 0 < t.length := List.length_pos_iff.2 ht
  have hb0 : bt a 0 = 58 := by
    have := bt_nat a 0 (by rw [ha]; simp)
    simp only [ha] at this
    exact this
  have hbl : bt a ((a.size : Int) - 1) = ((t.getLast ht).toNat : Int) := by
    have := bt_nat a t.length (by rw [ha]; simp)
    rw [show (a.size : Int) - 1 = (t.length : Int) by omega, this]
    congr 2
    simp only [ha]
    rw [List.getLast_eq_getElem]
    rw [List.getElem_cons]
    simp [Nat.ne_of_gt htl]
  have hw : wrap64 ((a.size : Int) - 1) = (a.size : Int) - 1 := wrap_id (by omega) (by omega)
  have hw1 : wrap64 (0 + 1) = 1 := by unfold wrap64; omega
  unfold impl_Trimmed.f fiberpath_GetTrimmedParam.f
  refine Ev.call (Ev.neg (by omega) (Ev.pos (by omega) ?_)) (Ev.now _)
  rw [hb0]
  refine Ev.step (f := fun _ => some ⟨(if t.getLast ht = 63 then t.dropLast else t).toArray⟩) (fun k => ?_) (Ev.now _)
  simp only [fiberpath_GetTrimmedParam.j0]
  rw [if_neg (by decide), hw, hw1, if_pos (by omega), if_pos (by omega), hbl]
  by_cases c : t.getLast ht = 63
  · rw [if_pos (by rw [c]; rfl), if_pos (by omega), if_pos (by omega), if_pos (by omega), if_pos c]
    congr 1
    refine ext ?_
    rw [L_extract, ha]
    simp only [Int.toNat_one, List.drop_succ_cons, List.drop_zero]
    rw [List.dropLast_eq_take]
    congr 1
    omega
  · rw [if_neg (fun h => c (by
      have : (t.getLast ht).toNat = 63 := by omega
      exact UInt8.toNat_inj.1 this)), if_pos (by omega), if_pos (by omega), if_pos (by omega), if_neg c]
    congr 1
    refine ext ?_
    rw [L_extract, ha]
    simp only [Int.toNat_one, List.drop_succ_cons, List.drop_zero]
    exact List.take_of_length_le (by omega)
theorem word_not (c : UInt8) (h : isWordB c = true) : c ≠ 63 := by rintro rfl; revert h; decide +kernel
theorem FnParamTrimmed : laws_FnParamTrimmed.Pure := by
  intro s hs
  refine Ev.rounds ?_
  unfold laws_FnParamTrimmed.f
  by_cases h : (s.size : Int) > 2147483647
  · exact Ev.pos h (Ev.now _)
  refine Ev.neg h (Ev.call (trimmed ⟨#[58, 97, 63]⟩ [97, 63] rfl (by decide) (by simp)) ?_)
  refine Ev.pos (by rw [tl]; rfl) (Ev.call (word s hs) ?_)
  by_cases w : ((L s).all isWordB && (L s != [])) = true
  · rw [w]
    refine Ev.pos rfl (Ev.call (short1 s) ?_)
    cases hd : decide (s.size ≤ 2000) with
    | false => exact Ev.step (f := fun _ => some true) (fun k => by simp only [laws_FnParamTrimmed.j0]; rw [if_pos (by decide)]) (Ev.now _)
    | true =>
      have hsz : s.size ≤ 2000 := of_decide_eq_true hd
      have hne : L s ≠ [] := by
        intro e
        rw [e] at w
        simp at w
      have hall : ∀ c ∈ L s, isWordB c = true := by
        have := (Bool.and_eq_true_iff.1 w).1
        exact fun c hc => List.all_eq_true.1 this c hc
      have hlast : (L s).getLast hne ≠ 63 := word_not _ (hall _ (List.getLast_mem hne))
      have g1 := trimmed (⟨#[58]⟩ ++ s) (L s) (by rw [L_append]; rfl) (by rw [size_append, show (⟨#[58]⟩ : ByteArray).size = 1 from rfl]; omega) hne
      rw [if_neg hlast] at g1
      have hne2 : L s ++ [63] ≠ [] := by simp
      have g2 := trimmed ((⟨#[58]⟩ ++ s) ++ ⟨#[63]⟩) (L s ++ [63]) (by rw [L_append, L_append]; rfl) (by rw [size_append, size_append, show (⟨#[58]⟩ : ByteArray).size = 1 from rfl, show (⟨#[63]⟩ : ByteArray).size = 1 from rfl]; omega) hne2
      rw [if_pos (by simp), List.dropLast_concat] at g2
      refine Ev.step (fun k => by simp only [laws_FnParamTrimmed.j0]; rw [if_neg (by decide)]) ?_
      refine Ev.pos (show 1 + s.size ≤ 9223372036854775807 by omega) (Ev.call g1 (Ev.pos (by simp [tl]) (Ev.pos (show 1 + s.size + 1 ≤ 9223372036854775807 by omega) (Ev.call g2 (Ev.some (r := true) (by simp [tl]))))))
  · rw [Bool.eq_false_iff.2 w]
    refine Ev.neg (by simp) ?_
    exact Ev.step (f := fun _ => some true) (fun k => by simp only [laws_FnParamTrimmed.j0]; rw [if_pos trivial]) (Ev.now _)
end Go.Proofs.Ytjmcndbkmknemaa.Pure
