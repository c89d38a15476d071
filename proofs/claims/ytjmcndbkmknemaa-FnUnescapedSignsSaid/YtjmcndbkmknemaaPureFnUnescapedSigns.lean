/- The pure statement of FnUnescapedSigns: without backslashes, and nothing else is lost. -/
import Derived.Test.YtjmcndbkmknemaaQ11
import Derived.Test.YtjmcndbkmknemaaQ12
import Derived.Test.YtjmcndbkmknemaaQ13
import Derived.Test.YtjmcndbkmknemaaSpTxt
import Derived.Test.YtjmcndbkmknemaaSpBytes
namespace Go.Proofs.Ytjmcndbkmknemaa.Pure
open Go.RowKit Go.Proofs.Ytjmcndbkmknemaa.Q Go.Proofs.YtjmcndbkmknemaaW.PrintWords Go.Proofs.YtjmcndbkmknemaaW.PrintLast Go.Proofs.YtjmcndbkmknemaaKit Go.Proofs.Ytjmcndbkmknemaa.SpA
set_option linter.unusedVariables false
set_option linter.unusedSimpArgs false
def keep (c : UInt8) : Bool := decide (c ≠ 92)
theorem idx_none : ∀ (l : List UInt8), Lib.indexByte l 92 = -1 → l.filter keep = l
  | [], _ => rfl
  | b :: l, h => by
    have hge : ∀ l : List UInt8, -1 ≤ Lib.indexByte l 92 := by
      intro l
      induction l with
      | nil => simp [Lib.indexByte]
      | cons b l ih =>
        simp only [Lib.indexByte]
        split
        · omega
        · split <;> omega
    simp only [Lib.indexByte] at h
    by_cases c : (b == 92) = true
    · rw [if_pos c] at h; omega
    · rw [if_neg c] at h
      by_cases d : (Lib.indexByte l 92 == -1) = true
      · have hk : keep b = true := by unfold keep; simpa using c
        rw [List.filter_cons, if_pos hk, idx_none l (by simpa using d)]
      · rw [if_neg d] at h
        have := hge l
        have d' : ¬ Lib.indexByte l 92 = -1 := by simpa using d
        omega
theorem without_l (s : ByteArray) (hs : s.size ≤ 140737488351232) : ∀ (suf pre acc : List UInt8), L s = pre ++ suf → acc.length ≤ pre.length →
    Ev (fun k => fiberpath_zzWithout.l0 k s 92 (toI acc) (pre.length : Int)) ⟨(acc ++ suf.filter keep).toArray⟩
  | [], pre, acc, h, hl => by
    refine Ev.step (f := fun _ => some (strOfNums (toI acc))) (fun k => ?_) (Ev.same (Ev.now _) (ext (by rw [L_strOf]; simp)))
    simp only [fiberpath_zzWithout.l0]
    rw [if_neg (sz_not h)]
  | c :: t, pre, acc, h, hl => by
    have hsz : pre.length < s.size := nz_mid h
    by_cases d : c = 92
    · rw [List.filter_cons, if_neg (by simp [keep, d])]
      refine Ev.step (fun k => ?_) (without_l s hs t (pre ++ [c]) acc (mid_next h) (by rw [List.length_append]; omega))
      simp only [fiberpath_zzWithout.l0]
      rw [if_pos (sz_mid h), if_pos (by omega), bt_mid h, if_pos (by rw [d]; rfl), wrap_mid h hs]
    · rw [List.filter_cons, if_pos (by simp [keep, d])]
      have ih := without_l s hs t (pre ++ [c]) (acc ++ [c]) (mid_next h) (by simp; omega)
      refine Ev.step (fun k => ?_) (Ev.same ih (by simp))
      simp only [fiberpath_zzWithout.l0]
      rw [if_pos (sz_mid h), if_pos (by omega), bt_mid h, if_neg (fun e => d (UInt8.toNat_inj.1 (show c.toNat = (92 : UInt8).toNat from by show c.toNat = 92; omega))), if_pos (by rw [toI_length]; omega), wrap_mid h hs, toI_append]
      rfl
theorem unesc (s : ByteArray) (hs : s.size ≤ 140737488351232) : Ev (fun k => impl_Unescaped.f k s) ⟨((L s).filter keep).toArray⟩ := by
  unfold impl_Unescaped.f fiberpath_RemoveEscapeChar.f
  refine Ev.call (a := ⟨((L s).filter keep).toArray⟩) ?_ (Ev.now _)
  show Ev (fun k => (if Lib.indexByte (L s) 92 = -1 then some s else (fiberpath_zzWithout.f k s 92).bind fun t => some t)) _
  by_cases c : Lib.indexByte (L s) 92 = -1
  · refine Ev.pos c (Ev.some ?_)
    congr 1
    exact ext (by rw [idx_none _ c])
  · exact Ev.neg c (Ev.call (without_l s hs (L s) [] [] rfl (by simp)) (Ev.now _))
theorem end_l2 (s : ByteArray) (hs : s.size ≤ 2000) : ∀ (suf pre : List UInt8) (acc : ByteArray), L s = pre ++ suf → L acc = pre.filter keep →
    Ev (fun k => laws_FnUnescapedSigns.l0 k s acc (s.size : Int) (pre.length : Int)) true
  | [], pre, acc, h, ha => by
    rw [List.append_nil] at h
    refine Ev.step (fun k => by simp only [laws_FnUnescapedSigns.l0]; rw [if_neg (sz_not (by rw [h, List.append_nil]))]) (Ev.call (unesc s (by omega)) (Ev.some ?_))
    rw [tl, tl, ha, h]
    simp
  | c :: t, pre, acc, h, ha => by
    have hsz : pre.length < s.size := nz_mid h
    have hal : acc.size ≤ pre.length := by rw [size_L, ha]; exact List.length_filter_le _ _
    by_cases d : c = 92
    · refine Ev.step (fun k => ?_) (end_l2 s hs t (pre ++ [c]) acc (mid_next h) (by rw [ha]; simp [keep, d]))
      simp only [laws_FnUnescapedSigns.l0]
      rw [if_pos (sz_mid h), if_pos (by omega), if_pos (sz_mid h), bt_mid h, if_pos (by rw [d]; rfl), wrap_mid h (by omega)]
    · have hx : L (s.extract pre.length (pre ++ [c]).length) = [c] := by rw [L_extract, h]; simp
      refine Ev.step (fun k => ?_) (end_l2 s hs t (pre ++ [c]) (acc ++ s.extract pre.length (pre ++ [c]).length) (mid_next h) (by rw [L_append, ha, hx]; simp [keep, d]))
      simp only [laws_FnUnescapedSigns.l0]
      rw [if_pos (sz_mid h), if_pos (by omega), if_pos (sz_mid h), bt_mid h, if_neg (fun e => d (UInt8.toNat_inj.1 (show c.toNat = (92 : UInt8).toNat from by show c.toNat = 92; omega))), wrap_mid h (by omega), if_pos (by simp; omega), if_pos (by simp; omega), if_pos (by simp; omega)]
      rfl
theorem FnUnescapedSigns : laws_FnUnescapedSigns.Pure := by
  intro s hs
  refine Ev.rounds ?_
  unfold laws_FnUnescapedSigns.f
  by_cases h : (s.size : Int) > 2147483647
  · exact Ev.pos h (Ev.now _)
  refine Ev.neg h (Ev.call (unesc ⟨#[97, 92, 58, 98]⟩ (by decide)) (Ev.pos (by rw [tl]; decide +kernel) (Ev.call (short1 s) ?_)))
  cases hd : decide (s.size ≤ 2000) with
  | false => exact Ev.neg (by simp) (Ev.now _)
  | true => exact Ev.pos rfl (end_l2 s (of_decide_eq_true hd) (L s) [] ⟨#[]⟩ rfl rfl)
end Go.Proofs.Ytjmcndbkmknemaa.Pure
