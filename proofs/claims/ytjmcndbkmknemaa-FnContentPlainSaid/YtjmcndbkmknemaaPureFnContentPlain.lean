/- The pure statement of FnContentPlain: a type without a plus sign stays as it is. -/
import Derived.Test.YtjmcndbkmknemaaQ28
import Derived.Test.YtjmcndbkmknemaaQ29
import Derived.Test.YtjmcndbkmknemaaQ30
import Derived.Test.YtjmcndbkmknemaaSpTxt
namespace Go.Proofs.Ytjmcndbkmknemaa.Pure
open Go.RowKit Go.Proofs.Ytjmcndbkmknemaa.Q Go.Proofs.YtjmcndbkmknemaaW.PrintWords Go.Proofs.YtjmcndbkmknemaaW.PrintLast Go.Proofs.YtjmcndbkmknemaaKit Go.Proofs.Ytjmcndbkmknemaa.SpA
theorem none_l (s : ByteArray) (hs : s.size ≤ 140737488351232) (hn : ∀ x ∈ L s, x ≠ 43) : ∀ (suf pre : List UInt8), L s = pre ++ suf → Ev (fun k => fiberutils_zzIndex.l0 k s ⟨#[43]⟩ pre.length) (-1)
  | [], pre, h => by
    have e := sz_end h
    refine Ev.step (f := fun _ => some (-1)) (fun k => ?_) (Ev.now _)
    simp only [fiberutils_zzIndex.l0, show ((⟨#[43]⟩ : ByteArray).size : Int) = 1 from rfl]
    rw [wrap_id (by omega) (by omega), if_neg (by omega)]
  | c :: t, pre, h => by
    have hc : c ≠ 43 := hn c (by rw [h]; simp)
    have e := sz_mid h
    refine Ev.step (fun k => ?_) (none_l s hs hn t (pre ++ [c]) (mid_next h))
    simp only [fiberutils_zzIndex.l0, show ((⟨#[43]⟩ : ByteArray).size : Int) = 1 from rfl]
    rw [wrap_mid h hs, if_pos (by rw [List.length_append]; simp; omega), if_pos (by omega), if_pos (by rw [List.length_append]; simp; omega), if_neg ?_]
    rw [tl, tl, L_extract, h]
    simp
    show ¬ [c] = [43]
    simpa using hc
theorem content (s : ByteArray) (hs : s.size ≤ 140737488351232) (hn : ∀ x ∈ L s, x ≠ 43) : Ev (fun k => impl_ContentType.f k s) s := by
  unfold impl_ContentType.f fiberutils_ParseVendorSpecificContentType.f
  exact Ev.call (Ev.call (none_l s hs hn (L s) [] rfl) (Ev.pos rfl (Ev.now _))) (Ev.now _)
theorem FnContentPlain : laws_FnContentPlain.Pure := by
  intro s hs
  refine Ev.rounds ?_
  unfold laws_FnContentPlain.f
  by_cases h : (s.size : Int) > 2147483647
  · exact Ev.pos h (Ev.now _)
  refine Ev.neg h (Ev.call (content ⟨#[97, 47, 98]⟩ (by decide) (by decide)) (Ev.pos (by simp [tl]) (Ev.call (holds s 43 hs) ?_)))
  by_cases c : (L s).any (fun x => decide ((x.toNat : Int) = 43)) = true
  · exact Ev.pos c (Ev.now _)
  refine Ev.neg c (Ev.call (short1 s) ?_)
  cases decide (s.size ≤ 2000) with
  | false => exact Ev.neg (by simp) (Ev.now _)
  | true =>
    refine Ev.pos rfl (Ev.call (content s hs ?_) (Ev.some (r := true) (by simp)))
    rintro x hx rfl
    exact c (List.any_eq_true.2 ⟨_, hx, by decide⟩)
end Go.Proofs.Ytjmcndbkmknemaa.Pure
