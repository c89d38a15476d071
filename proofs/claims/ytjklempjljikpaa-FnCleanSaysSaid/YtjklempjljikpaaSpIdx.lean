/- Where a text stands in another, and the last byte of a kind. -/
import Derived.Test.YtjklempjljikpaaQ3
import Derived.Test.YtjklempjljikpaaSpBytes
namespace Go.Proofs.Ytjklempjljikpaa.SpA
open Go.RowKit Go.Proofs.Ytjklempjljikpaa.Q Go.Proofs.YtjklempjljikpaaW.PrintWords Go.Proofs.YtjklempjljikpaaW.PrintLast Go.Proofs.YtjklempjljikpaaKit
/-- The first place of sub, counted from n; -1: none. -/
def ix (sub : List UInt8) : List UInt8 → Nat → Int
  | [], n => if sub = [] then n else -1
  | c :: t, n => if sub.isPrefixOf (c :: t) = true then n else ix sub t (n + 1)
theorem ix_short (sub : List UInt8) : ∀ (l : List UInt8) (n : Nat), l.length < sub.length → ix sub l n = -1
  | [], n, h => by rw [ix, if_neg (by intro e; rw [e] at h; simp at h)]
  | c :: t, n, h => by
    rw [ix, if_neg, ix_short sub t (n + 1) (by simp at h; omega)]
    intro e
    have := (List.isPrefixOf_iff_prefix.1 e).length_le
    omega
theorem toI_take (l : List UInt8) (n : Nat) : (toI l).take n = toI (l.take n) := by simp [toI, List.map_take]
theorem toI_drop (l : List UInt8) (n : Nat) : (toI l).drop n = toI (l.drop n) := by simp [toI, List.map_drop]
theorem zz_l (l sub : List UInt8) (hs : sub ≠ []) (hl : l.length ≤ 4611686018427387904) (hm : sub.length ≤ 4611686018427387) : ∀ (suf pre : List UInt8), l = pre ++ suf →
    Ev (fun k => hertzproto_zzIndex.l0 k (toI l) (toI sub) pre.length) (ix sub suf pre.length) := by
  have hp : 0 < sub.length := List.length_pos_iff.2 hs
  intro suf
  induction suf with
  | nil =>
    intro pre h
    have hlp : pre.length = l.length := by rw [h]; simp
    rw [ix_short sub [] _ (by simpa using hp)]
    refine Ev.step (f := fun _ => some (-1)) (fun k => ?_) (Ev.now _)
    simp only [hertzproto_zzIndex.l0, toI_length]
    rw [wrap_id (by omega) (by omega), if_neg (by omega)]
  | cons c t ih =>
    intro pre h
    have hlp : l.length = pre.length + (t.length + 1) := by rw [h]; simp
    by_cases hc : pre.length + sub.length ≤ l.length
    · have hcut : strOfNums (((toI l).take (pre.length + sub.length)).drop pre.length) = strOfNums (toI ((c :: t).take sub.length)) := by
        rw [toI_take, toI_drop, h, List.take_append, List.drop_append]
        simp
        rw [List.drop_of_length_le (by simp)]
        simp
      by_cases hq : sub.isPrefixOf (c :: t) = true
      · have he : (c :: t).take sub.length = sub := (List.prefix_iff_eq_take.1 (List.isPrefixOf_iff_prefix.1 hq)).symm
        rw [ix, if_pos hq]
        refine Ev.step (f := fun _ => some (pre.length : Int)) (fun k => ?_) (Ev.now _)
        simp only [hertzproto_zzIndex.l0, toI_length]
        rw [wrap_id (by omega) (by omega), if_pos (by omega), if_pos (by omega), if_pos (by omega)]
        rw [show ((pre.length : Int) + (sub.length : Int)).toNat = pre.length + sub.length by omega, show (pre.length : Int).toNat = pre.length by omega, hcut, he, if_pos rfl]
      · have he : ¬ (c :: t).take sub.length = sub := fun e => hq (List.isPrefixOf_iff_prefix.2 (List.prefix_iff_eq_take.2 e.symm))
        rw [ix, if_neg hq]
        have ih' := ih (pre ++ [c]) (by rw [h]; simp)
        rw [show (pre ++ [c]).length = pre.length + 1 by simp] at ih'
        refine Ev.step (fun k => ?_) ih'
        simp only [hertzproto_zzIndex.l0, toI_length]
        rw [wrap_id (by omega) (by omega), if_pos (by omega), if_pos (by omega), if_pos (by omega)]
        rw [show ((pre.length : Int) + (sub.length : Int)).toNat = pre.length + sub.length by omega, show (pre.length : Int).toNat = pre.length by omega, hcut]
        rw [if_neg, wrap_id (by omega) (by omega)]
        · rfl
        · rw [tl, tl, L_strOf, L_strOf]
          exact he
    · rw [ix_short sub (c :: t) _ (by simp; omega)]
      refine Ev.step (f := fun _ => some (-1)) (fun k => ?_) (Ev.now _)
      simp only [hertzproto_zzIndex.l0, toI_length]
      rw [wrap_id (by omega) (by omega), if_neg (by omega)]
theorem zzIndex (l sub : List UInt8) (hs : sub ≠ []) (hl : l.length ≤ 4611686018427387904) (hm : sub.length ≤ 4611686018427387) : Ev (fun k => hertzproto_zzIndex.f k (toI l) (toI sub)) (ix sub l 0) := zz_l l sub hs hl hm l [] rfl
/-- The last place of c among the first n; -1: none. -/
def lastB (l : List UInt8) (c : UInt8) : Nat → Int
  | 0 => -1
  | n + 1 => if l.getD n 0 = c then n else lastB l c n
end Go.Proofs.Ytjklempjljikpaa.SpA
