/- What a part of a request's cookies comes to: blanks at its ends are taken away, and quotes around a value. -/
import Derived.Test.YtipmmjbjgbfgjaaQ1
import Derived.Test.YtipmmjbjgbfgjaaSpBytes
namespace Go.Proofs.Ytipmmjbjgbfgjaa.SpA
open Go.RowKit Go.Proofs.Ytipmmjbjgbfgjaa.Q Go.Proofs.YtipmmjbjgbfgjaaW.PrintWords Go.Proofs.YtipmmjbjgbfgjaaW.PrintLast Go.Proofs.YtipmmjbjgbfgjaaKit
set_option linter.unusedVariables false
set_option linter.unusedSimpArgs false
def trL (l : List UInt8) : List UInt8 := l.dropWhile (· == 32)
def trR (l : List UInt8) : List UInt8 := (l.reverse.dropWhile (· == 32)).reverse
def unq (l : List UInt8) : List UInt8 := if 1 < l.length ∧ l.head? = some 34 ∧ l.getLast? = some 34 then (l.take (l.length - 1)).drop 1 else l
/-- A key as it is read; a value. -/
def dcK (l : List UInt8) : List UInt8 := trR (trL l)
def dcV (l : List UInt8) : List UInt8 := unq (trR (trL l))
theorem trR_snoc (l : List UInt8) (c : UInt8) : trR (l ++ [c]) = if c = 32 then trR l else l ++ [c] := by
  unfold trR
  rw [List.reverse_append, List.reverse_singleton, List.singleton_append, List.dropWhile_cons]
  by_cases h : c = 32 <;> simp [h]
theorem trL_cons (c : UInt8) (l : List UInt8) : trL (c :: l) = if c = 32 then trL l else c :: l := by
  unfold trL
  rw [List.dropWhile_cons]
  by_cases h : c = 32 <;> simp [h]
theorem trL_len (l : List UInt8) : (trL l).length ≤ l.length := (List.dropWhile_sublist _).length_le
theorem trR_len (l : List UInt8) : (trR l).length ≤ l.length := by
  have h := (List.dropWhile_sublist (l := l.reverse) (fun x => x == 32)).length_le
  unfold trR
  simpa using h
theorem unq_len (l : List UInt8) : (unq l).length ≤ l.length := by
  unfold unq
  split
  · simp; omega
  · exact Nat.le_refl _
theorem dcK_len (l : List UInt8) : (dcK l).length ≤ l.length := Nat.le_trans (trR_len _) (trL_len _)
theorem dcV_len (l : List UInt8) : (dcV l).length ≤ l.length := Nat.le_trans (unq_len _) (dcK_len _)
theorem rd_ck {l pre t : List UInt8} {c : UInt8} (h : l = pre ++ c :: t) (x : Int) (hx : x = (pre.length : Int)) : rd (toI l) x = (c.toNat : Int) := by rw [hx]; exact rd_mid h
theorem ck_take (l : List UInt8) (n : Nat) : (toI l).take n = toI (l.take n) := by simp [toI, List.map_take]
theorem ck_drop (l : List UInt8) (n : Nat) : (toI l).drop n = toI (l.drop n) := by simp [toI, List.map_drop]
theorem is34 {c : UInt8} (h : (c.toNat : Int) = 34) : c = 34 := UInt8.toNat_inj.1 (by have : (34 : UInt8).toNat = 34 := rfl; omega)
theorem is32 {c : UInt8} (h : (c.toNat : Int) = 32) : c = 32 := UInt8.toNat_inj.1 (by have : (32 : UInt8).toNat = 32 := rfl; omega)
theorem dc_j3 (x : List UInt8) (sk : Bool) (hx : x.length ≤ 2147483647) : Ev (fun k => hertzproto_decodeCookieArg.j3 k (toI []) (toI x) sk) (toI (if sk then unq x else x)) := by
  have w1 : wrap64 (((toI x).length : Int) - 1) = (x.length : Int) - 1 := by rw [toI_length]; unfold wrap64; omega
  have hl : (toI x).length = x.length := toI_length x
  have e0 : (toI ([] : List UInt8)) = [] := rfl
  have step : ∀ r, (∀ k, hertzproto_decodeCookieArg.j3 (k + 1) (toI []) (toI x) sk = some r) → Ev (fun k => hertzproto_decodeCookieArg.j3 k (toI []) (toI x) sk) r := fun r h => Ev.step (f := fun _ => some r) (fun k => h k) (Ev.now _)
  cases sk with
  | false =>
    refine step _ fun k => ?_
    simp only [hertzproto_decodeCookieArg.j3]
    rw [if_neg (by decide), if_pos (by simp [e0])]
    simp [e0, hl]
    omega
  | true =>
    show Ev _ (toI (unq x))
    refine step _ fun k => ?_
    simp only [hertzproto_decodeCookieArg.j3]
    rw [if_pos trivial]
    by_cases h1 : 1 < x.length
    · obtain ⟨c, t, rfl⟩ : ∃ c t, x = c :: t := by
        cases x with
        | nil => simp at h1
        | cons c t => exact ⟨c, t, rfl⟩
      have hr : rd (toI (c :: t)) 0 = (c.toNat : Int) := rd_ck (pre := []) rfl 0 rfl
      obtain ⟨m, d, hmd⟩ : ∃ m d, c :: t = m ++ [d] := ⟨(c :: t).dropLast, (c :: t).getLast (by simp), (List.dropLast_concat_getLast _).symm⟩
      have hml : (c :: t).length = m.length + 1 := by rw [hmd]; simp
      have hr2 : rd (toI (c :: t)) (((c :: t).length : Int) - 1) = (d.toNat : Int) := rd_ck (pre := m) (t := []) hmd _ (by omega)
      have hgl : (c :: t).getLast? = some d := by rw [hmd]; simp
      have hhd : (c :: t).head? = some c := rfl
      have hun : unq (c :: t) = if c = 34 ∧ d = 34 then ((c :: t).take ((c :: t).length - 1)).drop 1 else c :: t := by
        unfold unq
        rw [hgl, hhd]
        by_cases hc : c = 34 <;> by_cases hd : d = 34 <;> simp [hc, hd, h1]
        all_goals (intro h; rw [h] at h1; simp at h1)
      rw [hun, if_pos (by omega), if_pos (by omega), hr, w1, hr2]
      by_cases hc : c = 34
      · rw [if_pos (by rw [hc]; rfl), if_pos (by omega), if_pos (by omega)]
        by_cases hd : d = 34
        · rw [if_pos (by rw [hd]; rfl), if_pos (by omega), if_pos (by omega), if_pos ⟨hc, hd⟩]
          simp only [e0, List.length_nil, Int.toNat_zero, List.take_nil, List.nil_append, Option.bind_some, Nat.zero_add]
          rw [if_pos (by decide), show (((c :: t).length : Int) - 1).toNat = (c :: t).length - 1 by omega, ck_take, ck_drop, toI_length, if_pos (by simp only [List.length_drop, List.length_take]; omega)]
        · rw [if_neg (fun e => hd (is34 e)), if_neg (fun (e : c = 34 ∧ d = 34) => hd e.2)]
          simp only [e0, List.length_nil, Int.toNat_zero, List.take_nil, List.nil_append, Option.bind_some, Nat.zero_add, hl]
          rw [if_pos (by decide), if_pos (by omega)]
      · rw [if_neg (fun e => hc (is34 e)), if_neg (fun (e : c = 34 ∧ d = 34) => hc e.1)]
        simp only [e0, List.length_nil, Int.toNat_zero, List.take_nil, List.nil_append, Option.bind_some, Nat.zero_add, hl]
        rw [if_pos (by decide), if_pos (by omega)]
    · have hun : unq x = x := by unfold unq; rw [if_neg (fun e => h1 e.1)]
      rw [hun, if_neg (by omega)]
      simp only [e0, List.length_nil, Int.toNat_zero, List.take_nil, List.nil_append, Option.bind_some, Nat.zero_add, hl]
      rw [if_pos (by decide), if_pos (by omega)]
theorem dc_l1 (sk : Bool) : ∀ (n : Nat) (x : List UInt8), x.length = n → n ≤ 2147483647 → Ev (fun k => hertzproto_decodeCookieArg.l1 k (toI []) (toI x) sk) (toI (if sk then unq (trR x) else trR x)) := by
  intro n
  induction n with
  | zero =>
    intro x hx hn
    obtain rfl : x = [] := List.length_eq_zero_iff.1 hx
    refine Ev.step (fun k => ?_) (dc_j3 (trR []) sk (by decide))
    simp only [hertzproto_decodeCookieArg.l1]
    rw [if_neg (by simp [toI])]
    rfl
  | succ n ih =>
    intro x hx hn
    obtain ⟨m, d, hmd⟩ : ∃ m d, x = m ++ [d] := ⟨x.dropLast, x.getLast (by intro e; simp [e] at hx), (List.dropLast_concat_getLast _).symm⟩
    have hm : m.length = n := by rw [hmd] at hx; simpa using hx
    have hl : (toI x).length = x.length := toI_length x
    have w1 : wrap64 (((toI x).length : Int) - 1) = (m.length : Int) := by rw [hl, hx]; unfold wrap64; omega
    have hr : rd (toI x) (m.length : Int) = (d.toNat : Int) := rd_ck (t := []) hmd _ rfl
    have ht : (toI x).take ((m.length : Int)).toNat = toI m := by rw [Int.toNat_natCast, ck_take, hmd]; simp
    have hs := trR_snoc m d
    rw [← hmd] at hs
    rw [hs]
    by_cases hd : d = 32
    · rw [if_pos hd]
      refine Ev.step (fun k => ?_) (ih m hm (by omega))
      simp only [hertzproto_decodeCookieArg.l1]
      rw [w1, if_pos (by omega), if_pos (by omega), if_pos (by omega), hr, if_pos (by rw [hd]; rfl), if_pos (by omega), ht]
    · rw [if_neg hd]
      refine Ev.step (fun k => ?_) (dc_j3 x sk (by omega))
      simp only [hertzproto_decodeCookieArg.l1]
      rw [w1, if_pos (by omega), if_pos (by omega), if_pos (by omega), hr, if_neg (fun e => hd (is32 e))]
theorem dc_l0 (sk : Bool) : ∀ (x : List UInt8), x.length ≤ 2147483647 → Ev (fun k => hertzproto_decodeCookieArg.l0 k (toI []) (toI x) sk) (toI (if sk then dcV x else dcK x))
  | [], _ => by
    refine Ev.step (f := fun k => hertzproto_decodeCookieArg.j1 k (toI []) (toI []) sk) (fun k => ?_) (Ev.step (fun k => ?_) (dc_l1 sk 0 [] rfl (by decide)))
    · simp only [hertzproto_decodeCookieArg.l0]
      rw [if_neg (by simp [toI])]
    · simp only [hertzproto_decodeCookieArg.j1]
  | c :: t, h => by
    simp only [List.length_cons] at h
    have hr : rd (toI (c :: t)) 0 = (c.toNat : Int) := rd_ck (pre := []) rfl 0 rfl
    have hl : (toI (c :: t)).length = t.length + 1 := by rw [toI_length]; rfl
    have hs := trL_cons c t
    unfold dcV dcK
    rw [hs]
    by_cases hc : c = 32
    · rw [if_pos hc]
      refine Ev.step (fun k => ?_) (dc_l0 sk t (by omega))
      simp only [hertzproto_decodeCookieArg.l0]
      rw [if_pos (by omega), if_pos (by omega), hr, if_pos (by rw [hc]; rfl), if_pos (by omega)]
      rfl
    · rw [if_neg hc]
      refine Ev.step (f := fun k => hertzproto_decodeCookieArg.j1 k (toI []) (toI (c :: t)) sk) (fun k => ?_) (Ev.step (fun k => ?_) (dc_l1 sk (t.length + 1) (c :: t) rfl h))
      · simp only [hertzproto_decodeCookieArg.l0]
        rw [if_pos (by omega), if_pos (by omega), hr, if_neg (fun e => hc (is32 e))]
      · simp only [hertzproto_decodeCookieArg.j1]
theorem dc_f (x : List UInt8) (sk : Bool) (hx : x.length ≤ 2147483647) : Ev (fun k => hertzproto_decodeCookieArg.f k (toI []) (toI x) sk) (toI (if sk then dcV x else dcK x)) := dc_l0 sk x hx
end Go.Proofs.Ytipmmjbjgbfgjaa.SpA
