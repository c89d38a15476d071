/- The reference's cleaned path: what the plain functions come to. No program in sight. -/
import Derived.Test.YtjklempjljikpaaQ10
import Derived.Test.YtjklempjljikpaaQ12
import Derived.Test.YtjklempjljikpaaQ13
import Derived.Test.YtjklempjljikpaaQ14
import Derived.Test.YtjklempjljikpaaQ8
import Derived.Test.YtjklempjljikpaaSpNp
namespace Go.Proofs.Ytjklempjljikpaa.SpA
open Go.RowKit Go.Proofs.Ytjklempjljikpaa.Q Go.Proofs.YtjklempjljikpaaW.PrintWords Go.Proofs.YtjklempjljikpaaW.PrintLast Go.Proofs.YtjklempjljikpaaKit
set_option linter.unusedVariables false
set_option linter.unusedSimpArgs false
abbrev bl (l : List UInt8) : ByteArray := ⟨l.toArray⟩
theorem L_bl (l : List UInt8) : L (bl l) = l := by simp [L, bl]
theorem bl_L (s : ByteArray) : bl (L s) = s := ext (L_bl _)
theorem ev_le' {α : Type} {f : Nat → Option α} {r : α} (h : ∀ k, LeO (f k) (f (k + 1))) (k0 : Nat) (e : f k0 = some r) : Ev f r :=
  ⟨k0, fun k hk => by
    obtain ⟨d, rfl⟩ := Nat.exists_eq_add_of_le hk
    clear hk
    induction d with
    | zero => exact e
    | succ d ih => exact h _ r ih⟩
/-- A digit's value; -1: it is none. -/
def hv (c : UInt8) : Int := if hx c = 16 then -1 else hx c
theorem hex_all : ∀ c : Fin 256, spec_hexOf.f 4 ((c : Nat) : Int) = some (if bt tab1 ((c : Nat) : Int) = 16 then -1 else bt tab1 ((c : Nat) : Int)) := by decide +kernel
theorem hex_ev (c : UInt8) : Ev (fun k => spec_hexOf.f k (c.toNat : Int)) (hv c) := ev_le' (fun k => spec_hexOf.mono _ k) 4 (hex_all ⟨c.toNat, c.toNat_lt⟩)
theorem hv_neg (c : UInt8) : hv c < 0 ↔ hx c = 16 := by
  have := hx_range c
  unfold hv
  split <;> omega
theorem bt_two {s : ByteArray} {pre t : List UInt8} {c d : UInt8} (h : L s = pre ++ c :: d :: t) (x : Int) (hx : x = (pre.length : Int) + 1) : bt s x = (d.toNat : Int) := by
  have := bt_mid (s := s) (pre := pre ++ [c]) (c := d) (t := t) (by rw [h]; simp)
  rw [← this]
  congr 1
  rw [hx]; simp
theorem bt_three {s : ByteArray} {pre t : List UInt8} {c d e : UInt8} (h : L s = pre ++ c :: d :: e :: t) (x : Int) (hx : x = (pre.length : Int) + 2) : bt s x = (e.toNat : Int) := by
  have := bt_mid (s := s) (pre := pre ++ [c, d]) (c := e) (t := t) (by rw [h]; simp)
  rw [← this]
  congr 1
  rw [hx]; simp
theorem sound_l (s : ByteArray) (hs : s.size ≤ 2147483647) : ∀ (suf pre : List UInt8), L s = pre ++ suf → ∃ b, Ev (fun k => spec_Sound.l0 k s (pre.length : Int)) b
  | [], pre, h => ⟨true, Ev.step (f := fun _ => some true) (fun k => by simp only [spec_Sound.l0]; rw [if_neg (sz_not h)]) (Ev.now _)⟩
  | c :: t, pre, h => by
    obtain ⟨b, ih⟩ := sound_l s hs t (pre ++ [c]) (mid_next h)
    have hsz : s.size = pre.length + (t.length + 1) := by rw [size_L, h]; simp
    have w1 : wrap64 ((pre.length : Int) + 1) = ((pre ++ [c]).length : Int) := wrap_mid h (by omega)
    have hl1 : ((pre ++ [c]).length : Int) = (pre.length : Int) + 1 := by simp
    have w2 : wrap64 ((pre.length : Int) + 2) = (pre.length : Int) + 2 := wrap_id (by omega) (by omega)
    by_cases hc : (c.toNat : Int) = 37
    · by_cases h2 : (pre.length : Int) + 2 ≥ (s.size : Int)
      · refine ⟨false, Ev.step (f := fun _ => some false) (fun k => ?_) (Ev.now _)⟩
        simp only [spec_Sound.l0]
        rw [if_pos (sz_mid h), if_pos (by omega), bt_mid h, if_pos hc, w2, if_pos h2]
      · match t, h, hsz, ih with
        | [], h, hsz, ih => simp at hsz; omega
        | [d], h, hsz, ih => simp at hsz; omega
        | x :: y :: r, h, hsz, ih =>
          have hbx : bt s ((pre ++ [c]).length : Int) = (x.toNat : Int) := bt_two h _ hl1
          have hby : bt s ((pre.length : Int) + 2) = (y.toNat : Int) := bt_three h _ rfl
          have base : ∀ k, spec_Sound.l0 (k + 1) s (pre.length : Int) = (spec_hexOf.f k (x.toNat : Int)).bind fun t173 => if t173 < 0 then some false else (spec_hexOf.f k (y.toNat : Int)).bind fun t174 => if t174 < 0 then some false else spec_Sound.l0 k s ((pre ++ [c]).length : Int) := fun k => by
            simp only [spec_Sound.l0]
            rw [if_pos (sz_mid h), if_pos (by omega), bt_mid h, if_pos hc, w2, if_neg h2, w1, if_pos (by omega), if_pos (by omega), hbx, hby]
            simp only [if_pos (show (0 : Int) ≤ (pre.length : Int) + 2 by omega), if_pos (show (pre.length : Int) + 2 < (s.size : Int) by omega)]
          by_cases a1 : hv x < 0
          · exact ⟨false, Ev.step base (Ev.call (hex_ev x) (Ev.pos a1 (Ev.now _)))⟩
          · by_cases a2 : hv y < 0
            · exact ⟨false, Ev.step base (Ev.call (hex_ev x) (Ev.neg a1 (Ev.call (hex_ev y) (Ev.pos a2 (Ev.now _)))))⟩
            · exact ⟨b, Ev.step base (Ev.call (hex_ev x) (Ev.neg a1 (Ev.call (hex_ev y) (Ev.neg a2 ih))))⟩
    · refine ⟨b, Ev.step (fun k => ?_) ih⟩
      simp only [spec_Sound.l0]
      rw [if_pos (sz_mid h), if_pos (by omega), bt_mid h, if_neg hc, w1]
theorem sound (s : ByteArray) (hs : s.size ≤ 2147483647) : ∃ b, Ev (fun k => spec_Sound.f k s) b := sound_l s hs (L s) [] rfl
theorem two_all : ∀ a b : Fin 16, Go.bits .or .u8 (((a.val : Int) * 16) % 256) (b.val : Int) = (16 * (a.val : Int) + (b.val : Int)) % 256 := by decide +kernel
theorem two_eq (x y : UInt8) (hx1 : hx x ≠ 16) (hy1 : hx y ≠ 16) : (wrap64 ((wrap64 (16 * hv x)) + hv y)) % 256 = ((hx2 x y).toNat : Int) := by
  have r1 := hx_range x
  have r2 := hx_range y
  have e1 : hv x = hx x := if_neg hx1
  have e2 : hv y = hx y := if_neg hy1
  have w0 : wrap64 (16 * hx x) = 16 * hx x := wrap_id (by omega) (by omega)
  rw [e1, e2, hx2_toI, w0, wrap_id (by omega) (by omega)]
  have h := two_all ⟨(hx x).toNat, by omega⟩ ⟨(hx y).toNat, by omega⟩
  simp only [show (((hx x).toNat : Nat) : Int) = hx x by omega, show (((hx y).toNat : Nat) : Int) = hx y by omega] at h
  exact h.symm
theorem str_bl (l : List UInt8) : strOfNums (toI l) = bl l := ext (by rw [L_strOf, L_bl])
theorem decoded_l (s : ByteArray) (hs : s.size ≤ 2147483647) : ∀ (n : Nat) (suf pre acc : List UInt8), suf.length ≤ n → L s = pre ++ suf → acc.length ≤ pre.length → Ev (fun k => spec_Decoded.l0 k s false (toI acc) (pre.length : Int)) (bl (acc ++ dec suf)) := by
  intro n
  induction n with
  | zero =>
    intro suf pre acc hn h ha
    have : suf = [] := List.length_eq_zero_iff.1 (by omega)
    subst this
    refine Ev.step (f := fun _ => some (strOfNums (toI acc))) (fun k => by simp only [spec_Decoded.l0]; rw [if_neg (sz_not h)]) (Ev.same (Ev.now _) (by rw [str_bl]; simp [dec]))
  | succ n ih =>
    intro suf pre acc hn h ha
    cases suf with
    | nil => exact Ev.step (f := fun _ => some (strOfNums (toI acc))) (fun k => by simp only [spec_Decoded.l0]; rw [if_neg (sz_not h)]) (Ev.same (Ev.now _) (by rw [str_bl]; simp [dec]))
    | cons c t =>
      have hsz : s.size = pre.length + (t.length + 1) := by rw [size_L, h]; simp
      simp only [List.length_cons] at hn
      have w1 : wrap64 ((pre.length : Int) + 1) = ((pre ++ [c]).length : Int) := wrap_mid h (by omega)
      have hl1 : ((pre ++ [c]).length : Int) = (pre.length : Int) + 1 := by simp
      have w2 : wrap64 ((pre.length : Int) + 2) = (pre.length : Int) + 2 := wrap_id (by omega) (by omega)
      have hal : (toI acc).length < 140737488355328 := by rw [toI_length]; omega
      have push : ∀ r : List UInt8, dec (c :: t) = c :: r → r = dec t → Ev (fun k => spec_Decoded.j1 k s false (toI acc) (pre.length : Int) false) (bl (acc ++ dec (c :: t))) := fun r hr hr2 => by
        have i1 := ih t (pre ++ [c]) (acc ++ [c]) (by omega) (mid_next h) (by simp; omega)
        rw [hr, hr2, show acc ++ c :: dec t = acc ++ [c] ++ dec t by simp]
        refine Ev.step (fun k => ?_) i1
        simp only [spec_Decoded.j1]
        rw [if_neg (by decide), if_pos (by omega), if_pos (sz_mid h), bt_mid h, w1, toI_snoc]
        by_cases h43 : (c.toNat : Int) = 43
        · rw [if_pos h43, if_neg (by decide), if_pos hal]
        · rw [if_neg h43, if_pos hal]
      by_cases hc : (c.toNat : Int) = 37
      · have hc' : c = 37 := UInt8.toNat_inj.1 (by have : (37 : UInt8).toNat = 37 := rfl; omega)
        by_cases h2 : (pre.length : Int) + 2 < (s.size : Int)
        · match t, h, hsz, hn, push with
          | [], h, hsz, hn, push => simp at hsz; omega
          | [d], h, hsz, hn, push => simp at hsz; omega
          | x :: y :: r, h, hsz, hn, push =>
            simp only [List.length_cons] at hsz hn
            have hbx : bt s ((pre ++ [c]).length : Int) = (x.toNat : Int) := bt_two h _ hl1
            have hby : bt s ((pre.length : Int) + 2) = (y.toNat : Int) := bt_three h _ rfl
            have hd : dec (c :: x :: y :: r) = if hx x = 16 ∨ hx y = 16 then 37 :: dec (x :: y :: r) else hx2 x y :: dec r := by rw [dec, if_pos hc']
            have base : ∀ k, spec_Decoded.l0 (k + 1) s false (toI acc) (pre.length : Int) = (spec_hexOf.f k (x.toNat : Int)).bind fun t197 => if t197 ≥ 0 then (spec_hexOf.f k (y.toNat : Int)).bind fun t198 => spec_Decoded.j1 k s false (toI acc) (pre.length : Int) (decide (t198 ≥ 0)) else spec_Decoded.j1 k s false (toI acc) (pre.length : Int) false := fun k => by
              simp only [spec_Decoded.l0]
              rw [if_pos (sz_mid h), if_pos (by omega), bt_mid h, if_pos hc, w2, if_pos h2, w1, if_pos (by omega), if_pos (by omega), hbx, hby]
              simp only [if_pos (show (0 : Int) ≤ (pre.length : Int) + 2 by omega)]
            by_cases a1 : hx x = 16
            · have n1 : hv x < 0 := (hv_neg x).2 a1
              exact Ev.step base (Ev.call (hex_ev x) (Ev.neg (by omega) (push _ (by rw [hd, if_pos (.inl a1), hc']) rfl)))
            · have n1 : ¬ hv x < 0 := fun e => a1 ((hv_neg x).1 e)
              by_cases a2 : hx y = 16
              · have n2 : hv y < 0 := (hv_neg y).2 a2
                refine Ev.step base (Ev.call (hex_ev x) (Ev.pos (by omega) (Ev.call (hex_ev y) ?_)))
                rw [decide_eq_false (by omega)]
                exact push _ (by rw [hd, if_pos (.inr a2), hc']) rfl
              · have n2 : ¬ hv y < 0 := fun e => a2 ((hv_neg y).1 e)
                refine Ev.step base (Ev.call (hex_ev x) (Ev.pos (by omega) (Ev.call (hex_ev y) ?_)))
                rw [decide_eq_true (by omega)]
                have i2 := ih r (pre ++ [c, x, y]) (acc ++ [hx2 x y]) (by omega) (by rw [h]; simp) (by simp; omega)
                have w3 : wrap64 ((pre.length : Int) + 2 + 1) = ((pre ++ [c, x, y]).length : Int) := by rw [wrap_id (by omega) (by omega)]; simp; omega
                rw [hd, if_neg (by simp [a1, a2]), show acc ++ hx2 x y :: dec r = acc ++ [hx2 x y] ++ dec r by simp]
                have b2 : ∀ k, spec_Decoded.j1 (k + 1) s false (toI acc) (pre.length : Int) true = (spec_hexOf.f k (x.toNat : Int)).bind fun t199 => (spec_hexOf.f k (y.toNat : Int)).bind fun t200 => spec_Decoded.l0 k s false (toI acc ++ [(wrap64 ((wrap64 (16 * t199)) + t200)) % 256]) ((pre ++ [c, x, y]).length : Int) := fun k => by
                  simp only [spec_Decoded.j1]
                  rw [if_pos trivial, w1, if_pos (by omega), if_pos (by omega), hbx, w2, w3]
                  simp only [if_pos (show (0 : Int) ≤ (pre.length : Int) + 2 by omega), if_pos (show (pre.length : Int) + 2 < (s.size : Int) by omega), hby, if_pos hal]
                refine Ev.step b2 (Ev.call (hex_ev x) (Ev.call (hex_ev y) ?_))
                rw [two_eq x y a1 a2, toI_snoc]
                exact i2
        · have hshort : dec (c :: t) = c :: dec t := by
            rw [dec_short (c :: t) (by simp; omega), dec_short t (by omega)]
          refine Ev.step (fun k => ?_) (push _ hshort rfl)
          simp only [spec_Decoded.l0]
          rw [if_pos (sz_mid h), if_pos (by omega), bt_mid h, if_pos hc, w2, if_neg h2]
      · have hc' : c ≠ 37 := fun e => hc (by rw [e]; rfl)
        refine Ev.step (fun k => ?_) (push _ (dec_plain c hc' t) rfl)
        simp only [spec_Decoded.l0]
        rw [if_pos (sz_mid h), if_pos (by omega), bt_mid h, if_neg hc]
theorem decoded (s : ByteArray) (hs : s.size ≤ 2147483647) : Ev (fun k => spec_Decoded.f k s false) (bl (dec (L s))) := decoded_l s hs (L s).length (L s) [] [] (Nat.le_refl _) rfl (Nat.le_refl _)
end Go.Proofs.Ytjklempjljikpaa.SpA
