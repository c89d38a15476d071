/- What the reference reads of a query: its decoding, its parts. No program in sight. -/
import Derived.Test.YtjklempjljikpaaQ12
import Derived.Test.YtjklempjljikpaaQ9
import Derived.Test.YtjklempjljikpaaSpDp
namespace Go.Proofs.Ytjklempjljikpaa.SpA
open Go.RowKit Go.Proofs.Ytjklempjljikpaa.Q Go.Proofs.YtjklempjljikpaaW.PrintWords Go.Proofs.YtjklempjljikpaaW.PrintLast Go.Proofs.YtjklempjljikpaaKit
set_option linter.unusedVariables false
set_option linter.unusedSimpArgs false
abbrev bl (l : List UInt8) : ByteArray := ⟨l.toArray⟩
theorem L_bl (l : List UInt8) : L (bl l) = l := by simp [L, bl]
theorem bl_L (s : ByteArray) : bl (L s) = s := ext (L_bl _)
theorem ev_le' {α : Type} {f : Nat → Option α} {r : α} (h : ∀ k, LeO (f k) (f (k + 1))) (k0 : Nat) (e : f k0 = some r) : Ev f r :=
  ⟨k0, fun k hk => by
    obtain ⟨d, rfl⟩ := Nat.exists_eq_add_of_le hk
    clear hk
    induction d with
    | zero => exact e
    | succ d ih => exact h _ r ih⟩
/-- A digit's value; -1: it is none. -/
def hv (c : UInt8) : Int := if hx c = 16 then -1 else hx c
theorem hexS_all : ∀ c : Fin 256, spec_hexOf.f 4 ((c : Nat) : Int) = some (if bt tab1 ((c : Nat) : Int) = 16 then -1 else bt tab1 ((c : Nat) : Int)) := by decide +kernel
theorem hex_ev (c : UInt8) : Ev (fun k => spec_hexOf.f k (c.toNat : Int)) (hv c) := ev_le' (fun k => spec_hexOf.mono _ k) 4 (hexS_all ⟨c.toNat, c.toNat_lt⟩)
theorem hv_neg (c : UInt8) : hv c < 0 ↔ hx c = 16 := by
  have := hx_range c
  unfold hv
  split <;> omega
theorem bt_two {s : ByteArray} {pre t : List UInt8} {c d : UInt8} (h : L s = pre ++ c :: d :: t) (x : Int) (hx : x = (pre.length : Int) + 1) : bt s x = (d.toNat : Int) := by
  have := bt_mid (s := s) (pre := pre ++ [c]) (c := d) (t := t) (by rw [h]; simp)
  rw [← this]
  congr 1
  rw [hx]; simp
theorem bt_three {s : ByteArray} {pre t : List UInt8} {c d e : UInt8} (h : L s = pre ++ c :: d :: e :: t) (x : Int) (hx : x = (pre.length : Int) + 2) : bt s x = (e.toNat : Int) := by
  have := bt_mid (s := s) (pre := pre ++ [c, d]) (c := e) (t := t) (by rw [h]; simp)
  rw [← this]
  congr 1
  rw [hx]; simp
theorem two_all : ∀ a b : Fin 16, Go.bits .or .u8 (((a.val : Int) * 16) % 256) (b.val : Int) = (16 * (a.val : Int) + (b.val : Int)) % 256 := by decide +kernel
theorem two_eq (x y : UInt8) (hx1 : hx x ≠ 16) (hy1 : hx y ≠ 16) : (wrap64 ((wrap64 (16 * hv x)) + hv y)) % 256 = ((hx2 x y).toNat : Int) := by
  have r1 := hx_range x
  have r2 := hx_range y
  have e1 : hv x = hx x := if_neg hx1
  have e2 : hv y = hx y := if_neg hy1
  have w0 : wrap64 (16 * hx x) = 16 * hx x := wrap_id (by omega) (by omega)
  rw [e1, e2, hx2_toI, w0, wrap_id (by omega) (by omega)]
  have h := two_all ⟨(hx x).toNat, by omega⟩ ⟨(hx y).toNat, by omega⟩
  simp only [show (((hx x).toNat : Nat) : Int) = hx x by omega, show (((hx y).toNat : Nat) : Int) = hx y by omega] at h
  exact h.symm
theorem str_bl (l : List UInt8) : strOfNums (toI l) = bl l := ext (by rw [L_strOf, L_bl])
/-- Each percent sign stands ahead of two digits. -/
def SndB : List UInt8 → Prop
  | [] => True
  | c :: t => (c = 37 → ∃ x y r, t = x :: y :: r ∧ hx x ≠ 16 ∧ hx y ≠ 16) ∧ SndB t
theorem SndB.behind : ∀ (a : List UInt8) {b : List UInt8}, SndB (a ++ b) → SndB b
  | [], _, h => h
  | _ :: t, _, h => SndB.behind t h.2
theorem SndB.ahead {c : UInt8} (hc : hx c = 16) : ∀ (a : List UInt8) {b : List UInt8}, SndB (a ++ c :: b) → SndB a
  | [], _, _ => trivial
  | d :: t, b, h => by
    refine ⟨fun e => ?_, SndB.ahead hc t h.2⟩
    obtain ⟨x, y, r, h1, h2, h3⟩ := h.1 e
    match t, h1 with
    | [], h1 => exact absurd hc (by rw [(List.cons.inj h1).1]; exact h2)
    | [z], h1 => exact absurd hc (by rw [(List.cons.inj (List.cons.inj h1).2).1]; exact h3)
    | z :: z2 :: t', h1 =>
      have e1 := List.cons.inj h1
      have e2 := List.cons.inj e1.2
      exact ⟨z, z2, t', rfl, by rw [e1.1]; exact h2, by rw [e2.1]; exact h3⟩
theorem sound_l (s : ByteArray) (hs : s.size ≤ 2147483647) : ∀ (suf pre : List UInt8), L s = pre ++ suf → ∃ b, Ev (fun k => spec_Sound.l0 k s (pre.length : Int)) b ∧ (b = true → SndB suf)
  | [], pre, h => ⟨true, Ev.step (f := fun _ => some true) (fun k => by simp only [spec_Sound.l0]; rw [if_neg (sz_not h)]) (Ev.now _), fun _ => trivial⟩
  | c :: t, pre, h => by
    obtain ⟨b, ih, ihb⟩ := sound_l s hs t (pre ++ [c]) (mid_next h)
    have hsz : s.size = pre.length + (t.length + 1) := by rw [size_L, h]; simp
    have w1 : wrap64 ((pre.length : Int) + 1) = ((pre ++ [c]).length : Int) := wrap_mid h (by omega)
    have hl1 : ((pre ++ [c]).length : Int) = (pre.length : Int) + 1 := by simp
    have w2 : wrap64 ((pre.length : Int) + 2) = (pre.length : Int) + 2 := wrap_id (by omega) (by omega)
    by_cases hc : (c.toNat : Int) = 37
    · by_cases h2 : (pre.length : Int) + 2 ≥ (s.size : Int)
      · refine ⟨false, Ev.step (f := fun _ => some false) (fun k => ?_) (Ev.now _), fun e => by cases e⟩
        simp only [spec_Sound.l0]
        rw [if_pos (sz_mid h), if_pos (by omega), bt_mid h, if_pos hc, w2, if_pos h2]
      · match t, h, hsz, ih, ihb with
        | [], h, hsz, ih, ihb => simp at hsz; omega
        | [d], h, hsz, ih, ihb => simp at hsz; omega
        | x :: y :: r, h, hsz, ih, ihb =>
          have hbx : bt s ((pre ++ [c]).length : Int) = (x.toNat : Int) := bt_two h _ hl1
          have hby : bt s ((pre.length : Int) + 2) = (y.toNat : Int) := bt_three h _ rfl
          have base : ∀ k, spec_Sound.l0 (k + 1) s (pre.length : Int) = (spec_hexOf.f k (x.toNat : Int)).bind fun t173 => if t173 < 0 then some false else (spec_hexOf.f k (y.toNat : Int)).bind fun t174 => if t174 < 0 then some false else spec_Sound.l0 k s ((pre ++ [c]).length : Int) := fun k => by
            simp only [spec_Sound.l0]
            rw [if_pos (sz_mid h), if_pos (by omega), bt_mid h, if_pos hc, w2, if_neg h2, w1, if_pos (by omega), if_pos (by omega), hbx, hby]
            simp only [if_pos (show (0 : Int) ≤ (pre.length : Int) + 2 by omega), if_pos (show (pre.length : Int) + 2 < (s.size : Int) by omega)]
          by_cases a1 : hv x < 0
          · exact ⟨false, Ev.step base (Ev.call (hex_ev x) (Ev.pos a1 (Ev.now _))), fun e => by cases e⟩
          · by_cases a2 : hv y < 0
            · exact ⟨false, Ev.step base (Ev.call (hex_ev x) (Ev.neg a1 (Ev.call (hex_ev y) (Ev.pos a2 (Ev.now _))))), fun e => by cases e⟩
            · exact ⟨b, Ev.step base (Ev.call (hex_ev x) (Ev.neg a1 (Ev.call (hex_ev y) (Ev.neg a2 ih)))), fun e => ⟨fun _ => ⟨x, y, r, rfl, fun e1 => a1 ((hv_neg x).2 e1), fun e1 => a2 ((hv_neg y).2 e1)⟩, ihb e⟩⟩
    · refine ⟨b, Ev.step (fun k => ?_) ih, fun e => ⟨fun e1 => absurd (by rw [e1]; rfl) hc, ihb e⟩⟩
      simp only [spec_Sound.l0]
      rw [if_pos (sz_mid h), if_pos (by omega), bt_mid h, if_neg hc, w1]
theorem sound (s : ByteArray) (hs : s.size ≤ 2147483647) : ∃ b, Ev (fun k => spec_Sound.f k s) b ∧ (b = true → SndB (L s)) := sound_l s hs (L s) [] rfl
theorem decodedP_l (s : ByteArray) (hs : s.size ≤ 2147483647) : ∀ (n : Nat) (suf pre acc : List UInt8), suf.length ≤ n → L s = pre ++ suf → acc.length ≤ pre.length → SndB suf → Ev (fun k => spec_Decoded.l0 k s true (toI acc) (pre.length : Int)) (bl (acc ++ decP suf)) := by
  intro n
  induction n with
  | zero =>
    intro suf pre acc hn h ha hsd
    have : suf = [] := List.length_eq_zero_iff.1 (by omega)
    subst this
    refine Ev.step (f := fun _ => some (strOfNums (toI acc))) (fun k => by simp only [spec_Decoded.l0]; rw [if_neg (sz_not h)]) (Ev.same (Ev.now _) (by rw [str_bl]; simp [decP]))
  | succ n ih =>
    intro suf pre acc hn h ha hsd
    cases suf with
    | nil => exact Ev.step (f := fun _ => some (strOfNums (toI acc))) (fun k => by simp only [spec_Decoded.l0]; rw [if_neg (sz_not h)]) (Ev.same (Ev.now _) (by rw [str_bl]; simp [decP]))
    | cons c t =>
      have hsz : s.size = pre.length + (t.length + 1) := by rw [size_L, h]; simp
      simp only [List.length_cons] at hn
      have w1 : wrap64 ((pre.length : Int) + 1) = ((pre ++ [c]).length : Int) := wrap_mid h (by omega)
      have hl1 : ((pre ++ [c]).length : Int) = (pre.length : Int) + 1 := by simp
      have w2 : wrap64 ((pre.length : Int) + 2) = (pre.length : Int) + 2 := wrap_id (by omega) (by omega)
      have hal : (toI acc).length < 140737488355328 := by rw [toI_length]; omega
      by_cases hc : (c.toNat : Int) = 37
      · have hc' : c = 37 := UInt8.toNat_inj.1 (by have : (37 : UInt8).toNat = 37 := rfl; omega)
        obtain ⟨x, y, r, ht, a1, a2⟩ := hsd.1 hc'
        subst ht
        simp only [List.length_cons] at hsz hn
        have h2 : (pre.length : Int) + 2 < (s.size : Int) := by omega
        have hbx : bt s ((pre ++ [c]).length : Int) = (x.toNat : Int) := bt_two h _ hl1
        have hby : bt s ((pre.length : Int) + 2) = (y.toNat : Int) := bt_three h _ rfl
        have hd : decP (c :: x :: y :: r) = hx2 x y :: decP r := by rw [decP, if_pos hc', if_neg (by rintro (e | e); exact a1 e; exact a2 e)]
        have base : ∀ k, spec_Decoded.l0 (k + 1) s true (toI acc) (pre.length : Int) = (spec_hexOf.f k (x.toNat : Int)).bind fun t197 => if t197 ≥ 0 then (spec_hexOf.f k (y.toNat : Int)).bind fun t198 => spec_Decoded.j1 k s true (toI acc) (pre.length : Int) (decide (t198 ≥ 0)) else spec_Decoded.j1 k s true (toI acc) (pre.length : Int) false := fun k => by
          simp only [spec_Decoded.l0]
          rw [if_pos (sz_mid h), if_pos (by omega), bt_mid h, if_pos hc, w2, if_pos h2, w1, if_pos (by omega), if_pos (by omega), hbx, hby]
          simp only [if_pos (show (0 : Int) ≤ (pre.length : Int) + 2 by omega)]
        have n1 : ¬ hv x < 0 := fun e => a1 ((hv_neg x).1 e)
        have n2 : ¬ hv y < 0 := fun e => a2 ((hv_neg y).1 e)
        refine Ev.step base (Ev.call (hex_ev x) (Ev.pos (by omega) (Ev.call (hex_ev y) ?_)))
        rw [decide_eq_true (by omega)]
        have i2 := ih r (pre ++ [c, x, y]) (acc ++ [hx2 x y]) (by omega) (by rw [h]; simp) (by simp; omega) hsd.2.2.2
        have w3 : wrap64 ((pre.length : Int) + 2 + 1) = ((pre ++ [c, x, y]).length : Int) := by rw [wrap_id (by omega) (by omega)]; simp; omega
        rw [hd, show acc ++ hx2 x y :: decP r = acc ++ [hx2 x y] ++ decP r by simp]
        have b2 : ∀ k, spec_Decoded.j1 (k + 1) s true (toI acc) (pre.length : Int) true = (spec_hexOf.f k (x.toNat : Int)).bind fun t199 => (spec_hexOf.f k (y.toNat : Int)).bind fun t200 => spec_Decoded.l0 k s true (toI acc ++ [(wrap64 ((wrap64 (16 * t199)) + t200)) % 256]) ((pre ++ [c, x, y]).length : Int) := fun k => by
          simp only [spec_Decoded.j1]
          rw [if_pos trivial, w1, if_pos (by omega), if_pos (by omega), hbx, w2, w3]
          simp only [if_pos (show (0 : Int) ≤ (pre.length : Int) + 2 by omega), if_pos (show (pre.length : Int) + 2 < (s.size : Int) by omega), hby, if_pos hal]
        refine Ev.step b2 (Ev.call (hex_ev x) (Ev.call (hex_ev y) ?_))
        rw [two_eq x y a1 a2, toI_snoc]
        exact i2
      · have hc' : c ≠ 37 := fun e => hc (by rw [e]; rfl)
        have i1 := ih t (pre ++ [c]) (acc ++ [pl c]) (by omega) (mid_next h) (by simp; omega) hsd.2
        rw [decP_plain c hc' t, show acc ++ pl c :: decP t = acc ++ [pl c] ++ decP t by simp]
        refine Ev.step (f := fun k => spec_Decoded.j1 k s true (toI acc) (pre.length : Int) false) (fun k => ?_) (Ev.step (fun k => ?_) i1)
        · simp only [spec_Decoded.l0]
          rw [if_pos (sz_mid h), if_pos (by omega), bt_mid h, if_neg hc]
        · simp only [spec_Decoded.j1]
          rw [if_neg (by decide), if_pos (by omega), if_pos (sz_mid h), bt_mid h, w1, ← toI_snoc]
          by_cases h43 : (c.toNat : Int) = 43
          · have hp : pl c = 32 := by rw [pl, if_pos (UInt8.toNat_inj.1 (by have : (43 : UInt8).toNat = 43 := rfl; omega))]
            rw [if_pos h43, if_pos trivial, if_pos hal, hp]; rfl
          · have hp : pl c = c := by rw [pl, if_neg (fun e => h43 (by rw [e]; rfl))]
            rw [if_neg h43, if_pos hal, hp]
theorem decodedP (s : ByteArray) (hs : s.size ≤ 2147483647) (hd : SndB (L s)) : Ev (fun k => spec_Decoded.f k s true) (bl (decP (L s))) := decodedP_l s hs (L s).length (L s) [] [] (Nat.le_refl _) rfl (Nat.le_refl _) hd
/-! ### parts -/
def spl : List UInt8 → List (List UInt8)
  | [] => [[]]
  | c :: t => if c = 38 then [] :: spl t else match spl t with
    | [] => [[c]]
    | h :: r => (c :: h) :: r
theorem spl_ne : ∀ l, spl l ≠ []
  | [] => by simp [spl]
  | c :: t => by
    unfold spl
    split
    · simp
    · split <;> simp
theorem spl_app (b : List UInt8) : ∀ a, spl (a ++ 38 :: b) = spl a ++ spl b
  | [] => by simp [spl]
  | c :: t => by
    have ih := spl_app b t
    by_cases hc : c = 38
    · simp [spl, hc, ih]
    · simp only [List.cons_append, spl, if_neg hc, ih]
      cases h : spl t with
      | nil => exact absurd h (spl_ne t)
      | cons x y => simp
theorem spl_word : ∀ a : List UInt8, (38 : UInt8) ∉ a → spl a = [a]
  | [], _ => rfl
  | c :: t, h => by
    have hc : ¬ c = 38 := fun e => h (by simp [e])
    have ih := spl_word t (fun e => h (by simp [e]))
    simp [spl, hc, ih]
theorem split_l (s : ByteArray) (hs : s.size ≤ 2138483638) : ∀ (suf dn cur : List UInt8) (acc : List ByteArray), L s = (dn ++ cur) ++ suf → (38 : UInt8) ∉ cur → acc.length ≤ dn.length →
    Ev (fun k => spec_split.l0 k s 38 acc (dn.length : Int) ((dn ++ cur).length : Int)) (acc ++ (spl (cur ++ suf)).map bl)
  | [], dn, cur, acc, h, hc, ha => by
    have hsz : s.size = dn.length + cur.length := by rw [size_L, h]; simp
    have hlen : ((dn ++ cur).length : Int) = (dn.length : Int) + cur.length := by simp
    have hex : s.extract (dn.length : Int).toNat ((dn ++ cur).length : Int).toNat = bl cur := by
      refine ext ?_
      rw [L_extract, Int.toNat_natCast, Int.toNat_natCast, h, L_bl]
      simp
    have w1 : wrap64 (((dn ++ cur).length : Int) + 1) = ((dn ++ cur).length : Int) + 1 := wrap_id (by omega) (by omega)
    rw [List.append_nil, spl_word cur hc]
    refine Ev.step (f := fun k => spec_split.l0 k s 38 (acc ++ [bl cur]) (((dn ++ cur).length : Int) + 1) (((dn ++ cur).length : Int) + 1)) (fun k => ?_) (Ev.step (f := fun _ => some (acc ++ [bl cur])) (fun k => ?_) (Ev.now _))
    · simp only [spec_split.l0]
      rw [if_pos (by omega), if_pos (by omega), if_pos (by omega), if_pos (by omega), if_pos (by omega), hex, w1]
    · simp only [spec_split.l0]
      rw [if_neg (by omega)]
  | c :: t, dn, cur, acc, h, hc, ha => by
    have hsz : s.size = dn.length + cur.length + (t.length + 1) := by rw [size_L, h]; simp; omega
    have hlen : ((dn ++ cur).length : Int) = (dn.length : Int) + cur.length := by simp
    have hex : s.extract (dn.length : Int).toNat ((dn ++ cur).length : Int).toNat = bl cur := by
      refine ext ?_
      rw [L_extract, Int.toNat_natCast, Int.toNat_natCast, h, L_bl]
      simp
    by_cases h38 : c = 38
    · have ih := split_l s hs t (dn ++ cur ++ [c]) [] (acc ++ [bl cur]) (by rw [h]; simp) (by simp) (by simp; omega)
      rw [List.append_nil] at ih
      have w1 : wrap64 (((dn ++ cur).length : Int) + 1) = ((dn ++ cur ++ [c]).length : Int) := wrap_mid h (by omega)
      rw [h38, spl_app, spl_word cur hc]
      refine Ev.step (fun k => ?_) (Ev.same ih (by simp))
      simp only [spec_split.l0]
      rw [if_pos (by omega), if_neg (by omega), if_pos (by omega), if_pos (sz_mid h), bt_mid h, if_pos (by rw [h38]; rfl), if_pos (by omega), if_pos (by omega), if_pos (by omega), hex, w1]
    · have ih := split_l s hs t dn (cur ++ [c]) acc (by rw [h]; simp) (by simp only [List.mem_append, List.mem_singleton, not_or]; exact ⟨hc, fun e => h38 e.symm⟩) ha
      have w1 : wrap64 (((dn ++ cur).length : Int) + 1) = ((dn ++ (cur ++ [c])).length : Int) := by rw [wrap_mid h (by omega), List.append_assoc]
      rw [show cur ++ c :: t = (cur ++ [c]) ++ t by simp]
      refine Ev.step (fun k => ?_) ih
      simp only [spec_split.l0]
      rw [if_pos (by omega), if_neg (by omega), if_pos (by omega), if_pos (sz_mid h), bt_mid h, if_neg (fun e => h38 (UInt8.toNat_inj.1 (by have : (38 : UInt8).toNat = 38 := rfl; omega))), w1]
theorem split (s : ByteArray) (hs : s.size ≤ 2138483638) : Ev (fun k => spec_split.f k s 38) ((spl (L s)).map bl) := split_l s hs (L s) [] [] [] rfl (by simp) (Nat.le_refl _)
theorem spl_free : ∀ (n : Nat) (l : List UInt8), l.length ≤ n → ∀ q ∈ spl l, (38 : UInt8) ∉ q ∧ (∀ x ∈ q, x ∈ l)
  | _, [], _, q, h => by simp [spl] at h; simp [h]
  | 0, c :: t, hn, q, h => by simp at hn
  | n + 1, c :: t, hn, q, h => by
    have ih := spl_free n t (by simpa using hn)
    by_cases hc : c = 38
    · simp only [spl, if_pos hc, List.mem_cons] at h
      rcases h with h | h
      · simp [h]
      · exact ⟨(ih q h).1, fun x hx => List.mem_cons_of_mem _ ((ih q h).2 x hx)⟩
    · cases hs : spl t with
      | nil => exact absurd hs (spl_ne t)
      | cons p ps =>
        simp only [spl, if_neg hc, hs, List.mem_cons] at h
        rcases h with h | h
        · have h1 := ih p (by rw [hs]; simp)
          subst h
          refine ⟨fun e => ?_, fun x hx => ?_⟩
          · rcases List.mem_cons.1 e with e | e
            · exact hc e.symm
            · exact h1.1 e
          · rcases List.mem_cons.1 hx with e | e
            · rw [e]; exact List.mem_cons_self
            · exact List.mem_cons_of_mem _ (h1.2 x e)
        · have h1 := ih q (by rw [hs]; simp [h])
          exact ⟨h1.1, fun x hx => List.mem_cons_of_mem _ (h1.2 x hx)⟩
theorem spl_len : ∀ l, (spl l).length ≤ l.length + 1
  | [] => by simp [spl]
  | c :: t => by
    have := spl_len t
    unfold spl
    split
    · simp; omega
    · split <;> simp_all <;> omega
theorem spl_part_len : ∀ (l p : List UInt8), p ∈ spl l → p.length ≤ l.length
  | [], p, h => by simp [spl] at h; simp [h]
  | c :: t, p, h => by
    by_cases hc : c = 38
    · simp only [spl, if_pos hc, List.mem_cons] at h
      rcases h with h | h
      · simp [h]
      · have := spl_part_len t p h; simp; omega
    · cases hs : spl t with
      | nil => exact absurd hs (spl_ne t)
      | cons q qs =>
        simp only [spl, if_neg hc, hs, List.mem_cons] at h
        rcases h with h | h
        · have := spl_part_len t q (by rw [hs]; simp); rw [h]; simp; omega
        · have := spl_part_len t p (by rw [hs]; simp [h]); simp; omega
theorem split_at61 : ∀ (p : List UInt8), (61 : UInt8) ∈ p → ∃ p1 r1, p = p1 ++ 61 :: r1 ∧ (61 : UInt8) ∉ p1
  | [], h => by simp at h
  | c :: t, h => by
    by_cases hc : c = 61
    · exact ⟨[], t, by rw [hc]; rfl, by simp⟩
    · obtain ⟨a1, a2, h1, h2⟩ := split_at61 t ((List.mem_cons.1 h).resolve_left (fun e => hc e.symm))
      exact ⟨c :: a1, a2, by rw [h1]; rfl, fun e => (List.mem_cons.1 e).elim (fun e2 => hc e2.symm) h2⟩
/-- Where a byte stands first; -1: nowhere. -/
theorem index_l (s : ByteArray) (c : UInt8) (hs : s.size ≤ 2147483647) : ∀ (suf pre : List UInt8), L s = pre ++ suf → Ev (fun k => spec_indexOf.l0 k s (c.toNat : Int) (pre.length : Int)) (if c ∈ suf then ((pre.length + (suf.takeWhile (· != c)).length : Nat) : Int) else -1)
  | [], pre, h => Ev.same (Ev.step (f := fun _ => some (-1)) (fun k => by simp only [spec_indexOf.l0]; rw [if_neg (sz_not h)]) (Ev.now _)) (by simp)
  | d :: t, pre, h => by
    have hsz : s.size = pre.length + (t.length + 1) := by rw [size_L, h]; simp
    have w1 : wrap64 ((pre.length : Int) + 1) = ((pre ++ [d]).length : Int) := wrap_mid h (by omega)
    by_cases hd : (d.toNat : Int) = (c.toNat : Int)
    · have hd' : d = c := UInt8.toNat_inj.1 (by omega)
      subst hd'
      refine Ev.same (Ev.step (f := fun _ => some (pre.length : Int)) (fun k => ?_) (Ev.now _)) (by simp)
      simp only [spec_indexOf.l0]
      rw [if_pos (sz_mid h), if_pos (by omega), bt_mid h, if_pos rfl]
    · have hd' : d ≠ c := fun e => hd (by rw [e])
      have ih := index_l s c hs t (pre ++ [d]) (mid_next h)
      refine Ev.same (Ev.step (fun k => ?_) ih) ?_
      · simp only [spec_indexOf.l0]
        rw [if_pos (sz_mid h), if_pos (by omega), bt_mid h, if_neg hd, w1]
      · by_cases hm : c ∈ t
        · rw [if_pos hm, if_pos (List.mem_cons_of_mem _ hm)]
          simp [List.takeWhile_cons, hd']
          omega
        · rw [if_neg hm, if_neg (by simp only [List.mem_cons, not_or]; exact ⟨fun e => hd' e.symm, hm⟩)]
theorem index (s : ByteArray) (c : UInt8) (hs : s.size ≤ 2147483647) : Ev (fun k => spec_indexOf.f k s (c.toNat : Int)) (if c ∈ L s then (((L s).takeWhile (· != c)).length : Int) else -1) := Ev.same (index_l s c hs (L s) [] rfl) (by simp)
end Go.Proofs.Ytjklempjljikpaa.SpA
