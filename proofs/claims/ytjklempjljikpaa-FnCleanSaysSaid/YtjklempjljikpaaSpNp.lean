/- What a path comes to ahead of its cleaning: a slash ahead of it, and its percent signs read. -/
import Derived.Test.YtjklempjljikpaaQ1
import Derived.Test.YtjklempjljikpaaSpIdx
import Derived.Test.YtjklempjljikpaaCl
import Derived.Lib.IndexLaws
namespace Go.Proofs.Ytjklempjljikpaa.SpA
open Go.RowKit Go.Proofs.Ytjklempjljikpaa.Q Go.Proofs.YtjklempjljikpaaW.PrintWords Go.Proofs.YtjklempjljikpaaW.PrintLast Go.Proofs.YtjklempjljikpaaKit
/-- A byte's value as a hexadecimal digit; 16: it is none. -/
def hx (c : UInt8) : Int := bt tab1 (c.toNat : Int)
/-- The byte of two digits. -/
def hx2 (x y : UInt8) : UInt8 := (Go.bits .or .u8 ((hx x * 16) % 256) (hx y)).toNat.toUInt8
def dec : List UInt8 → List UInt8
  | [] => []
  | [c] => [c]
  | [c, d] => [c, d]
  | c :: x :: y :: r => if c = 37 then (if hx x = 16 ∨ hx y = 16 then 37 :: dec (x :: y :: r) else hx2 x y :: dec r) else c :: dec (x :: y :: r)
termination_by l => l.length
theorem dec_plain (c : UInt8) (hc : c ≠ 37) : ∀ t, dec (c :: t) = c :: dec t
  | [] => by simp [dec]
  | [d] => by simp [dec]
  | x :: y :: r => by rw [dec, if_neg hc]
theorem dec_short (l : List UInt8) (h : l.length ≤ 2) : dec l = l := by
  match l, h with
  | [], _ => simp [dec]
  | [c], _ => simp [dec]
  | [c, d], _ => simp [dec]
theorem dec_none : ∀ (l : List UInt8), (37 : UInt8) ∉ l → dec l = l
  | [], _ => by simp [dec]
  | c :: t, h => by
    rw [dec_plain c (fun e => h (by simp [e])), dec_none t (fun e => h (by simp [e]))]
theorem tab_size : (tab1.size : Int) = 256 := by decide +kernel
theorem hx_all : ∀ c : Fin 256, 0 ≤ bt tab1 ((c : Nat) : Int) ∧ bt tab1 ((c : Nat) : Int) ≤ 16 := by decide +kernel
theorem hx_range (c : UInt8) : 0 ≤ hx c ∧ hx c ≤ 16 := hx_all ⟨c.toNat, c.toNat_lt⟩
set_option maxRecDepth 100000 in
set_option maxHeartbeats 4000000 in
theorem bits_all : ∀ a b : Fin 17, ((Go.bits .or .u8 (((a.val : Int) * 16) % 256) (b.val : Int)).toNat.toUInt8.toNat : Int) = Go.bits .or .u8 (((a.val : Int) * 16) % 256) (b.val : Int) := by decide +kernel
theorem hx2_toI (x y : UInt8) : ((hx2 x y).toNat : Int) = Go.bits .or .u8 ((hx x * 16) % 256) (hx y) := by
  have h1 := hx_range x
  have h2 := hx_range y
  have h := bits_all ⟨(hx x).toNat, by omega⟩ ⟨(hx y).toNat, by omega⟩
  simp only [show (((hx x).toNat : Nat) : Int) = hx x by omega, show (((hx y).toNat : Nat) : Int) = hx y by omega] at h
  exact h
theorem dec_len : ∀ (n : Nat) (l : List UInt8), l.length ≤ n → (dec l).length ≤ l.length
  | 0, l, h => by
    have : l = [] := List.length_eq_zero_iff.1 (by omega)
    subst this
    simp [dec]
  | n + 1, l, h => by
    match l, h with
    | [], _ => simp [dec]
    | [c], _ => simp [dec]
    | [c, d], _ => simp [dec]
    | c :: x :: y :: r, h =>
      have h1 := dec_len n (x :: y :: r) (by simp at h ⊢; omega)
      have h2 := dec_len n r (by simp at h ⊢; omega)
      rw [dec]
      simp only [List.length_cons] at h1 ⊢
      split
      · split
        · simp only [List.length_cons]; omega
        · simp only [List.length_cons]; omega
      · simp only [List.length_cons]; omega
theorem toI_snoc (a : List UInt8) (c : UInt8) : toI a ++ [(c.toNat : Int)] = toI (a ++ [c]) := by simp [toI]
theorem rd_at {l pre t : List UInt8} {c : UInt8} (h : l = pre ++ c :: t) (x : Int) (hx : x = (pre.length : Int)) : rd (toI l) x = (c.toNat : Int) := by rw [hx]; exact rd_mid h
theorem byte_lt (c : UInt8) : (c.toNat : Int) < 256 := by have := c.toNat_lt; omega
theorem dec_l (s : List UInt8) (hs : s.length ≤ 2147483647) : ∀ (n : Nat) (pre suf acc : List UInt8), suf.length ≤ n → s = pre ++ suf → acc.length + suf.length < 140737488355328 →
    Ev (fun k => hertzproto_decodeArgAppendNoPlus.l0 k (toI acc) (toI s) (pre.length : Int)) (toI (acc ++ dec suf)) := by
  intro n
  induction n with
  | zero =>
    intro pre suf acc hn e hacc
    have : suf = [] := List.length_eq_zero_iff.1 (by omega)
    subst this
    refine Ev.step (f := fun _ => some (toI acc)) (fun k => ?_) (by rw [show acc ++ dec [] = acc by simp [dec]]; exact Ev.now _)
    simp only [hertzproto_decodeArgAppendNoPlus.l0, toI_length]
    rw [if_neg (by rw [e]; simp)]
  | succ n ih =>
    intro pre suf acc hn e hacc
    cases suf with
    | nil =>
      refine Ev.step (f := fun _ => some (toI acc)) (fun k => ?_) (by rw [show acc ++ dec [] = acc by simp [dec]]; exact Ev.now _)
      simp only [hertzproto_decodeArgAppendNoPlus.l0, toI_length]
      rw [if_neg (by rw [e]; simp)]
    | cons c t =>
      have hsl : s.length = pre.length + (t.length + 1) := by rw [e]; simp
      simp only [List.length_cons] at hn hacc
      have g0 : (pre.length : Int) < (s.length : Int) := by omega
      have g1 : (0 : Int) ≤ (pre.length : Int) := by omega
      have hrd : rd (toI s) (pre.length : Int) = (c.toNat : Int) := rd_mid e
      have w1 : wrap64 ((pre.length : Int) + 1) = ((pre ++ [c]).length : Int) := by rw [wrap_id (by omega) (by omega)]; simp
      have w2 : wrap64 ((pre.length : Int) + 2) = (pre.length : Int) + 2 := wrap_id (by omega) (by omega)
      have hal : (acc.length : Nat) < 140737488355328 := by omega
      by_cases hc : c = 37
      · have hc' : (c.toNat : Int) = 37 := by rw [hc]; rfl
        match t, hn, hacc, e, hsl with
        | [], hn, hacc, e, hsl =>
          refine Ev.step (f := fun _ => some (toI (acc ++ dec [c]))) (fun k => ?_) (Ev.now _)
          simp only [hertzproto_decodeArgAppendNoPlus.l0, toI_length]
          rw [if_pos g0, if_pos g1, hrd, if_pos hc', w2, if_pos (by simp at hsl ⊢; omega), if_pos (by omega), Int.toNat_natCast, toI_drop, e, List.drop_left, dec_short [c] (by simp), Option.bind_some, toI_length, if_pos (by simp; omega), toI_append]
        | [d], hn, hacc, e, hsl =>
          refine Ev.step (f := fun _ => some (toI (acc ++ dec [c, d]))) (fun k => ?_) (Ev.now _)
          simp only [hertzproto_decodeArgAppendNoPlus.l0, toI_length]
          rw [if_pos g0, if_pos g1, hrd, if_pos hc', w2, if_pos (by simp at hsl ⊢; omega), if_pos (by omega), Int.toNat_natCast, toI_drop, e, List.drop_left, dec_short [c, d] (by simp), Option.bind_some, toI_length, if_pos (by simp at hacc ⊢; omega), toI_append]
        | x :: y :: r, hn, hacc, e, hsl =>
          simp only [List.length_cons] at hn hacc hsl
          have hrx : rd (toI s) ((pre ++ [c]).length : Int) = (x.toNat : Int) := rd_mid (pre := pre ++ [c]) (t := y :: r) (by rw [e]; simp)
          have hry : rd (toI s) ((pre.length : Int) + 2) = (y.toNat : Int) := rd_at (pre := pre ++ [c, x]) (t := r) (by rw [e]; simp) _ (by simp)
          have hlp : ((pre ++ [c]).length : Int) = (pre.length : Int) + 1 := by simp
          have gx0 : (0 : Int) ≤ (x.toNat : Int) := by omega
          have gy0 : (0 : Int) ≤ (y.toNat : Int) := by omega
          have gx1 : (x.toNat : Int) < (tab1.size : Int) := by rw [tab_size]; exact byte_lt x
          have gy1 : (y.toNat : Int) < (tab1.size : Int) := by rw [tab_size]; exact byte_lt y
          have k1 : ¬ (pre.length : Int) + 2 ≥ (s.length : Int) := by omega
          have k2 : (0 : Int) ≤ (pre.length : Int) + 2 := by omega
          have k3 : (pre.length : Int) + 2 < (s.length : Int) := by omega
          have k4 : (0 : Int) ≤ ((pre ++ [c]).length : Int) := by omega
          have k5 : ((pre ++ [c]).length : Int) < (s.length : Int) := by omega
          have ih1 := ih (pre ++ [c]) (x :: y :: r) (acc ++ [37]) (by simp; omega) (by rw [e]; simp) (by simp; omega)
          have ih2 := ih (pre ++ [c, x, y]) r (acc ++ [hx2 x y]) (by omega) (by rw [e]; simp) (by simp; omega)
          have hd : dec (c :: x :: y :: r) = if hx x = 16 ∨ hx y = 16 then 37 :: dec (x :: y :: r) else hx2 x y :: dec r := by rw [dec, if_pos hc]
          have w3 : wrap64 ((pre.length : Int) + 2 + 1) = ((pre ++ [c, x, y]).length : Int) := by rw [wrap_id (by omega) (by omega)]; simp; omega
          by_cases h1 : hx x = 16
          · rw [hd, if_pos (.inl h1), show acc ++ 37 :: dec (x :: y :: r) = acc ++ [37] ++ dec (x :: y :: r) by simp]
            refine Ev.step (fun k => ?_) ih1
            simp only [hertzproto_decodeArgAppendNoPlus.l0, toI_length]
            rw [if_pos g0, if_pos g1, hrd, if_pos hc', w2, w1, if_neg k1, if_pos k2, if_pos k3, hrx, hry, if_pos gy0, if_pos gy1, if_pos k4, if_pos k5, if_pos gx0, if_pos gx1, if_pos (show bt tab1 (x.toNat : Int) = 16 from h1), if_pos hal, show ([37] : List Int) = [((37 : UInt8).toNat : Int)] from rfl, toI_snoc]
          · by_cases h2 : hx y = 16
            · rw [hd, if_pos (.inr h2), show acc ++ 37 :: dec (x :: y :: r) = acc ++ [37] ++ dec (x :: y :: r) by simp]
              refine Ev.step (fun k => ?_) ih1
              simp only [hertzproto_decodeArgAppendNoPlus.l0, toI_length]
              rw [if_pos g0, if_pos g1, hrd, if_pos hc', w2, w1, if_neg k1, if_pos k2, if_pos k3, hrx, hry, if_pos gy0, if_pos gy1, if_pos k4, if_pos k5, if_pos gx0, if_pos gx1, if_neg (show ¬ bt tab1 (x.toNat : Int) = 16 from h1), if_pos (show bt tab1 (y.toNat : Int) = 16 from h2), if_pos hal, show ([37] : List Int) = [((37 : UInt8).toNat : Int)] from rfl, toI_snoc]
            · rw [hd, if_neg (by simp [h1, h2]), show acc ++ hx2 x y :: dec r = acc ++ [hx2 x y] ++ dec r by simp]
              refine Ev.step (fun k => ?_) ih2
              simp only [hertzproto_decodeArgAppendNoPlus.l0, toI_length]
              rw [if_pos g0, if_pos g1, hrd, if_pos hc', w2, w1, if_neg k1, if_pos k2, if_pos k3, hrx, hry, if_pos gy0, if_pos gy1, if_pos k4, if_pos k5, if_pos gx0, if_pos gx1, if_neg (show ¬ bt tab1 (x.toNat : Int) = 16 from h1), if_neg (show ¬ bt tab1 (y.toNat : Int) = 16 from h2), if_pos hal, w3, ← toI_snoc, hx2_toI]
              rfl
      · have hc' : ¬ (c.toNat : Int) = 37 := fun h => hc (UInt8.toNat_inj.1 (by have : (37 : UInt8).toNat = 37 := rfl; omega))
        have ih1 := ih (pre ++ [c]) t (acc ++ [c]) (by omega) (by rw [e]; simp) (by simp; omega)
        rw [dec_plain c hc, show acc ++ c :: dec t = acc ++ [c] ++ dec t by simp]
        refine Ev.step (fun k => ?_) ih1
        simp only [hertzproto_decodeArgAppendNoPlus.l0, toI_length]
        rw [if_pos g0, if_pos g1, hrd, if_neg hc', w1, if_pos hal, toI_snoc]
theorem bytesOf_toI' (l : List UInt8) : Lib.bytesOf (toI l) = l := by
  unfold Lib.bytesOf toI
  rw [List.map_map]
  conv => rhs; rw [← List.map_id l]
  refine List.map_congr_left fun c _ => ?_
  simp
theorem dec_f (a s : List UInt8) (ha : a.length ≤ 1) (hs : s.length ≤ 2147483647) : Ev (fun k => hertzproto_decodeArgAppendNoPlus.f k (toI a) (toI s)) (toI (a ++ dec s)) := by
  have hib : bytes_IndexByte.f (toI s) 37 = some (Lib.indexByte s 37) := by
    unfold bytes_IndexByte.f
    rw [bytesOf_toI']
    rfl
  by_cases h : Lib.indexByte s 37 < 0
  · have hn : (37 : UInt8) ∉ s := fun hm => by
      have h1 := Lib.indexByte_none (l := s) (c := 37) (by have := Lib.indexByte_ge s 37; omega)
      obtain ⟨k, hk, e⟩ := List.getElem_of_mem hm
      exact h1 k (by rw [List.getElem?_eq_getElem hk, e])
    refine ⟨0, fun k _ => ?_⟩
    simp only [hertzproto_decodeArgAppendNoPlus.f, hib, Option.bind_some]
    rw [if_pos h, toI_length, toI_length, if_pos (by omega), dec_none s hn, toI_append]
  · obtain ⟨K, hK⟩ := dec_l s hs s.length [] s a (Nat.le_refl _) rfl (by omega)
    refine ⟨K, fun k hk => ?_⟩
    have h2 := hK k hk
    simp only [hertzproto_decodeArgAppendNoPlus.f, hib, Option.bind_some]
    rw [if_neg h]
    exact h2
/-- The slash that is put ahead. -/
def lead : List UInt8 → List UInt8
  | [] => [47]
  | c :: _ => if c = 47 then [] else [47]
theorem lead_f (s : List UInt8) : hertzproto_addLeadingSlash.f [] (toI s) = some (toI (lead s)) := by
  cases s with
  | nil => rfl
  | cons c t =>
    have hr : rd (toI (c :: t)) 0 = (c.toNat : Int) := rd_at (pre := []) rfl 0 rfl
    simp only [hertzproto_addLeadingSlash.f, toI_length, lead]
    rw [if_neg (by simp only [List.length_cons]; omega), if_pos (by simp only [List.length_cons]; omega), hr]
    by_cases hc : c = 47
    · rw [if_pos (by rw [hc]; rfl), if_pos hc]; rfl
    · rw [if_neg (fun h => hc (UInt8.toNat_inj.1 (by have : (47 : UInt8).toNat = 47 := rfl; omega))), if_neg hc, if_pos (by decide)]; rfl
theorem lead_len (s : List UInt8) : (lead s).length ≤ 1 := by
  cases s with
  | nil => simp [lead]
  | cons c t =>
    rw [lead]
    split
    · exact Nat.zero_le _
    · exact Nat.le_refl _
theorem lead_slash (s : List UInt8) : ∃ t, lead s ++ dec s = 47 :: t := by
  cases s with
  | nil => exact ⟨[], by simp [lead, dec]⟩
  | cons c t =>
    by_cases hc : c = 47
    · exact ⟨dec t, by rw [lead, if_pos hc, dec_plain c (by rw [hc]; decide), hc]; rfl⟩
    · exact ⟨dec (c :: t), by rw [lead, if_neg hc]; rfl⟩
/-- A path cleaned. -/
def norm (s : List UInt8) : List UInt8 := Cl.cleanK (lead s ++ dec s)
end Go.Proofs.Ytjklempjljikpaa.SpA
