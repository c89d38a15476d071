/- What a part of a query comes to: its plus signs are blanks, its percent signs are read. -/
import Derived.Test.YtjklempjljikpaaQ2
import Derived.Test.YtjklempjljikpaaSpBytes
import Derived.Lib.IndexLaws
namespace Go.Proofs.Ytjklempjljikpaa.SpA
open Go.RowKit Go.Proofs.Ytjklempjljikpaa.Q Go.Proofs.YtjklempjljikpaaW.PrintWords Go.Proofs.YtjklempjljikpaaW.PrintLast Go.Proofs.YtjklempjljikpaaKit
theorem toI_take (l : List UInt8) (n : Nat) : (toI l).take n = toI (l.take n) := by simp [toI, List.map_take]
theorem toI_drop (l : List UInt8) (n : Nat) : (toI l).drop n = toI (l.drop n) := by simp [toI, List.map_drop]
/-- A byte's value as a hexadecimal digit; 16: it is none. -/
def hx (c : UInt8) : Int := bt tab1 (c.toNat : Int)
/-- The byte of two digits. -/
def hx2 (x y : UInt8) : UInt8 := (Go.bits .or .u8 ((hx x * 16) % 256) (hx y)).toNat.toUInt8
/-- A plus sign is a blank. -/
def pl (c : UInt8) : UInt8 := if c = 43 then 32 else c
def decP : List UInt8 → List UInt8
  | [] => []
  | [c] => [pl c]
  | [c, d] => if c = 37 then [c, d] else pl c :: decP [d]
  | c :: x :: y :: r => if c = 37 then (if hx x = 16 ∨ hx y = 16 then 37 :: decP (x :: y :: r) else hx2 x y :: decP r) else pl c :: decP (x :: y :: r)
termination_by l => l.length
theorem decP_plain (c : UInt8) (hc : c ≠ 37) : ∀ t, decP (c :: t) = pl c :: decP t
  | [] => by simp [decP]
  | [d] => by simp [decP, hc]
  | x :: y :: r => by rw [decP, if_neg hc]
theorem decP_pct (t : List UInt8) (h : t.length ≤ 1) : decP (37 :: t) = 37 :: t := by
  match t, h with
  | [], _ => simp [decP, pl]
  | [d], _ => simp [decP]
theorem decP_none : ∀ (l : List UInt8), (37 : UInt8) ∉ l → (43 : UInt8) ∉ l → decP l = l
  | [], _, _ => by simp [decP]
  | c :: t, h, h2 => by
    rw [decP_plain c (fun e => h (by simp [e])), decP_none t (fun e => h (by simp [e])) (fun e => h2 (by simp [e])), pl, if_neg (fun e => h2 (by simp [e]))]
theorem tab_size : (tab1.size : Int) = 256 := by decide +kernel
theorem hx_all : ∀ c : Fin 256, 0 ≤ bt tab1 ((c : Nat) : Int) ∧ bt tab1 ((c : Nat) : Int) ≤ 16 := by decide +kernel
theorem hx_range (c : UInt8) : 0 ≤ hx c ∧ hx c ≤ 16 := hx_all ⟨c.toNat, c.toNat_lt⟩
set_option maxRecDepth 100000 in
set_option maxHeartbeats 4000000 in
theorem bits_all : ∀ a b : Fin 17, ((Go.bits .or .u8 (((a.val : Int) * 16) % 256) (b.val : Int)).toNat.toUInt8.toNat : Int) = Go.bits .or .u8 (((a.val : Int) * 16) % 256) (b.val : Int) := by decide +kernel
theorem hx2_toI (x y : UInt8) : ((hx2 x y).toNat : Int) = Go.bits .or .u8 ((hx x * 16) % 256) (hx y) := by
  have h1 := hx_range x
  have h2 := hx_range y
  have h := bits_all ⟨(hx x).toNat, by omega⟩ ⟨(hx y).toNat, by omega⟩
  simp only [show (((hx x).toNat : Nat) : Int) = hx x by omega, show (((hx y).toNat : Nat) : Int) = hx y by omega] at h
  exact h
theorem decP_len : ∀ (n : Nat) (l : List UInt8), l.length ≤ n → (decP l).length ≤ l.length
  | 0, l, h => by
    have : l = [] := List.length_eq_zero_iff.1 (by omega)
    subst this
    simp [decP]
  | n + 1, l, h => by
    match l, h with
    | [], _ => simp [decP]
    | [c], _ => simp [decP]
    | [c, d], _ => by_cases hc : c = 37 <;> simp [decP, hc]
    | c :: x :: y :: r, h =>
      have h1 := decP_len n (x :: y :: r) (by simp at h ⊢; omega)
      have h2 := decP_len n r (by simp at h ⊢; omega)
      rw [decP]
      simp only [List.length_cons] at h1 ⊢
      split
      · split
        · simp only [List.length_cons]; omega
        · simp only [List.length_cons]; omega
      · simp only [List.length_cons]; omega
theorem decP_nil_iff (l : List UInt8) : decP l = [] ↔ l = [] := by
  constructor
  · intro h
    match l, h with
    | [], _ => rfl
    | [c], h => simp [decP] at h
    | [c, d], h => by_cases hc : c = 37 <;> simp [decP, hc] at h
    | c :: x :: y :: r, h => rw [decP] at h; split at h <;> (try split at h) <;> simp at h
  · rintro rfl; simp [decP]
theorem toI_snoc (a : List UInt8) (c : UInt8) : toI a ++ [(c.toNat : Int)] = toI (a ++ [c]) := by simp [toI]
theorem rd_at {l pre t : List UInt8} {c : UInt8} (h : l = pre ++ c :: t) (x : Int) (hx : x = (pre.length : Int)) : rd (toI l) x = (c.toNat : Int) := by rw [hx]; exact rd_mid h
theorem byte_lt (c : UInt8) : (c.toNat : Int) < 256 := by have := c.toNat_lt; omega
theorem decP_l (s : List UInt8) (hs : s.length ≤ 2147483647) : ∀ (n : Nat) (pre suf acc : List UInt8), suf.length ≤ n → s = pre ++ suf → acc.length + suf.length < 140737488355328 →
    Ev (fun k => hertzproto_decodeArgAppend.l0 k (toI acc) (toI s) (pre.length : Int)) (toI (acc ++ decP suf)) := by
  intro n
  induction n with
  | zero =>
    intro pre suf acc hn e hacc
    have : suf = [] := List.length_eq_zero_iff.1 (by omega)
    subst this
    refine Ev.step (f := fun _ => some (toI acc)) (fun k => ?_) (by rw [show acc ++ decP [] = acc by simp [decP]]; exact Ev.now _)
    simp only [hertzproto_decodeArgAppend.l0, toI_length]
    rw [if_neg (by rw [e]; simp)]
  | succ n ih =>
    intro pre suf acc hn e hacc
    cases suf with
    | nil =>
      refine Ev.step (f := fun _ => some (toI acc)) (fun k => ?_) (by rw [show acc ++ decP [] = acc by simp [decP]]; exact Ev.now _)
      simp only [hertzproto_decodeArgAppend.l0, toI_length]
      rw [if_neg (by rw [e]; simp)]
    | cons c t =>
      have hsl : s.length = pre.length + (t.length + 1) := by rw [e]; simp
      simp only [List.length_cons] at hn hacc
      have g0 : (pre.length : Int) < (s.length : Int) := by omega
      have g1 : (0 : Int) ≤ (pre.length : Int) := by omega
      have hrd : rd (toI s) (pre.length : Int) = (c.toNat : Int) := rd_mid e
      have w1 : wrap64 ((pre.length : Int) + 1) = ((pre ++ [c]).length : Int) := by rw [wrap_id (by omega) (by omega)]; simp
      have w2 : wrap64 ((pre.length : Int) + 2) = (pre.length : Int) + 2 := wrap_id (by omega) (by omega)
      have hal : (acc.length : Nat) < 140737488355328 := by omega
      by_cases hc : c = 37
      · have hc' : (c.toNat : Int) = 37 := by rw [hc]; rfl
        match t, hn, hacc, e, hsl with
        | [], hn, hacc, e, hsl =>
          refine Ev.step (f := fun _ => some (toI (acc ++ decP [c]))) (fun k => ?_) (Ev.now _)
          simp only [hertzproto_decodeArgAppend.l0, toI_length]
          rw [if_pos g0, if_pos g1, hrd, if_pos hc', w2, if_pos (by simp at hsl ⊢; omega), if_pos (by omega), Int.toNat_natCast, toI_drop, e, List.drop_left, hc, decP_pct [] (by simp), Option.bind_some, toI_length, if_pos (by simp; omega), toI_append]
        | [d], hn, hacc, e, hsl =>
          refine Ev.step (f := fun _ => some (toI (acc ++ decP [c, d]))) (fun k => ?_) (Ev.now _)
          simp only [hertzproto_decodeArgAppend.l0, toI_length]
          rw [if_pos g0, if_pos g1, hrd, if_pos hc', w2, if_pos (by simp at hsl ⊢; omega), if_pos (by omega), Int.toNat_natCast, toI_drop, e, List.drop_left, hc, decP_pct [d] (by simp), Option.bind_some, toI_length, if_pos (by simp at hacc ⊢; omega), toI_append]
        | x :: y :: r, hn, hacc, e, hsl =>
          simp only [List.length_cons] at hn hacc hsl
          have hrx : rd (toI s) ((pre ++ [c]).length : Int) = (x.toNat : Int) := rd_mid (pre := pre ++ [c]) (t := y :: r) (by rw [e]; simp)
          have hry : rd (toI s) ((pre.length : Int) + 2) = (y.toNat : Int) := rd_at (pre := pre ++ [c, x]) (t := r) (by rw [e]; simp) _ (by simp)
          have hlp : ((pre ++ [c]).length : Int) = (pre.length : Int) + 1 := by simp
          have gx0 : (0 : Int) ≤ (x.toNat : Int) := by omega
          have gy0 : (0 : Int) ≤ (y.toNat : Int) := by omega
          have gx1 : (x.toNat : Int) < (tab1.size : Int) := by rw [tab_size]; exact byte_lt x
          have gy1 : (y.toNat : Int) < (tab1.size : Int) := by rw [tab_size]; exact byte_lt y
          have k1 : ¬ (pre.length : Int) + 2 ≥ (s.length : Int) := by omega
          have k2 : (0 : Int) ≤ (pre.length : Int) + 2 := by omega
          have k3 : (pre.length : Int) + 2 < (s.length : Int) := by omega
          have k4 : (0 : Int) ≤ ((pre ++ [c]).length : Int) := by omega
          have k5 : ((pre ++ [c]).length : Int) < (s.length : Int) := by omega
          have ih1 := ih (pre ++ [c]) (x :: y :: r) (acc ++ [37]) (by simp; omega) (by rw [e]; simp) (by simp; omega)
          have ih2 := ih (pre ++ [c, x, y]) r (acc ++ [hx2 x y]) (by omega) (by rw [e]; simp) (by simp; omega)
          have hd : decP (c :: x :: y :: r) = if hx x = 16 ∨ hx y = 16 then 37 :: decP (x :: y :: r) else hx2 x y :: decP r := by rw [decP, if_pos hc]
          have w3 : wrap64 ((pre.length : Int) + 2 + 1) = ((pre ++ [c, x, y]).length : Int) := by rw [wrap_id (by omega) (by omega)]; simp; omega
          by_cases h1 : hx x = 16
          · rw [hd, if_pos (.inl h1), show acc ++ 37 :: decP (x :: y :: r) = acc ++ [37] ++ decP (x :: y :: r) by simp]
            refine Ev.step (fun k => ?_) ih1
            simp only [hertzproto_decodeArgAppend.l0, toI_length]
            rw [if_pos g0, if_pos g1, hrd, if_pos hc', w2, w1, if_neg k1, if_pos k2, if_pos k3, hrx, hry, if_pos gy0, if_pos gy1, if_pos k4, if_pos k5, if_pos gx0, if_pos gx1, if_pos (show bt tab1 (x.toNat : Int) = 16 from h1), if_pos hal, show ([37] : List Int) = [((37 : UInt8).toNat : Int)] from rfl, toI_snoc]
          · by_cases h2 : hx y = 16
            · rw [hd, if_pos (.inr h2), show acc ++ 37 :: decP (x :: y :: r) = acc ++ [37] ++ decP (x :: y :: r) by simp]
              refine Ev.step (fun k => ?_) ih1
              simp only [hertzproto_decodeArgAppend.l0, toI_length]
              rw [if_pos g0, if_pos g1, hrd, if_pos hc', w2, w1, if_neg k1, if_pos k2, if_pos k3, hrx, hry, if_pos gy0, if_pos gy1, if_pos k4, if_pos k5, if_pos gx0, if_pos gx1, if_neg (show ¬ bt tab1 (x.toNat : Int) = 16 from h1), if_pos (show bt tab1 (y.toNat : Int) = 16 from h2), if_pos hal, show ([37] : List Int) = [((37 : UInt8).toNat : Int)] from rfl, toI_snoc]
            · rw [hd, if_neg (by simp [h1, h2]), show acc ++ hx2 x y :: decP r = acc ++ [hx2 x y] ++ decP r by simp]
              refine Ev.step (fun k => ?_) ih2
              simp only [hertzproto_decodeArgAppend.l0, toI_length]
              rw [if_pos g0, if_pos g1, hrd, if_pos hc', w2, w1, if_neg k1, if_pos k2, if_pos k3, hrx, hry, if_pos gy0, if_pos gy1, if_pos k4, if_pos k5, if_pos gx0, if_pos gx1, if_neg (show ¬ bt tab1 (x.toNat : Int) = 16 from h1), if_neg (show ¬ bt tab1 (y.toNat : Int) = 16 from h2), if_pos hal, w3, ← toI_snoc, hx2_toI]
              rfl
      · have hc' : ¬ (c.toNat : Int) = 37 := fun h => hc (UInt8.toNat_inj.1 (by have : (37 : UInt8).toNat = 37 := rfl; omega))
        have ih1 := ih (pre ++ [c]) t (acc ++ [pl c]) (by omega) (by rw [e]; simp) (by simp; omega)
        rw [decP_plain c hc, show acc ++ pl c :: decP t = acc ++ [pl c] ++ decP t by simp]
        refine Ev.step (fun k => ?_) ih1
        simp only [hertzproto_decodeArgAppend.l0, toI_length]
        by_cases hp : c = 43
        · have hp' : (c.toNat : Int) = 43 := by rw [hp]; rfl
          rw [if_pos g0, if_pos g1, hrd, if_neg hc', if_pos hp', w1, if_pos hal, show ([32] : List Int) = [((pl c).toNat : Int)] by rw [hp]; rfl, toI_snoc]
        · have hp' : ¬ (c.toNat : Int) = 43 := fun h => hp (UInt8.toNat_inj.1 (by have : (43 : UInt8).toNat = 43 := rfl; omega))
          rw [if_pos g0, if_pos g1, hrd, if_neg hc', if_neg hp', w1, if_pos hal, show [(c.toNat : Int)] = [((pl c).toNat : Int)] by rw [pl, if_neg hp], toI_snoc]
theorem bytesOf_toI' (l : List UInt8) : Lib.bytesOf (toI l) = l := by
  unfold Lib.bytesOf toI
  rw [List.map_map]
  conv => rhs; rw [← List.map_id l]
  refine List.map_congr_left fun c _ => ?_
  simp
theorem not_mem_of_ix (s : List UInt8) (c : UInt8) (h : Lib.indexByte s c < 0) : c ∉ s := fun hm => by
  have h1 := Lib.indexByte_none (l := s) (c := c) (by have := Lib.indexByte_ge s c; omega)
  obtain ⟨k, hk, e⟩ := List.getElem_of_mem hm
  exact h1 k (by rw [List.getElem?_eq_getElem hk, e])
theorem decP_f (a s : List UInt8) (ha : a.length ≤ 1) (hs : s.length ≤ 2147483647) : Ev (fun k => hertzproto_decodeArgAppend.f k (toI a) (toI s)) (toI (a ++ decP s)) := by
  have hib : ∀ c : UInt8, bytes_IndexByte.f (toI s) (c.toNat : Int) = some (Lib.indexByte s c) := fun c => by
    unfold bytes_IndexByte.f
    rw [bytesOf_toI']
    simp
  have h37 : bytes_IndexByte.f (toI s) 37 = some (Lib.indexByte s 37) := hib 37
  have h43 : bytes_IndexByte.f (toI s) 43 = some (Lib.indexByte s 43) := hib 43
  obtain ⟨K, hK⟩ := decP_l s hs s.length [] s a (Nat.le_refl _) rfl (by omega)
  by_cases h : Lib.indexByte s 37 < 0
  · by_cases h2 : Lib.indexByte s 43 < 0
    · refine ⟨1, fun k hk => ?_⟩
      obtain ⟨k, rfl⟩ : ∃ k', k = k' + 1 := ⟨k - 1, by omega⟩
      simp only [hertzproto_decodeArgAppend.f, h37, h43, Option.bind_some]
      rw [if_pos h, decide_eq_true h2, hertzproto_decodeArgAppend.j0, if_pos rfl, toI_length, toI_length, if_pos (by omega), decP_none s (not_mem_of_ix s 37 h) (not_mem_of_ix s 43 h2), toI_append]
    · refine ⟨K + 1, fun k hk => ?_⟩
      obtain ⟨k, rfl⟩ : ∃ k', k = k' + 1 := ⟨k - 1, by omega⟩
      have h3 := hK k (by omega)
      simp only [hertzproto_decodeArgAppend.f, h37, h43, Option.bind_some]
      rw [if_pos h, decide_eq_false h2, hertzproto_decodeArgAppend.j0, if_neg (by decide)]
      exact h3
  · refine ⟨K + 1, fun k hk => ?_⟩
    obtain ⟨k, rfl⟩ : ∃ k', k = k' + 1 := ⟨k - 1, by omega⟩
    have h3 := hK k (by omega)
    simp only [hertzproto_decodeArgAppend.f, h37, h43, Option.bind_some]
    rw [if_neg h, hertzproto_decodeArgAppend.j0, if_neg (by decide)]
    exact h3
end Go.Proofs.Ytjklempjljikpaa.SpA
