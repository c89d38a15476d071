/- What the callees of the path's cleaning tell, in lists of bytes: the first place of a text, the last place of a byte, whether a step back stands at the end. -/
import Derived.Test.YtjklempjljikpaaQ3
import Derived.Test.YtjklempjljikpaaQ5
import Derived.Test.YtjklempjljikpaaQ6
import Derived.Test.YtjklempjljikpaaSpIdx
namespace Go.Proofs.Ytjklempjljikpaa.SpA
open Go.RowKit Go.Proofs.Ytjklempjljikpaa.Q Go.Proofs.YtjklempjljikpaaW.PrintWords Go.Proofs.YtjklempjljikpaaW.PrintLast Go.Proofs.YtjklempjljikpaaKit
theorem ix_cases_from (sub : List UInt8) (hs : sub ≠ []) : ∀ (l : List UInt8) (n : Nat), (ix sub l n = -1 ∧ ∀ a b, l ≠ a ++ sub ++ b) ∨
    (∃ a b, l = a ++ sub ++ b ∧ ix sub l n = ((n + a.length : Nat) : Int) ∧ ∀ a' b', l = a' ++ sub ++ b' → a.length ≤ a'.length)
  | [], n => .inl ⟨by rw [ix, if_neg hs], fun a b e => by simp at e; exact hs e.2.1⟩
  | c :: t, n => by
    by_cases hp : sub.isPrefixOf (c :: t) = true
    · obtain ⟨b, hb⟩ := List.isPrefixOf_iff_prefix.1 hp
      exact .inr ⟨[], b, by simpa using hb.symm, by rw [ix, if_pos hp]; simp, fun _ _ _ => Nat.zero_le _⟩
    · have hno : ∀ b, c :: t ≠ sub ++ b := fun b e => hp (List.isPrefixOf_iff_prefix.2 ⟨b, e.symm⟩)
      rw [ix, if_neg hp]
      rcases ix_cases_from sub hs t (n + 1) with ⟨e, h⟩ | ⟨a, b, e, h1, h2⟩
      · refine .inl ⟨e, fun a b e2 => ?_⟩
        cases a with
        | nil => exact hno b (by simpa using e2)
        | cons x a => exact h a b (by simpa using (List.cons.inj e2).2)
      · refine .inr ⟨c :: a, b, by rw [e]; simp, by rw [h1]; simp; omega, fun a' b' e2 => ?_⟩
        cases a' with
        | nil => exact absurd (by simpa using e2) (hno b')
        | cons x a' => have := h2 a' b' (by simpa using (List.cons.inj e2).2); simp; exact this
theorem ix_cases (sub : List UInt8) (hs : sub ≠ []) (l : List UInt8) : (ix sub l 0 = -1 ∧ ∀ a b, l ≠ a ++ sub ++ b) ∨
    (∃ a b, l = a ++ sub ++ b ∧ ix sub l 0 = (a.length : Int) ∧ ∀ a' b', l = a' ++ sub ++ b' → a.length ≤ a'.length) := by
  have := ix_cases_from sub hs l 0
  simpa using this
theorem lastB_l (l : List UInt8) (c : UInt8) (hl : l.length ≤ 4611686018427387904) : ∀ (n : Nat) (a b : List UInt8), a.length = n → l = a ++ b → c ∉ b →
    (∃ p y, l = p ++ c :: y ∧ c ∉ y ∧ Ev (fun k => bytealg_LastIndexByte.l0 k (toI l) (c.toNat : Int) ((n : Int) - 1)) (p.length : Int)) ∨ (c ∉ l ∧ Ev (fun k => bytealg_LastIndexByte.l0 k (toI l) (c.toNat : Int) ((n : Int) - 1)) (-1)) := by
  intro n
  induction n with
  | zero =>
    intro a b ha e hb
    have : a = [] := List.length_eq_zero_iff.1 ha
    subst this
    refine .inr ⟨by rw [e]; exact hb, Ev.step (f := fun _ => some (-1)) (fun k => ?_) (Ev.now _)⟩
    simp only [bytealg_LastIndexByte.l0]
    rw [if_neg (by omega)]
  | succ n ih =>
    intro a b ha e hb
    obtain ⟨a', d, rfl⟩ : ∃ a' d, a = a' ++ [d] := ⟨_, _, (List.dropLast_concat_getLast (by intro h; rw [h] at ha; simp at ha)).symm⟩
    have han : a'.length = n := by simpa using ha
    have e2 : l = a' ++ d :: b := by rw [e]; simp
    have hlen : l.length = n + (b.length + 1) := by rw [e2]; simp [han]
    have hrd : rd (toI l) (((n + 1 : Nat) : Int) - 1) = (d.toNat : Int) := by
      rw [show (((n + 1 : Nat) : Int) - 1) = (a'.length : Int) by omega]
      exact rd_mid e2
    by_cases hd : d = c
    · subst hd
      refine .inl ⟨a', b, e2, hb, Ev.step (f := fun _ => some (a'.length : Int)) (fun k => ?_) (Ev.now _)⟩
      simp only [bytealg_LastIndexByte.l0, toI_length]
      rw [if_pos (by omega), if_pos (by omega), if_pos (by omega), if_pos hrd]
      congr 1
      omega
    · have hne : ¬ (d.toNat : Int) = (c.toNat : Int) := fun h => hd (UInt8.toNat_inj.1 (by omega))
      have step : ∀ r, Ev (fun k => bytealg_LastIndexByte.l0 k (toI l) (c.toNat : Int) ((n : Int) - 1)) r → Ev (fun k => bytealg_LastIndexByte.l0 k (toI l) (c.toNat : Int) (((n + 1 : Nat) : Int) - 1)) r := fun r hr => by
        refine Ev.step (fun k => ?_) hr
        simp only [bytealg_LastIndexByte.l0, toI_length]
        rw [if_pos (by omega), if_pos (by omega), if_pos (by omega), hrd, if_neg hne, wrap_id (by omega) (by omega)]
        congr 1
        omega
      rcases ih a' (d :: b) han e2 (by simp only [List.mem_cons, not_or]; exact ⟨fun h => hd h.symm, hb⟩) with ⟨p, y, e3, hy, hev⟩ | ⟨hno, hev⟩
      · exact .inl ⟨p, y, e3, hy, step _ hev⟩
      · exact .inr ⟨hno, step _ hev⟩
theorem lastIB (l : List UInt8) (c : UInt8) (hl : l.length ≤ 4611686018427387904) :
    (∃ p y, l = p ++ c :: y ∧ c ∉ y ∧ Ev (fun k => bytes_LastIndexByte.f k (toI l) (c.toNat : Int)) (p.length : Int)) ∨ (c ∉ l ∧ Ev (fun k => bytes_LastIndexByte.f k (toI l) (c.toNat : Int)) (-1)) := by
  have key : ∀ r, Ev (fun k => bytealg_LastIndexByte.l0 k (toI l) (c.toNat : Int) ((l.length : Int) - 1)) r → Ev (fun k => bytes_LastIndexByte.f k (toI l) (c.toNat : Int)) r := fun r hr => by
    obtain ⟨k0, hk⟩ := hr
    refine ⟨k0, fun k h => ?_⟩
    simp only [bytes_LastIndexByte.f, bytealg_LastIndexByte.f, toI_length]
    have hk' := hk k h
    simp only at hk'
    rw [wrap_id (by omega) (by omega), hk']
    rfl
  rcases lastB_l l c hl l.length l [] rfl (by simp) (by simp) with ⟨p, y, e, hy, hev⟩ | ⟨hno, hev⟩
  · exact .inl ⟨p, y, e, hy, key _ hev⟩
  · exact .inr ⟨hno, key _ hev⟩
/-- What is sought further ahead is found further ahead. -/
theorem rk_ahead (l : List UInt8) (x5 x6 : Int) (hl : l.length ≤ 4611686018427387904) : ∀ (n : Nat) (x9 : Int), n + 3 ≤ l.length → ∃ r : Int, r ≤ (n : Int) - 1 ∧ Ev (fun k => bytealg_LastIndexRabinKarp_byte.l1 k (toI l) [47, 46, 46] x5 x6 3 x9 ((n : Int) - 1)) r := by
  intro n
  induction n with
  | zero =>
    intro x9 _
    refine ⟨-1, by omega, Ev.step (f := fun _ => some (-1)) (fun k => ?_) (Ev.now _)⟩
    simp only [bytealg_LastIndexRabinKarp_byte.l1]
    rw [if_neg (by omega)]
  | succ n ih =>
    intro x9 hn
    have e1 : wrap64 (((n + 1 : Nat) : Int) - 1 + 3) = (n : Int) + 3 := by rw [wrap_id (by omega) (by omega)]; omega
    have e2 : wrap64 (((n + 1 : Nat) : Int) - 1 - 1) = (n : Int) - 1 := by rw [wrap_id (by omega) (by omega)]; omega
    have c1 : ((n + 1 : Nat) : Int) - 1 ≥ 0 := by omega
    have c3 : ((n + 1 : Nat) : Int) - 1 < (l.length : Int) := by omega
    have c4 : 0 ≤ (n : Int) + 3 := by omega
    have c5 : (n : Int) + 3 < (l.length : Int) := by omega
    have c6 : ((n + 1 : Nat) : Int) - 1 ≤ (n : Int) + 3 := by omega
    have c7 : (n : Int) + 3 ≤ (l.length : Int) := by omega
    obtain ⟨y9, hy9⟩ : ∃ y, y = ((((((x9 * 16777619) % 4294967296) + ((rd (toI l) (((n + 1 : Nat) : Int) - 1)) % 4294967296)) % 4294967296) - ((x6 * ((rd (toI l) ((n : Int) + 3)) % 4294967296)) % 4294967296)) % 4294967296) := ⟨_, rfl⟩
    obtain ⟨r, hr, hev⟩ := ih y9 (by omega)
    by_cases hx : y9 = x5
    · by_cases hq : (strOfNums (((toI l).take (((n : Int) + 3)).toNat).drop (((n + 1 : Nat) : Int) - 1).toNat)).toList = (strOfNums [47, 46, 46]).toList
      · refine ⟨((n + 1 : Nat) : Int) - 1, by omega, Ev.step (f := fun _ => some (((n + 1 : Nat) : Int) - 1)) (fun k => ?_) (Ev.now _)⟩
        simp only [bytealg_LastIndexRabinKarp_byte.l1, toI_length, e1, e2]
        rw [if_pos c1, if_pos c1, if_pos c3, if_pos c4, if_pos c5, ← hy9, if_pos hx, if_pos c6, if_pos c7, if_pos hq]
      · refine ⟨r, by omega, Ev.step (fun k => ?_) hev⟩
        simp only [bytealg_LastIndexRabinKarp_byte.l1, toI_length, e1, e2]
        rw [if_pos c1, if_pos c1, if_pos c3, if_pos c4, if_pos c5, ← hy9, if_pos hx, if_pos c6, if_pos c7, if_neg hq]
    · refine ⟨r, by omega, Ev.step (fun k => ?_) hev⟩
      simp only [bytealg_LastIndexRabinKarp_byte.l1, toI_length, e1, e2]
      rw [if_pos c1, if_pos c1, if_pos c3, if_pos c4, if_pos c5, ← hy9, if_neg hx]
theorem ev_le {α : Type} {f : Nat → Option α} {r : α} (h : ∀ k, LeO (f k) (f (k + 1))) (k0 : Nat) (e : f k0 = some r) : Ev f r :=
  ⟨k0, fun k hk => by
    obtain ⟨d, rfl⟩ := Nat.exists_eq_add_of_le hk
    clear hk
    induction d with
    | zero => exact e
    | succ d ih => exact h _ r ih⟩
theorem hash_up : Ev (fun k => bytealg_hashStrRev_byte.f k [47, 46, 46]) (41043831, 1055306571) := ev_le (fun k => bytealg_hashStrRev_byte.mono _ k) 10 (by
  have w1 : wrap64 (2 : Int) = 2 := wrap_id (by decide) (by decide)
  have w2 : wrap64 (1 : Int) = 1 := wrap_id (by decide) (by decide)
  have w3 : wrap64 (0 : Int) = 0 := wrap_id (by decide) (by decide)
  have w4 : wrap64 (-1 : Int) = -1 := wrap_id (by decide) (by decide)
  have r2 : rd [47, 46, 46] 2 = 46 := by rfl
  have r1 : rd [47, 46, 46] 1 = 46 := by rfl
  have r0 : rd [47, 46, 46] 0 = 47 := by rfl
  have b1 : ¬ Go.bits .and .i64 3 1 = 0 := by decide
  have b2 : ¬ Go.bits .and .i64 1 1 = 0 := by decide
  simp [bytealg_hashStrRev_byte.f, bytealg_hashStrRev_byte.l0, bytealg_hashStrRev_byte.l1, w1, w2, w3, w4, r0, r1, r2, b1, b2])
theorem lastIdx_long (x : List UInt8) (a b c : UInt8) (hx : x ≠ []) (hl : x.length ≤ 4611686018427387) :
    ∃ r : Int, Ev (fun k => bytes_LastIndex.f k (toI (x ++ [a, b, c])) [47, 46, 46]) r ∧ (([a, b, c] : List UInt8) = [47, 46, 46] → r = (x.length : Int)) ∧ (([a, b, c] : List UInt8) ≠ [47, 46, 46] → r < (x.length : Int)) := by
  have hp : 0 < x.length := List.length_pos_iff.2 hx
  obtain ⟨l, hle⟩ : ∃ l, l = x ++ [a, b, c] := ⟨_, rfl⟩
  have hln : l.length = x.length + 3 := by rw [hle]; simp
  have hrc : rd (toI l) ((x.length : Int) + 2) = (c.toNat : Int) := by
    have := rd_mid (xs := l) (pre := x ++ [a, b]) (t := []) (c := c) (by rw [hle]; simp)
    rw [← this]; congr 1; simp
  have hrb : rd (toI l) ((x.length : Int) + 1) = (b.toNat : Int) := by
    have := rd_mid (xs := l) (pre := x ++ [a]) (t := [c]) (c := b) (by rw [hle]; simp)
    rw [← this]; congr 1; simp
  have hra : rd (toI l) (x.length : Int) = (a.toNat : Int) := rd_mid (xs := l) (pre := x) (t := [b, c]) (c := a) hle
  have hcut : strOfNums ((toI l).drop x.length) = strOfNums (toI [a, b, c]) := by rw [toI_drop, hle]; simp
  obtain ⟨y1, hy1⟩ : ∃ y : Int, y = ((((0 : Int) * 16777619) % 4294967296) + ((c.toNat : Int) % 4294967296)) % 4294967296 := ⟨_, rfl⟩
  obtain ⟨y2, hy2⟩ : ∃ y : Int, y = (((y1 * 16777619) % 4294967296) + ((b.toNat : Int) % 4294967296)) % 4294967296 := ⟨_, rfl⟩
  obtain ⟨y3, hy3⟩ : ∃ y : Int, y = (((y2 * 16777619) % 4294967296) + ((a.toNat : Int) % 4294967296)) % 4294967296 := ⟨_, rfl⟩
  have main : ∃ r : Int, Ev (fun k => bytealg_LastIndexRabinKarp_byte.l0 k (toI l) [47, 46, 46] 41043831 1055306571 3 (x.length : Int) y3 ((x.length : Int) - 1)) r ∧ (([a, b, c] : List UInt8) = [47, 46, 46] → r = (x.length : Int)) ∧ (([a, b, c] : List UInt8) ≠ [47, 46, 46] → r < (x.length : Int)) := by
    have e1 : wrap64 ((x.length : Int) - 1) = (x.length : Int) - 1 := wrap_id (by omega) (by omega)
    by_cases hq : ([a, b, c] : List UInt8) = [47, 46, 46]
    · refine ⟨(x.length : Int), ?_, fun _ => rfl, fun h => absurd hq h⟩
      have hy : y3 = 41043831 := by
        simp only [List.cons.injEq, and_true] at hq
        rw [hy3, hy2, hy1, hq.1, hq.2.1, hq.2.2]
        rfl
      refine Ev.step (f := fun k => bytealg_LastIndexRabinKarp_byte.j1 k (toI l) [47, 46, 46] 41043831 1055306571 3 (x.length : Int) y3 true) (fun k => ?_) (Ev.step (f := fun _ => some (x.length : Int)) (fun k => ?_) (Ev.now _))
      · simp only [bytealg_LastIndexRabinKarp_byte.l0, toI_length]
        rw [if_neg (by omega), if_pos hy, if_pos (by omega), if_pos (by omega)]
        congr 1
        rw [Int.toNat_natCast, hcut, hq, beq_iff_eq, tl, tl, show ([47, 46, 46] : List Int) = toI [47, 46, 46] from rfl]
      · simp only [bytealg_LastIndexRabinKarp_byte.j1, if_true]
    · obtain ⟨r, hr, hev⟩ := rk_ahead l 41043831 1055306571 (by omega) x.length y3 (by omega)
      refine ⟨r, ?_, fun h => absurd h hq, fun _ => by omega⟩
      refine Ev.step (f := fun k => bytealg_LastIndexRabinKarp_byte.j1 k (toI l) [47, 46, 46] 41043831 1055306571 3 (x.length : Int) y3 false) (fun k => ?_) (Ev.step (fun k => ?_) hev)
      · simp only [bytealg_LastIndexRabinKarp_byte.l0, toI_length]
        rw [if_neg (by omega)]
        by_cases hy : y3 = 41043831
        · rw [if_pos hy, if_pos (by omega), if_pos (by omega)]
          congr 1
          rw [Int.toNat_natCast, hcut, beq_eq_false_iff_ne, tl, tl, L_strOf, show ([47, 46, 46] : List Int) = toI [47, 46, 46] from rfl, L_strOf]
          exact hq
        · rw [if_neg hy]
      · simp only [bytealg_LastIndexRabinKarp_byte.j1]
        rw [if_neg (by decide), e1]
  obtain ⟨r, hev, hh⟩ := main
  refine ⟨r, ?_, hh⟩
  rw [← hle]
  have h0 : Ev (fun k => bytealg_LastIndexRabinKarp_byte.l0 k (toI l) [47, 46, 46] 41043831 1055306571 3 (x.length : Int) 0 ((x.length : Int) + 2)) r := by
    refine Ev.step (f := fun k => bytealg_LastIndexRabinKarp_byte.l0 k (toI l) [47, 46, 46] 41043831 1055306571 3 (x.length : Int) y1 ((x.length : Int) + 1)) (fun k => ?_) (Ev.step (f := fun k => bytealg_LastIndexRabinKarp_byte.l0 k (toI l) [47, 46, 46] 41043831 1055306571 3 (x.length : Int) y2 (x.length : Int)) (fun k => ?_) (Ev.step (fun k => ?_) hev))
    · simp only [bytealg_LastIndexRabinKarp_byte.l0, toI_length]
      rw [if_pos (by omega), if_pos (by omega), if_pos (by omega), hrc, ← hy1, wrap_id (by omega) (by omega)]
      congr 1
      omega
    · simp only [bytealg_LastIndexRabinKarp_byte.l0, toI_length]
      rw [if_pos (by omega), if_pos (by omega), if_pos (by omega), hrb, ← hy2, wrap_id (by omega) (by omega)]
      congr 1
      omega
    · simp only [bytealg_LastIndexRabinKarp_byte.l0, toI_length]
      rw [if_pos (by omega), if_pos (by omega), if_pos (by omega), hra, ← hy3, wrap_id (by omega) (by omega)]
  obtain ⟨k0, hk⟩ := Ev.bind (f := fun k (bt : Int × Int) => bytealg_LastIndexRabinKarp_byte.l0 k (toI l) [47, 46, 46] bt.1 bt.2 3 (x.length : Int) 0 ((x.length : Int) + 2)) hash_up h0
  refine ⟨k0, fun k h => ?_⟩
  have hk' := hk k h
  simp only at hk'
  simp only [bytes_LastIndex.f, bytealg_LastIndexRabinKarp_byte.f, toI_length, hln]
  rw [if_neg (by decide), if_neg (by decide), if_neg (by simp; omega), if_neg (by simp; omega)]
  have w1 : wrap64 (((x.length + 3 : Nat) : Int) - (([47, 46, 46] : List Int).length : Int)) = (x.length : Int) := by rw [wrap_id (by simp <;> omega) (by simp <;> omega)]; simp <;> omega
  have w2 : wrap64 (((x.length + 3 : Nat) : Int) - 1) = (x.length : Int) + 2 := by rw [wrap_id (by omega) (by omega)]; omega
  rw [w1, w2]
  rw [show ((([47, 46, 46] : List Int).length : Int)) = 3 from rfl, hk']
  rfl
/-- Whether a step back stands at the end. -/
theorem lastIdx (l : List UInt8) (hl : l.length ≤ 4611686018427387) : ∃ r : Int, Ev (fun k => bytes_LastIndex.f k (toI l) [47, 46, 46]) r ∧ (∀ x, l = x ++ [47, 46, 46] → r = (x.length : Int)) ∧ ((∀ x, l ≠ x ++ [47, 46, 46]) → r < 0 ∨ r + 3 ≠ (l.length : Int)) ∧ r ≤ (l.length : Int) := by
  by_cases h3 : l.length < 3
  · refine ⟨-1, ⟨0, fun k _ => ?_⟩, fun x e => by rw [e] at h3; simp at h3; omega, fun _ => .inl (by omega), by omega⟩
    simp only [bytes_LastIndex.f, toI_length]
    rw [if_neg (by decide), if_neg (by decide), if_neg (by simp; omega), if_pos (by simp; omega)]
  · obtain ⟨x, hx⟩ : ∃ x, x = l.take (l.length - 3) := ⟨_, rfl⟩
    obtain ⟨y, hy⟩ : ∃ y, y = l.drop (l.length - 3) := ⟨_, rfl⟩
    have hxy : l = x ++ y := by rw [hx, hy, List.take_append_drop]
    have hyl : y.length = 3 := by rw [hy, List.length_drop]; omega
    obtain ⟨a, b, c, rfl⟩ : ∃ a b c, y = [a, b, c] := by
      match y, hyl with
      | [a, b, c], _ => exact ⟨a, b, c, rfl⟩
    clear hx hy
    have tail : ∀ z, l = z ++ [47, 46, 46] → z = x ∧ ([a, b, c] : List UInt8) = [47, 46, 46] := fun z e => by
      rw [hxy] at e
      have := List.append_inj' e rfl
      exact ⟨this.1.symm, this.2⟩
    by_cases hx0 : x = []
    · subst hx0
      rw [List.nil_append] at hxy
      by_cases hq : ([a, b, c] : List UInt8) = [47, 46, 46]
      · refine ⟨0, ⟨0, fun k _ => ?_⟩, fun z e => by rw [(tail z e).1]; rfl, fun h => absurd (by rw [hxy, hq]; rfl) (h []), by omega⟩
        rw [hxy, hq]
        simp only [bytes_LastIndex.f, bytes_Equal.f, toI_length]
        rw [if_neg (by decide), if_neg (by decide), if_pos (by rfl), show toI [47, 46, 46] = [47, 46, 46] from rfl]
        simp
      · refine ⟨-1, ⟨0, fun k _ => ?_⟩, fun z e => absurd (tail z e).2 hq, fun _ => .inl (by omega), by omega⟩
        rw [hxy]
        simp only [bytes_LastIndex.f, bytes_Equal.f, toI_length]
        rw [if_neg (by decide), if_neg (by decide), if_pos (by simp)]
        have : ((strOfNums (toI [a, b, c])).toList == (strOfNums [47, 46, 46]).toList) = false := by
          rw [beq_eq_false_iff_ne, tl, tl, L_strOf, show ([47, 46, 46] : List Int) = toI [47, 46, 46] from rfl, L_strOf]
          exact hq
        rw [this]
        rfl
    · obtain ⟨r, hev, h1, h2⟩ := lastIdx_long x a b c hx0 (by rw [hxy] at hl; simp at hl; omega)
      refine ⟨r, by rw [hxy]; exact hev, fun z e => by rw [(tail z e).1]; exact h1 (tail z e).2, fun h => .inr ?_, by have h4 : r ≤ (x.length : Int) := (Classical.em _).elim (fun h => Int.le_of_eq (h1 h)) (fun h => Int.le_of_lt (h2 h)); rw [hxy]; simp; omega⟩
      have := h2 (fun hq => h x (by rw [hxy, hq]))
      rw [hxy]
      simp
      omega
/-- Two slashes that stood further ahead are gone. -/
theorem dup_next (p q a b : List UInt8) (hq : q = a ++ [47, 47] ++ b) (hmin : ∀ a' b', q = a' ++ [47, 47] ++ b' → a.length ≤ a'.length) (hinv : ∀ a' b', p ++ q = a' ++ [47, 47] ++ b' → p.length ≤ a'.length) :
    ∀ a' b', (p ++ a) ++ 47 :: b = a' ++ [47, 47] ++ b' → (p ++ a).length ≤ a'.length := by
  intro a' b' e
  refine Classical.byContradiction fun hn => ?_
  have hlt : a'.length < (p ++ a).length := by omega
  obtain ⟨m, hm1, hm2⟩ : ∃ m, p ++ a = a' ++ m ∧ m ++ 47 :: b = [47, 47] ++ b' := by
    have e' : (p ++ a) ++ 47 :: b = a' ++ ([47, 47] ++ b') := by rw [e]; simp
    rcases List.append_eq_append_iff.1 e' with ⟨t, h1, h2⟩ | ⟨t, h1, h2⟩
    · rw [h1] at hlt; simp at hlt; omega
    · exact ⟨t, h1, h2.symm⟩
  have hocc : ∃ b3, p ++ q = a' ++ [47, 47] ++ b3 := by
    cases m with
    | nil => rw [hm1] at hlt; simp at hlt
    | cons x m =>
      simp at hm2
      cases m with
      | nil =>
        refine ⟨47 :: b, ?_⟩
        rw [hq, show p ++ (a ++ [47, 47] ++ b) = (p ++ a) ++ 47 :: 47 :: b by simp, hm1, hm2.1]
        simp
      | cons y m =>
        simp at hm2
        refine ⟨m ++ 47 :: 47 :: b, ?_⟩
        rw [hq, show p ++ (a ++ [47, 47] ++ b) = (p ++ a) ++ 47 :: 47 :: b by simp, hm1, hm2.1, hm2.2.1]
        simp
  obtain ⟨b3, hb3⟩ := hocc
  have hp := hinv a' b3 hb3
  have hb4 : p ++ q = a' ++ ([47, 47] ++ b3) := by rw [hb3]; simp
  rcases List.append_eq_append_iff.1 hb4 with ⟨t, h1, h2⟩ | ⟨t, h1, h2⟩
  · have := hmin t b3 (by rw [h2]; simp)
    rw [h1] at hlt
    simp at hlt
    omega
  · have : t = [] := by rw [h1] at hp; simp at hp; exact List.length_eq_zero_iff.1 (by omega)
    subst this
    have := hmin [] b3 (by simpa using h2.symm)
    have hpl : p.length = a'.length := by rw [h1]; simp
    rw [List.length_append] at hlt
    simp only [List.length_nil] at this
    omega
theorem dup_none (p q : List UInt8) (hno : ∀ a b, q ≠ a ++ [47, 47] ++ b) (hinv : ∀ a' b', p ++ q = a' ++ [47, 47] ++ b' → p.length ≤ a'.length) : ∀ a b, p ++ q ≠ a ++ 47 :: 47 :: b := by
  intro a b e
  have hp := hinv a b (by rw [e]; simp)
  rcases List.append_eq_append_iff.1 e with ⟨t, h1, h2⟩ | ⟨t, h1, h2⟩
  · exact hno t b (by rw [h2]; simp)
  · have : t = [] := by rw [h1] at hp; simp at hp; exact List.length_eq_zero_iff.1 (by omega)
    subst this
    exact hno [] b (by simpa using h2.symm)
end Go.Proofs.Ytjklempjljikpaa.SpA
