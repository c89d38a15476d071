/- The pure statement of FnCookiesSay: a request's cookies, and their text, are what the reference says. -/
import Derived.Test.YtipmmjbjgbfgjaaQ13
import Derived.Test.YtipmmjbjgbfgjaaQ17
import Derived.Test.YtipmmjbjgbfgjaaQ5
import Derived.Test.YtipmmjbjgbfgjaaQ8
import Derived.Test.YtipmmjbjgbfgjaaStFnCookiesSay
import Derived.Test.YtipmmjbjgbfgjaaSpPk
import Derived.Test.YtipmmjbjgbfgjaaSpSht
namespace Go.Proofs.Ytipmmjbjgbfgjaa.Pure
open Go.RowKit Go.Proofs.Ytipmmjbjgbfgjaa.Q Go.Proofs.YtipmmjbjgbfgjaaW.PrintWords Go.Proofs.YtipmmjbjgbfgjaaW.PrintLast Go.Proofs.YtipmmjbjgbfgjaaKit Go.Proofs.Ytipmmjbjgbfgjaa.SpA
set_option linter.unusedVariables false
set_option linter.unusedSimpArgs false
theorem cookiesOf (s : ByteArray) (h : s.size ≤ 2147483647) : impl_RequestCookies.f s = some ((cksL (L s)).map arS) := by unfold impl_RequestCookies.f; rw [if_pos h]
theorem cookiesText (l : List S40) (h1 : l.length ≤ 2147483647) (h2 : ∀ x ∈ l, x.f0.size ≤ 2147483647 ∧ x.f1.size ≤ 2147483647) (h3 : (ckText (l.map en36)).length ≤ 1000000000000) : impl_CookiesText.f l = some ⟨(ckText (l.map en36)).toArray⟩ := by unfold impl_CookiesText.f; rw [if_pos ⟨h1, h2, h3⟩]
set_option maxRecDepth 100000 in
theorem ab_cks : cksL (L (⟨#[97, 61, 98]⟩ : ByteArray)) = [([97], [98], false)] := by decide +kernel
theorem ckl_le (l : List S40) (hl : l.length ≤ 20) (hs : ∀ x ∈ l, x.f0.size ≤ 200 ∧ x.f1.size ≤ 200) : (ckText (l.map en36)).length ≤ 8060 := by
  have h := ckText_le 200 (l.map en36) (fun y hy => by
    obtain ⟨x, hx, rfl⟩ := List.mem_map.1 hy
    have h1 := hs x hx
    rw [size_L, size_L] at h1
    refine ⟨h1.1, ?_⟩
    show (valIf x.f2 x.f1.data.toList).length ≤ _
    unfold valIf
    split
    · simp
    · exact h1.2)
  have h2 : (l.map en36).length ≤ 20 := by rw [List.length_map]; exact hl
  have h3 := Nat.mul_le_mul_right (2 * 200 + 3) h2
  omega
def e62 (x : En) : S71 := ⟨⟨x.1.toArray⟩, ⟨x.2.1.toArray⟩, x.2.2⟩
theorem alike_l (xs : List En) (hx : xs.length ≤ 4294967296) : ∀ d n, xs.length - n = d → n ≤ xs.length → Ev (fun k => laws_alikeArgs.l0 k (xs.map arS) (xs.map e62) (xs.length : Int) (n : Int)) true := by
  intro d
  induction d with
  | zero =>
    intro n hd hn
    refine Ev.step (f := fun _ => some true) (fun k => ?_) (Ev.now _)
    simp only [laws_alikeArgs.l0]
    rw [if_neg (by omega)]
  | succ d ih =>
    intro n hd hn
    have hw : wrap64 ((n : Int) + 1) = ((n + 1 : Nat) : Int) := by unfold wrap64; omega
    have r1 : rd_T40 (xs.map arS) (n : Int) = arS (xs[n]'(by omega)) := by rw [rd36 _ n (by rw [List.length_map]; omega), List.getElem_map]
    have r2 : rd_T71 (xs.map e62) (n : Int) = e62 (xs[n]'(by omega)) := by unfold rd_T71; rw [Int.toNat_natCast, List.getD_eq_getElem?_getD, List.getElem?_map, List.getElem?_eq_getElem (by omega)]; rfl
    have l1 : ((xs.map arS).length : Int) = (xs.length : Int) := by rw [List.length_map]
    have l2 : ((xs.map e62).length : Int) = (xs.length : Int) := by rw [List.length_map]
    refine Ev.step (fun k => ?_) (ih (n + 1) (by omega) (by omega))
    simp only [laws_alikeArgs.l0]
    rw [if_pos (by omega), if_pos (by omega), if_pos (by omega), if_pos (by omega), r1, r2, if_neg (by simp [arS, e62]), hw]
theorem alike (xs : List En) (hx : xs.length ≤ 4294967296) : Ev (fun k => laws_alikeArgs.f k (xs.map arS) (xs.map e62)) true := by
  unfold laws_alikeArgs.f
  refine Ev.pos (by rw [List.length_map, List.length_map]) ?_
  have := alike_l xs hx _ 0 rfl (Nat.zero_le _)
  rw [List.length_map]
  exact this
def to62 (x : S40) : S71 := ⟨x.f0, x.f1, x.f2⟩
theorem argsOf_l (l : List S40) (hl : l.length ≤ 4294967296) : ∀ d n, l.length - n = d → n ≤ l.length → Ev (fun k => laws_argsOf.l0 k ((l.take n).map to62) l (l.length : Int) (n : Int)) (l.map to62) := by
  intro d
  induction d with
  | zero =>
    intro n hd hn
    have : n = l.length := by omega
    subst this
    refine Ev.step (f := fun _ => some (l.map to62)) (fun k => ?_) (Ev.now _)
    simp only [laws_argsOf.l0]
    rw [if_neg (by omega), List.take_length]
  | succ d ih =>
    intro n hd hn
    have hw : wrap64 ((n : Int) + 1) = ((n + 1 : Nat) : Int) := by unfold wrap64; omega
    have ht : (l.take (n + 1)).map to62 = (l.take n).map to62 ++ [⟨(l[n]'(by omega)).f0, (l[n]'(by omega)).f1, (l[n]'(by omega)).f2⟩] := by
      rw [List.take_add_one, List.getElem?_eq_getElem (by omega), List.map_append]; rfl
    have h1 := ih (n + 1) (by omega) (by omega)
    rw [ht] at h1
    refine Ev.step (fun k => ?_) h1
    simp only [laws_argsOf.l0]
    rw [if_pos (by omega), if_pos (by omega), if_pos (by omega), if_pos (by simp; omega), rd36 l n (by omega), hw]
theorem rd62 (l : List S40) (n : Nat) (h : n < l.length) : rd_T71 (l.map to62) (n : Int) = to62 l[n] := by unfold rd_T71; rw [Int.toNat_natCast, List.getD_eq_getElem?_getD, List.getElem?_map, List.getElem?_eq_getElem h]; rfl
def entS (p : List UInt8) : S71 := ⟨bl (Q.keyC p), bl (Q.valC p), false⟩
/-- What the reference tells of parts that are read so far. -/
def Told (q : List UInt8) (f : Nat → Option (List S71 × Int)) : Prop := ∃ r, Ev f r ∧ (r.2 = 1 → r.1 = (spl q).map entS ∧ ∀ p ∈ spl q, Q.keyC p ≠ [])
theorem Told.open_ {q : List UInt8} {f : Nat → Option (List S71 × Int)} (h : Ev f ([], 2)) : Told q f := ⟨_, h, fun e => absurd e (by decide)⟩
theorem j1_ev (q : List UInt8) (parts acc : List S71) (pre p' p : List UInt8) (hp : isPre pre) (hpe : p = pre ++ p') (hl : p'.length ≤ 2000) (ps : List ByteArray) (m : Int) (n : Nat) (hn : n ≤ 4294967296) (ha : acc.length < 3518437208883)
    (go : Q.keyC p ≠ [] → Told q (fun k => spec_RequestCookies.l0 k (acc ++ [entS p]) ps m ((n + 1 : Nat) : Int))) : Told q (fun k => spec_RequestCookies.j1 k acc (bl p') ps m (n : Int)) := by
  have hw : wrap64 ((n : Int) + 1) = ((n + 1 : Nat) : Int) := by unfold wrap64; omega
  have hLp : L (bl p') = p' := L_bl p'
  have hsz : (bl p').size = p'.length := by rw [size_L, hLp]
  have hix := index (bl p') 61 (by omega)
  rw [hLp] at hix
  have j1 : ∀ (t : Int) k, spec_indexOf.f k (bl p') 61 = some t → spec_RequestCookies.j1 (k + 1) acc (bl p') ps m (n : Int) = if t < 1 then some ([], 2) else if 0 ≤ t then if t ≤ ((bl p').size : Int) then (spec_token.f k ((bl p').extract 0 (t : Int).toNat)).bind fun t211 => if t211 = true then if 0 ≤ wrap64 (t + 1) then if wrap64 (t + 1) ≤ ((bl p').size : Int) then (spec_token.f k ((bl p').extract (wrap64 (t + 1)).toNat (bl p').size)).bind fun t212 => if t212 = true then if acc.length < 3518437208883 then spec_RequestCookies.l0 k (acc ++ [⟨(bl p').extract 0 (t : Int).toNat, (bl p').extract (wrap64 (t + 1)).toNat (bl p').size, false⟩]) ps m (wrap64 ((n : Int) + 1)) else none else some ([], 2) else none else none else some ([], 2) else none else none := fun t k h => by
    simp only [spec_RequestCookies.j1]
    rw [h, Option.bind_some]
  obtain ⟨K, hK⟩ := hix
  by_cases hm : (61 : UInt8) ∈ p'
  · rw [if_pos hm] at hK
    obtain ⟨k1, v1, he, hn1⟩ := split_at61 p' hm
    obtain ⟨w1, w2⟩ := while_of hn1 v1
    have htw : (p'.takeWhile (· != 61)).length = k1.length := by rw [he, w1]
    rw [htw] at hK
    have hpl : p'.length = k1.length + (v1.length + 1) := by rw [he]; simp
    by_cases h0 : k1.length < 1
    · refine Told.open_ ⟨K + 1, fun k hk => ?_⟩
      obtain ⟨k', rfl⟩ : ∃ k', k = k' + 1 := ⟨k - 1, by omega⟩
      show spec_RequestCookies.j1 (k' + 1) _ _ _ _ _ = _
      rw [j1 _ k' (hK k' (by omega)), if_pos (by omega)]
    have hw1 : wrap64 ((k1.length : Int) + 1) = ((k1.length + 1 : Nat) : Int) := by unfold wrap64; omega
    have e1 : (bl p').extract 0 ((k1.length : Int)).toNat = bl k1 := ext (by rw [L_extract, hLp, L_bl, Int.toNat_natCast, he]; simp)
    have e2 : (bl p').extract (((k1.length + 1 : Nat) : Int)).toNat (bl p').size = bl v1 := ext (by rw [L_extract, hLp, L_bl, Int.toNat_natCast, hsz, hpl, he]; simp; exact List.take_of_length_le (by omega))
    obtain ⟨b1, hb1, hg1⟩ := stok (bl k1) (by rw [size_L, L_bl]; omega)
    obtain ⟨b2, hb2, hg2⟩ := stok (bl v1) (by rw [size_L, L_bl]; omega)
    rw [L_bl] at hg1 hg2
    have base : Ev (fun k => (spec_token.f k (bl k1)).bind fun t211 => if t211 = true then (spec_token.f k (bl v1)).bind fun t212 => if t212 = true then spec_RequestCookies.l0 k (acc ++ [⟨bl k1, bl v1, false⟩]) ps m ((n + 1 : Nat) : Int) else some ([], 2) else some ([], 2)) = Ev (fun k => (spec_token.f k (bl k1)).bind fun t211 => if t211 = true then (spec_token.f k (bl v1)).bind fun t212 => if t212 = true then spec_RequestCookies.l0 k (acc ++ [⟨bl k1, bl v1, false⟩]) ps m ((n + 1 : Nat) : Int) else some ([], 2) else some ([], 2)) := rfl
    have lift : ∀ r, Ev (fun k => (spec_token.f k (bl k1)).bind fun t211 => if t211 = true then (spec_token.f k (bl v1)).bind fun t212 => if t212 = true then spec_RequestCookies.l0 k (acc ++ [⟨bl k1, bl v1, false⟩]) ps m ((n + 1 : Nat) : Int) else some ([], 2) else some ([], 2)) r → Ev (fun k => spec_RequestCookies.j1 k acc (bl p') ps m (n : Int)) r := fun r ⟨K2, hK2⟩ => by
      refine ⟨max K K2 + 1, fun k hk => ?_⟩
      obtain ⟨k', rfl⟩ : ∃ k', k = k' + 1 := ⟨k - 1, by omega⟩
      show spec_RequestCookies.j1 (k' + 1) _ _ _ _ _ = _
      rw [j1 _ k' (hK k' (by omega)), if_neg (by omega), if_pos (by omega), if_pos (by omega), hw1]
      simp only [if_pos (show (0 : Int) ≤ ((k1.length + 1 : Nat) : Int) by omega), if_pos (show ((k1.length + 1 : Nat) : Int) ≤ ((bl p').size : Int) by omega), if_pos ha]
      rw [e1, e2, hw]
      exact hK2 k' (by omega)
    cases b1 with
    | false => exact Told.open_ (lift _ (Ev.call hb1 (Ev.neg (by decide) (Ev.now _))))
    | true =>
      cases b2 with
      | false => exact Told.open_ (lift _ (Ev.call hb1 (Ev.pos rfl (Ev.call hb2 (Ev.neg (by decide) (Ev.now _))))))
      | true =>
        obtain ⟨g1, g2⟩ := part_good hp (hg1 rfl) (hg2 rfl)
        have hpp : pre ++ k1 ++ 61 :: v1 = p := by rw [hpe, he]; simp
        rw [hpp] at g1 g2
        obtain ⟨r, hr, hrr⟩ := go (by rw [g1]; exact (hg1 rfl).1)
        have hval : entS p = ⟨bl k1, bl v1, false⟩ := by unfold entS; rw [g1, g2]
        rw [hval] at hr
        exact ⟨r, lift _ (Ev.call hb1 (Ev.pos rfl (Ev.call hb2 (Ev.pos rfl hr)))), hrr⟩
  · rw [if_neg hm] at hK
    refine Told.open_ ⟨K + 1, fun k hk => ?_⟩
    obtain ⟨k', rfl⟩ : ∃ k', k = k' + 1 := ⟨k - 1, by omega⟩
    show spec_RequestCookies.j1 (k' + 1) _ _ _ _ _ = _
    rw [j1 _ k' (hK k' (by omega)), if_pos (by decide)]
theorem of_l (q : List UInt8) (hq : q.length ≤ 2000) : ∀ d n, (spl q).length - n = d → n ≤ (spl q).length → (∀ j (h : j < (spl q).length), j < n → Q.keyC (spl q)[j] ≠ []) →
    Told q (fun k => spec_RequestCookies.l0 k (((spl q).take n).map entS) ((spl q).map bl) ((spl q).length : Int) (n : Int)) := by
  have hlen : (spl q).length ≤ 2001 := by
    have h := spl_len q
    omega
  intro d
  induction d with
  | zero =>
    intro n hd hn hp
    have : n = (spl q).length := by omega
    subst this
    rw [List.take_length]
    refine ⟨((spl q).map entS, 1), Ev.step (f := fun _ => some ((spl q).map entS, 1)) (fun k => ?_) (Ev.now _), fun _ => ⟨rfl, fun p hpm => ?_⟩⟩
    · simp only [spec_RequestCookies.l0]
      rw [if_neg (by omega)]
    · obtain ⟨j, hj, e⟩ := List.getElem_of_mem hpm
      rw [← e]
      exact hp j hj hj
  | succ d ih =>
    intro n hd hn hp
    have hnl : n < (spl q).length := by omega
    obtain ⟨p, hpe⟩ : ∃ p, p = (spl q)[n] := ⟨_, rfl⟩
    have hpm : p ∈ spl q := by rw [hpe]; exact List.getElem_mem hnl
    have hpl : p.length ≤ 2000 := by have := spl_part_len q p hpm; omega
    have hlm : (((spl q).map bl).length : Int) = ((spl q).length : Int) := by rw [List.length_map]
    have hrd : rdOf ByteArray.empty ((spl q).map bl) (n : Int) = bl p := by
      unfold rdOf; rw [Int.toNat_natCast, List.getD_eq_getElem?_getD, List.getElem?_map, List.getElem?_eq_getElem hnl, hpe]; rfl
    have hLp : L (bl p) = p := L_bl p
    have hsz : (bl p).size = p.length := by rw [size_L, hLp]
    have hacc : (((spl q).take n).map entS).length < 3518437208883 := by simp; omega
    have htk : ((spl q).take (n + 1)).map entS = ((spl q).take n).map entS ++ [entS p] := by
      rw [List.take_add_one, List.getElem?_eq_getElem hnl, List.map_append, hpe]; rfl
    have go : Q.keyC p ≠ [] → Told q (fun k => spec_RequestCookies.l0 k (((spl q).take n).map entS ++ [entS p]) ((spl q).map bl) ((spl q).length : Int) ((n + 1 : Nat) : Int)) := fun hk => by
      have h1 := ih (n + 1) (by omega) (by omega) (fun j hj hj2 => by
        by_cases e : j = n
        · subst e; rw [← hpe]; exact hk
        · exact hp j hj (by omega))
      rw [htk] at h1
      exact h1
    by_cases h0 : n = 0
    · obtain ⟨r, hr, hrr⟩ := j1_ev q [] (((spl q).take n).map entS) [] p p (.inl rfl) rfl hpl ((spl q).map bl) ((spl q).length : Int) n (by omega) hacc go
      refine ⟨r, Ev.step (fun k => ?_) hr, hrr⟩
      simp only [spec_RequestCookies.l0]
      rw [if_pos (by omega), if_pos (by omega), if_pos (by omega), if_neg (by omega), hrd]
    · cases hpc : p with
      | nil =>
        refine Told.open_ (Ev.step (f := fun _ => some ([], 2)) (fun k => ?_) (Ev.now _))
        simp only [spec_RequestCookies.l0]
        rw [if_pos (by omega), if_pos (by omega), if_pos (by omega), if_pos (by omega), hrd, if_pos (by rw [tl, hLp]; exact hpc)]
      | cons c t =>
        have hb0 : bt (bl p) 0 = (c.toNat : Int) := bt_mid (pre := []) (t := t) (by rw [hLp, hpc]; rfl)
        have hne : ¬ (bl p).toList = ([] : List UInt8) := by rw [tl, hLp, hpc]; simp
        have hp0 : p.length = t.length + 1 := by rw [hpc]; rfl
        by_cases hc : c = 32
        · have hex : (bl p).extract 1 (bl p).size = bl t := ext (by rw [L_extract, hLp, L_bl, hsz, hpc]; simp)
          obtain ⟨r, hr, hrr⟩ := j1_ev q [] (((spl q).take n).map entS) [32] t p (.inr rfl) (by rw [hpc, hc]; rfl) (by omega) ((spl q).map bl) ((spl q).length : Int) n (by omega) hacc go
          refine ⟨r, Ev.step (fun k => ?_) hr, hrr⟩
          simp only [spec_RequestCookies.l0]
          rw [if_pos (by omega), if_pos (by omega), if_pos (by omega), if_pos (by omega), hrd, if_neg hne, if_pos (by omega), hb0, if_pos (by rw [hc]; rfl), if_pos (by omega), hex]
        · refine Told.open_ (Ev.step (f := fun _ => some ([], 2)) (fun k => ?_) (Ev.now _))
          simp only [spec_RequestCookies.l0]
          rw [if_pos (by omega), if_pos (by omega), if_pos (by omega), if_pos (by omega), hrd, if_neg hne, if_pos (by omega), hb0, if_neg (fun e => hc (is32 e))]
theorem says1 (a : ByteArray) (h2 : a.size ≤ 2000) : ∃ r, Ev (fun k => spec_RequestCookies.f k a) r ∧ (r.2 = 1 → r.1 = (cksL (L a)).map e62) := by
  have hL : (L a).length ≤ 2000 := by rw [← size_L]; exact h2
  obtain ⟨r, hr, hrr⟩ := of_l (L a) hL _ 0 rfl (Nat.zero_le _) (fun _ _ h => absurd h (Nat.not_lt_zero _))
  refine ⟨r, ?_, fun e => ?_⟩
  · unfold spec_RequestCookies.f
    refine Ev.call (split a (by omega)) ?_
    rw [List.length_map]
    exact hr
  · obtain ⟨h3, h4⟩ := hrr e
    have hall : ∀ l : List (List UInt8), (∀ p ∈ l, Q.keyC p ≠ []) → (l.flatMap entP).map e62 = l.map entS := by
      intro l
      induction l with
      | nil => intro _; rfl
      | cons p t ih2 =>
        intro hp
        have h5 : entP p = [(Q.keyC p, Q.valC p, false)] := by rw [entP, if_neg (fun e => hp p (by simp) e.1)]
        rw [List.flatMap_cons, h5, List.map_append, List.map_cons, ih2 (fun x hx => hp x (by simp [hx]))]; rfl
    rw [h3, cksL_spl _ (L a) (Nat.le_refl _), hall _ h4]
theorem text_l (l : List S40) (hl : l.length ≤ 20) (hs : ∀ x ∈ l, x.f0.size ≤ 200 ∧ x.f1.size ≤ 200) : ∀ d n (acc : ByteArray), l.length - n = d → n ≤ l.length → L acc = ckText ((l.take n).map en36) →
    ∃ r, Ev (fun k => spec_CookiesText.l0 k acc (l.map to62) (l.length : Int) (n : Int)) r ∧ (r.2 = 1 → L r.1 = ckText (l.map en36)) := by
  intro d
  induction d with
  | zero =>
    intro n acc hd hn ha
    have : n = l.length := by omega
    subst this
    rw [List.take_length] at ha
    refine ⟨(acc, 1), Ev.step (f := fun _ => some (acc, 1)) (fun k => ?_) (Ev.now _), fun _ => ha⟩
    simp only [spec_CookiesText.l0]
    rw [if_neg (by omega)]
  | succ d ih =>
    intro n acc hd hn ha
    have hnl : n < l.length := by omega
    have hw : wrap64 ((n : Int) + 1) = ((n + 1 : Nat) : Int) := by unfold wrap64; omega
    obtain ⟨x, hx⟩ : ∃ x, x = l[n] := ⟨_, rfl⟩
    have hxm : x ∈ l := by rw [hx]; exact List.getElem_mem hnl
    have hsx := hs x hxm
    have hlm : ((l.map to62).length : Int) = (l.length : Int) := by rw [List.length_map]
    have htk : (l.take (n + 1)).map en36 = (l.take n).map en36 ++ [en36 x] := by
      rw [List.take_add_one, List.getElem?_eq_getElem hnl, List.map_append, hx]; rfl
    have hacc : acc.size ≤ 8060 := by
      rw [size_L, ha]
      exact ckl_le (l.take n) (by rw [List.length_take]; omega) (fun y hy => hs y (List.mem_of_mem_take hy))
    obtain ⟨b0, hb0, hg0⟩ := stok x.f0 (by omega)
    obtain ⟨b1, hb1, hg1⟩ := stok x.f1 (by omega)
    have step : ∀ acc2 : ByteArray, acc2.size ≤ 8062 → L acc2 = ckText ((l.take n).map en36) ++ (if (l.take n).map en36 = [] then [] else [59, 32]) → ∃ r, Ev (fun k => spec_CookiesText.j1 k acc2 (l.map to62) (l.length : Int) (n : Int) x.f0 x.f1 x.f2) r ∧ (r.2 = 1 → L r.1 = ckText (l.map en36)) := by
      intro acc2 hz ha2
      have base : ∀ k, spec_CookiesText.j1 (k + 1) acc2 (l.map to62) (l.length : Int) (n : Int) x.f0 x.f1 x.f2 = (spec_token.f k x.f0).bind fun t220 => if t220 = true then (spec_token.f k x.f1).bind fun t221 => if t221 = true then if x.f2 = true then some (⟨#[]⟩, 2) else spec_CookiesText.l0 k (acc2 ++ ((x.f0 ++ (⟨#[61]⟩ : ByteArray)) ++ x.f1)) (l.map to62) (l.length : Int) ((n + 1 : Nat) : Int) else some (⟨#[]⟩, 2) else some (⟨#[]⟩, 2) := fun k => by
        simp only [spec_CookiesText.j1]
        simp only [if_pos (show x.f0.size + 1 ≤ 9223372036854775807 by omega), if_pos (show x.f0.size + 1 + x.f1.size ≤ 9223372036854775807 by omega), if_pos (show acc2.size + (x.f0.size + 1 + x.f1.size) ≤ 9223372036854775807 by omega), hw]
      have bad : ∀ {f : Nat → Option (ByteArray × Int)}, Ev f (⟨#[]⟩, 2) → ∃ r, Ev f r ∧ (r.2 = 1 → L r.1 = ckText (l.map en36)) := fun h => ⟨_, h, fun e => absurd e (by decide)⟩
      cases b0 with
      | false => exact bad (Ev.step base (Ev.call hb0 (Ev.neg (by decide) (Ev.now _))))
      | true =>
        cases b1 with
        | false => exact bad (Ev.step base (Ev.call hb0 (Ev.pos rfl (Ev.call hb1 (Ev.neg (by decide) (Ev.now _))))))
        | true =>
          by_cases h2 : x.f2 = true
          · exact bad (Ev.step base (Ev.call hb0 (Ev.pos rfl (Ev.call hb1 (Ev.pos rfl (Ev.pos h2 (Ev.now _)))))))
          · have hf : x.f2 = false := by simpa using h2
            have hval : en36 x = (L x.f0, L x.f1, false) := by
              obtain ⟨a, b, c⟩ := x
              have hf : c = false := hf
              subst hf
              rfl
            obtain ⟨r, hr, he⟩ := ih (n + 1) (acc2 ++ ((x.f0 ++ (⟨#[61]⟩ : ByteArray)) ++ x.f1)) (by omega) (by omega) (by
              rw [L_append, L_append, L_append, ha2, htk, ckText_snoc, hval, item_eq (x := (L x.f0, L x.f1, false)) (hg0 rfl)]; simp <;> rfl)
            exact ⟨r, Ev.step base (Ev.call hb0 (Ev.pos rfl (Ev.call hb1 (Ev.pos rfl (Ev.neg h2 hr))))), he⟩
    by_cases h0 : n = 0
    · subst h0
      obtain ⟨r, hr, he⟩ := step acc (by omega) (by rw [ha]; simp)
      refine ⟨r, Ev.step (fun k => ?_) hr, he⟩
      simp only [spec_CookiesText.l0]
      rw [if_pos (by omega), if_pos (by omega), if_pos (by omega), if_neg (by omega), rd62 l 0 hnl, ← hx]
      rfl
    · obtain ⟨r, hr, he⟩ := step (acc ++ (⟨#[59, 32]⟩ : ByteArray)) (by rw [size_append, show (⟨#[59, 32]⟩ : ByteArray).size = 2 from rfl]; omega) (by
        rw [L_append, ha, if_neg (by intro e; have h3 := congrArg List.length e; simp only [List.length_map, List.length_take, List.length_nil] at h3; omega)])
      refine ⟨r, Ev.step (fun k => ?_) hr, he⟩
      simp only [spec_CookiesText.l0]
      rw [if_pos (by omega), if_pos (by omega), if_pos (by omega), if_pos (by omega), if_pos (by omega), rd62 l n hnl, ← hx]
      rfl
theorem j3_ok (l : List S40) (hl : l.length ≤ 20) (hs : ∀ x ∈ l, x.f0.size ≤ 200 ∧ x.f1.size ≤ 200) : Ev (fun k => laws_FnCookiesSay.j3 k l false) true := by
  obtain ⟨r, hr, he⟩ := text_l l hl hs _ 0 ⟨#[]⟩ rfl (Nat.zero_le _) rfl
  have hr2 : Ev (fun k => spec_CookiesText.f k (l.map to62)) r := by
    unfold spec_CookiesText.f
    rw [List.length_map]
    exact hr
  have hb := ckl_le l hl hs
  refine Ev.step (f := fun k => (laws_argsOf.f k l).bind fun t246 => (spec_CookiesText.f k t246).bind fun bt249 => if bt249.2 = 1 then (impl_CookiesText.f l).bind fun t251 => some (t251.toList == bt249.1.toList) else some true) (fun k => ?_) (Ev.call (argsOf_l l (by omega) _ 0 rfl (Nat.zero_le _)) (Ev.call hr2 ?_))
  · simp only [laws_FnCookiesSay.j3]
    rw [if_neg (by decide)]
  · by_cases h1 : r.2 = 1
    · refine Ev.pos h1 (Ev.call (Ev.some (cookiesText l (by omega) (fun x hx => by have := hs x hx; omega) (by omega))) ?_)
      refine Ev.same (Ev.now _) ?_
      rw [tl, tl, he h1]
      simp
    · exact Ev.neg h1 (Ev.now _)
theorem j2_t (a : ByteArray) (l : List S40) : Ev (fun k => laws_FnCookiesSay.j2 k a l true) true :=
  Ev.step (f := fun _ => some true) (fun k => by simp only [laws_FnCookiesSay.j2]; rw [if_pos trivial]) (Ev.now _)
theorem j2_f (a : ByteArray) (l : List S40) (ha : a.size ≤ 2000) (hl : l.length ≤ 20) (hs : ∀ x ∈ l, x.f0.size ≤ 200 ∧ x.f1.size ≤ 200) : Ev (fun k => laws_FnCookiesSay.j2 k a l false) true := by
  obtain ⟨r, hr, he⟩ := says1 a ha
  have hj := j3_ok l hl hs
  have hcl := cksL_len (L a)
  rw [← size_L] at hcl
  refine Ev.step (f := fun k => (spec_RequestCookies.f k a).bind fun bt238 => if bt238.2 = 1 then (impl_RequestCookies.f a).bind fun t242 => (laws_alikeArgs.f k t242 bt238.1).bind fun t245 => laws_FnCookiesSay.j3 k l (!t245) else laws_FnCookiesSay.j3 k l false) (fun k => ?_) (Ev.call hr ?_)
  · simp only [laws_FnCookiesSay.j2]
    rw [if_neg (by decide)]
  · by_cases h1 : r.2 = 1
    · refine Ev.pos h1 (Ev.call (Ev.some (cookiesOf a (by omega))) ?_)
      rw [he h1]
      exact Ev.call (alike _ (by omega)) hj
    · exact Ev.neg h1 hj
theorem j0_t (a : ByteArray) (l : List S40) : Ev (fun k => laws_FnCookiesSay.j0 k a l true) true :=
  Ev.step (f := fun _ => some true) (fun k => by simp only [laws_FnCookiesSay.j0]; rw [if_pos trivial]) (Ev.now _)
set_option maxRecDepth 100000 in
theorem ab_text : ckText (([arS ([97], [98], false)] : List S40).map en36) = [97, 61, 98] := by decide +kernel
theorem FnCookiesSay : StFnCookiesSay.Pure := by
  intro a l ha hl hs
  refine Ev.rounds ?_
  unfold laws_FnCookiesSay.f
  by_cases h : (a.size : Int) > 2147483647
  · exact Ev.pos h (j0_t a l)
  obtain ⟨b, hb, hb2⟩ := fits7 l
  refine Ev.neg h (Ev.call hb ?_)
  cases b with
  | false => exact j0_t a l
  | true =>
    show Ev (fun k => laws_FnCookiesSay.j0 k a l false) true
    have hab := cookiesOf (⟨#[97, 61, 98]⟩ : ByteArray) (by decide)
    rw [ab_cks] at hab
    have htx := cookiesText [arS ([97], [98], false)] (by simp) (by intro x hx; simp at hx; subst hx; exact ⟨by decide, by decide⟩) (by rw [ab_text]; decide)
    rw [ab_text] at htx
    obtain ⟨c, hc, hc2⟩ := few l (hb2 rfl)
    have hj1 : Ev (fun k => laws_FnCookiesSay.j1 k a l false) true := by
      refine Ev.step (f := fun k => (laws_short.f k [a]).bind fun t236 => if t236 = true then (laws_few.f k l).bind fun t237 => laws_FnCookiesSay.j2 k a l (!t237) else laws_FnCookiesSay.j2 k a l true) (fun k => ?_) (Ev.call (short1 a) ?_)
      · simp only [laws_FnCookiesSay.j1]
        rw [if_neg (by decide)]
      · by_cases h2 : a.size ≤ 2000
        · refine Ev.pos (decide_eq_true h2) (Ev.call hc ?_)
          cases c with
          | false => exact j2_t a l
          | true => exact j2_f a l h2 (hc2 rfl).1 (hc2 rfl).2
        · exact Ev.neg (by simpa using h2) (j2_t a l)
    refine Ev.step (f := fun k => (impl_RequestCookies.f (⟨#[97, 61, 98]⟩ : ByteArray)).bind fun t228 => if (t228.length : Int) = 1 then if 0 < (t228.length : Int) then if ((rd_T40 t228 0).f0).toList = ([97] : List UInt8) then (impl_CookiesText.f t228).bind fun t232 => laws_FnCookiesSay.j1 k a l (t232.toList != ([97, 61, 98] : List UInt8)) else laws_FnCookiesSay.j1 k a l true else none else laws_FnCookiesSay.j1 k a l true) (fun k => ?_) ?_
    · simp only [laws_FnCookiesSay.j0]
      rw [if_neg (by decide)]
    · refine Ev.call (Ev.some hab) (Ev.pos rfl (Ev.pos (by decide) (Ev.pos (by rw [tl]; rfl) (Ev.call (Ev.some htx) ?_))))
      have hj : ((⟨([97, 61, 98] : List UInt8).toArray⟩ : ByteArray).toList != ([97, 61, 98] : List UInt8)) = false := by rw [tl]; rfl
      rw [hj]
      exact hj1
end Go.Proofs.Ytipmmjbjgbfgjaa.Pure
