/- The pure statement of FnArgsSay: a query's arguments are what the reference says. -/
import Derived.Test.YtjklempjljikpaaQ14
import Derived.Test.YtjklempjljikpaaSpAr
import Derived.Test.YtjklempjljikpaaSpSo
namespace Go.Proofs.Ytjklempjljikpaa.Pure
open Go.RowKit Go.Proofs.Ytjklempjljikpaa.Q Go.Proofs.YtjklempjljikpaaW.PrintWords Go.Proofs.YtjklempjljikpaaW.PrintLast Go.Proofs.YtjklempjljikpaaKit Go.Proofs.Ytjklempjljikpaa.SpA
set_option linter.unusedVariables false
set_option linter.unusedSimpArgs false
def e62 (x : En) : S62 := ⟨⟨x.1.toArray⟩, ⟨x.2.1.toArray⟩, x.2.2⟩
def ent3 (p : List UInt8) : En := (Q.keyOf p, Q.valOf p, bareOf p)
theorem alike_l (xs : List En) (hx : xs.length ≤ 4294967296) : ∀ d n, xs.length - n = d → n ≤ xs.length → Ev (fun k => laws_alikeArgs.l0 k (xs.map arS) (xs.map e62) (xs.length : Int) (n : Int)) true := by
  intro d
  induction d with
  | zero =>
    intro n hd hn
    refine Ev.step (f := fun _ => some true) (fun k => ?_) (Ev.now _)
    simp only [laws_alikeArgs.l0]
    rw [if_neg (by omega)]
  | succ d ih =>
    intro n hd hn
    have hw : wrap64 ((n : Int) + 1) = ((n + 1 : Nat) : Int) := by unfold wrap64; omega
    have r1 : rd_T36 (xs.map arS) (n : Int) = arS (xs[n]'(by omega)) := by rw [rd36 _ n (by rw [List.length_map]; omega), List.getElem_map]
    have r2 : rd_T62 (xs.map e62) (n : Int) = e62 (xs[n]'(by omega)) := by unfold rd_T62; rw [Int.toNat_natCast, List.getD_eq_getElem?_getD, List.getElem?_map, List.getElem?_eq_getElem (by omega)]; rfl
    have l1 : ((xs.map arS).length : Int) = (xs.length : Int) := by rw [List.length_map]
    have l2 : ((xs.map e62).length : Int) = (xs.length : Int) := by rw [List.length_map]
    refine Ev.step (fun k => ?_) (ih (n + 1) (by omega) (by omega))
    simp only [laws_alikeArgs.l0]
    rw [if_pos (by omega), if_pos (by omega), if_pos (by omega), if_pos (by omega), r1, r2, if_neg (by simp [arS, e62]), hw]
theorem alike (xs : List En) (hx : xs.length ≤ 4294967296) : Ev (fun k => laws_alikeArgs.f k (xs.map arS) (xs.map e62)) true := by
  unfold laws_alikeArgs.f
  refine Ev.pos (by rw [List.length_map, List.length_map]) ?_
  have := alike_l xs hx _ 0 rfl (Nat.zero_le _)
  rw [List.length_map]
  exact this
theorem argsL_spl : ∀ (n : Nat) (q : List UInt8), q.length ≤ n → argsL q = (spl q).flatMap entOf := by
  intro n
  induction n with
  | zero =>
    intro q hq
    have : q = [] := List.length_eq_zero_iff.1 (by omega)
    subst this
    rw [argsL_one [] (by simp)]; simp [spl]
  | succ n ih =>
    intro q hq
    by_cases h : (38 : UInt8) ∈ q
    · obtain ⟨a1, a2, h1, h2⟩ := split_first q h
      subst h1
      rw [argsL_app _ _ _ (Nat.le_refl _), spl_app, spl_word a1 h2, List.flatMap_append, ← ih a2 (by simp at hq; omega), argsL_one a1 h2]; simp
    · rw [argsL_one q h, spl_word q h]; simp
theorem snd_spl : ∀ (n : Nat) (q : List UInt8), q.length ≤ n → SndB q → ∀ p ∈ spl q, SndB p := by
  intro n
  induction n with
  | zero =>
    intro q hq hs p hp
    have : q = [] := List.length_eq_zero_iff.1 (by omega)
    subst this
    simp [spl] at hp
    subst hp; trivial
  | succ n ih =>
    intro q hq hs p hp
    by_cases h : (38 : UInt8) ∈ q
    · obtain ⟨a1, a2, h1, h2⟩ := split_first q h
      subst h1
      rw [spl_app, spl_word a1 h2] at hp
      rcases List.mem_append.1 hp with e | e
      · simp at e
        subst e
        exact SndB.ahead (c := 38) (by decide +kernel) _ hs
      · have h3 : SndB (38 :: a2) := SndB.behind a1 hs
        exact ih a2 (by simp at hq; omega) h3.2 p e
    · rw [spl_word q h] at hp
      simp at hp
      subst hp; exact hs
theorem ent_good (p : List UInt8) (h38 : (38 : UInt8) ∉ p) (hg : p.takeWhile (· != 61) ≠ []) : entOf p = [ent3 p] := by
  rw [entOf, (fst_all h38).1, if_neg]
  · rfl
  · intro e
    exact hg ((decP_nil_iff _).1 e.1)
theorem of_l (q : List UInt8) (hq : q.length ≤ 2000) (hs : SndB q) : ∀ d n, (spl q).length - n = d → n ≤ (spl q).length → (∀ j (h : j < (spl q).length), j < n → (spl q)[j].takeWhile (· != 61) ≠ []) →
    ∃ r, Ev (fun k => spec_ArgsOf.l0 k ((((spl q).take n).map ent3).map e62) ((spl q).map bl) ((spl q).length : Int) (n : Int)) r ∧ (r.2 = 1 → r.1 = ((spl q).map ent3).map e62 ∧ ∀ p ∈ spl q, p.takeWhile (· != 61) ≠ []) := by
  have hlen : (spl q).length ≤ 2001 := by
    have h := spl_len q
    omega
  intro d
  induction d with
  | zero =>
    intro n hd hn hp
    have : n = (spl q).length := by omega
    subst this
    rw [List.take_length]
    refine ⟨(((spl q).map ent3).map e62, 1), Ev.step (f := fun _ => some (((spl q).map ent3).map e62, 1)) (fun k => ?_) (Ev.now _), fun _ => ⟨rfl, fun p hpm => ?_⟩⟩
    · simp only [spec_ArgsOf.l0]
      rw [if_neg (by omega)]
    · obtain ⟨j, hj, e⟩ := List.getElem_of_mem hpm
      rw [← e]
      exact hp j hj hj
  | succ d ih =>
    intro n hd hn hp
    have hnl : n < (spl q).length := by omega
    have hw : wrap64 ((n : Int) + 1) = ((n + 1 : Nat) : Int) := by unfold wrap64; omega
    obtain ⟨p, hpe⟩ : ∃ p, p = (spl q)[n] := ⟨_, rfl⟩
    have hpm : p ∈ spl q := by rw [hpe]; exact List.getElem_mem hnl
    have hsp := snd_spl _ q (Nat.le_refl _) hs p hpm
    have hpl : p.length ≤ 2000 := by have := spl_part_len q p hpm; omega
    have hlm : (((spl q).map bl).length : Int) = ((spl q).length : Int) := by rw [List.length_map]
    have hrd : rdOf ByteArray.empty ((spl q).map bl) (n : Int) = bl p := by
      unfold rdOf; rw [Int.toNat_natCast, List.getD_eq_getElem?_getD, List.getElem?_map, List.getElem?_eq_getElem hnl, hpe]; rfl
    have hLp : L (bl p) = p := L_bl p
    have hsz : (bl p).size = p.length := by rw [size_L, hLp]
    have hix := index (bl p) 61 (by omega)
    rw [hLp] at hix
    have hacc : ((((spl q).take n).map ent3).map e62).length < 3518437208883 := by simp; omega
    obtain ⟨x7, hx7⟩ : ∃ x7 : Int, x7 = (if (61 : UInt8) ∈ p then ((p.takeWhile (· != 61)).length : Int) else -1) := ⟨_, rfl⟩
    rw [← hx7] at hix
    have bad : (∃ k0, ∀ k, k0 ≤ k → spec_ArgsOf.l0 (k + 1) ((((spl q).take n).map ent3).map e62) ((spl q).map bl) ((spl q).length : Int) (n : Int) = spec_ArgsOf.j1 k ((((spl q).take n).map ent3).map e62) (bl p) x7 ((spl q).map bl) ((spl q).length : Int) (n : Int) true) → ∃ r, Ev (fun k => spec_ArgsOf.l0 k ((((spl q).take n).map ent3).map e62) ((spl q).map bl) ((spl q).length : Int) (n : Int)) r ∧ (r.2 = 1 → r.1 = ((spl q).map ent3).map e62 ∧ ∀ p ∈ spl q, p.takeWhile (· != 61) ≠ []) := fun ⟨k0, hk0⟩ => by
      refine ⟨([], 2), ⟨k0 + 2, fun k hk => ?_⟩, fun e => absurd e (by decide)⟩
      obtain ⟨k', rfl⟩ : ∃ k', k = k' + 1 + 1 := ⟨k - 2, by omega⟩
      show spec_ArgsOf.l0 (k' + 1 + 1) _ _ _ _ = _
      rw [hk0 (k' + 1) (by omega), spec_ArgsOf.j1, if_pos rfl]
    obtain ⟨K, hK⟩ := hix
    have hl0 : ∀ k, K ≤ k → spec_ArgsOf.l0 (k + 1) ((((spl q).take n).map ent3).map e62) ((spl q).map bl) ((spl q).length : Int) (n : Int) = if (bl p).toList = ([] : List UInt8) then spec_ArgsOf.j1 k ((((spl q).take n).map ent3).map e62) (bl p) x7 ((spl q).map bl) ((spl q).length : Int) (n : Int) true else spec_ArgsOf.j1 k ((((spl q).take n).map ent3).map e62) (bl p) x7 ((spl q).map bl) ((spl q).length : Int) (n : Int) (x7 == 0) := fun k hk => by
      have h1 : spec_indexOf.f k (bl p) 61 = some x7 := hK k hk
      simp only [spec_ArgsOf.l0]
      rw [if_pos (by omega), if_pos (by omega), if_pos (by omega), hrd, h1, Option.bind_some]
    by_cases hp0 : p = []
    · exact bad ⟨K, fun k hk => by rw [hl0 k hk, if_pos (by rw [tl, hLp]; exact hp0)]⟩
    have hne : ¬ (bl p).toList = ([] : List UInt8) := by rw [tl, hLp]; exact hp0
    by_cases hz : x7 = 0
    · exact bad ⟨K, fun k hk => by rw [hl0 k hk, if_neg hne, beq_iff_eq.2 hz]⟩
    have hgood : p.takeWhile (· != 61) ≠ [] := by
      by_cases hm : (61 : UInt8) ∈ p
      · intro e; apply hz; rw [hx7, if_pos hm, e]; rfl
      · rw [(while_all hm).1]; exact hp0
    have htk : (((spl q).take (n + 1)).map ent3).map e62 = (((spl q).take n).map ent3).map e62 ++ [e62 (ent3 p)] := by
      rw [List.take_add_one, List.getElem?_eq_getElem hnl, List.map_append, List.map_append, hpe]; rfl
    obtain ⟨r, hr, hrr⟩ := ih (n + 1) (by omega) (by omega) (fun j hj hj2 => by
      by_cases e : j = n
      · subst e; rw [← hpe]; exact hgood
      · exact hp j hj (by omega))
    rw [htk] at hr
    have fin : Ev (fun k => spec_ArgsOf.j1 k ((((spl q).take n).map ent3).map e62) (bl p) x7 ((spl q).map bl) ((spl q).length : Int) (n : Int) false) r := by
      by_cases hm : (61 : UInt8) ∈ p
      · obtain ⟨p1, r1, he, hn1⟩ : ∃ p1 r1, p = p1 ++ 61 :: r1 ∧ (61 : UInt8) ∉ p1 := by
          obtain ⟨h1, h2⟩ := List.append_of_mem hm
          exact split_at61 p hm
        obtain ⟨w1, w2⟩ := while_of hn1 r1
        have hxl : x7 = (p1.length : Int) := by rw [hx7, if_pos hm, he, w1]
        obtain ⟨k1, k2, k3⟩ := part_two he hn1
        have hpe2 : p.length = p1.length + (r1.length + 1) := by rw [he]; simp
        have e1 : (bl p).extract 0 (x7 : Int).toNat = bl p1 := ext (by rw [L_extract, hLp, L_bl, hxl, Int.toNat_natCast, he]; simp)
        have hw1 : wrap64 (x7 + 1) = ((p1.length + 1 : Nat) : Int) := by rw [hxl]; unfold wrap64; omega
        have e2 : (bl p).extract ((p1.length + 1 : Nat) : Int).toNat (bl p).size = bl r1 := ext (by rw [L_extract, hLp, L_bl, Int.toNat_natCast, hsz, hpe2, he]; simp; exact List.take_of_length_le (by omega))
        have s1 : SndB (L (bl p1)) := by rw [L_bl]; rw [he] at hsp; exact SndB.ahead (c := 61) (by decide +kernel) _ hsp
        have s2 : SndB (L (bl r1)) := by rw [L_bl]; rw [he] at hsp; exact (SndB.behind p1 hsp).2
        have d1 := decodedP (bl p1) (by rw [size_L, L_bl]; omega) s1
        have d2 := decodedP (bl r1) (by rw [size_L, L_bl]; omega) s2
        rw [L_bl] at d1 d2
        have hval : e62 (ent3 p) = ⟨bl (decP p1), bl (decP r1), false⟩ := by unfold e62 ent3; rw [k1, k2, k3]
        rw [hval] at hr
        refine Ev.step (f := fun k => (spec_Decoded.f k (bl p1) true).bind fun t216 => (spec_Decoded.f k (bl r1) true).bind fun t217 => spec_ArgsOf.l0 k ((((spl q).take n).map ent3).map e62 ++ [⟨t216, t217, false⟩]) ((spl q).map bl) ((spl q).length : Int) ((n + 1 : Nat) : Int)) (fun k => ?_) (Ev.call d1 (Ev.call d2 hr))
        simp only [spec_ArgsOf.j1]
        rw [if_neg (by decide), if_neg (by omega), if_pos (by omega), if_pos (by omega), e1, hw1, e2, hw]
        simp only [if_pos (show (0 : Int) ≤ ((p1.length + 1 : Nat) : Int) by omega), if_pos (show ((p1.length + 1 : Nat) : Int) ≤ ((bl p).size : Int) by omega), if_pos hacc]
      · have hxl : x7 = -1 := by rw [hx7, if_neg hm]
        obtain ⟨k1, k2, k3⟩ := part_bare hm
        have d1 := decodedP (bl p) (by omega) (by rw [hLp]; exact hsp)
        rw [hLp] at d1
        have hval : e62 (ent3 p) = ⟨bl (decP p), ⟨#[]⟩, true⟩ := by unfold e62 ent3; rw [k1, k2, k3]
        rw [hval] at hr
        refine Ev.step (f := fun k => (spec_Decoded.f k (bl p) true).bind fun t212 => spec_ArgsOf.l0 k ((((spl q).take n).map ent3).map e62 ++ [⟨t212, ⟨#[]⟩, true⟩]) ((spl q).map bl) ((spl q).length : Int) ((n + 1 : Nat) : Int)) (fun k => ?_) (Ev.call d1 hr)
        simp only [spec_ArgsOf.j1]
        rw [if_neg (by decide), if_pos (by omega), hw]
        simp only [if_pos hacc]
    obtain ⟨K2, hK2⟩ := fin
    refine ⟨r, ⟨max K K2 + 1, fun k hk => ?_⟩, hrr⟩
    obtain ⟨k', rfl⟩ : ∃ k', k = k' + 1 := ⟨k - 1, by omega⟩
    show spec_ArgsOf.l0 (k' + 1) _ _ _ _ = _
    rw [hl0 k' (by omega), if_neg hne, beq_eq_false_iff_ne.2 hz]
    exact hK2 k' (by omega)
theorem FnArgsSay : laws_FnArgsSay.Pure := by
  intro a ha
  refine Ev.rounds ?_
  unfold laws_FnArgsSay.f
  by_cases h : (a.size : Int) > 2147483647
  · exact Ev.pos h (Ev.now _)
  refine Ev.neg h (Ev.call reads (Ev.pos rfl (Ev.call (short1 a) ?_)))
  by_cases h2 : a.size ≤ 2000
  · rw [decide_eq_true h2]
    have hL : (L a).length ≤ 2000 := by rw [← size_L]; exact h2
    have hal := argsL_len (L a)
    have done : ∀ r : List S62 × Int, (r.2 = 1 → r.1 = (argsL (L a)).map e62) → Ev (fun k => (if r.2 = 1 then ((impl_ArgsOf.f a).bind fun t232 => ((laws_alikeArgs.f k t232 r.1).bind fun t235 => (some t235))) else (some true))) true := fun r hr => by
      by_cases h1 : r.2 = 1
      · refine Ev.pos h1 (Ev.call (Ev.some (argsOf a (by omega))) ?_)
        rw [hr h1]
        exact Ev.call (alike _ (by omega)) (Ev.now _)
      · exact Ev.neg h1 (Ev.now _)
    refine Ev.pos rfl ?_
    by_cases h0 : a.toList = ([] : List UInt8)
    · have hs : Ev (fun k => spec_ArgsOf.f k a) (([] : List S62), (1 : Int)) := by
        unfold spec_ArgsOf.f
        exact Ev.pos h0 (Ev.now _)
      refine Ev.call hs (done _ fun _ => ?_)
      rw [tl] at h0
      rw [h0, argsL_nil]; rfl
    · obtain ⟨b, hb, hbs⟩ := sound a (by omega)
      cases b with
      | false =>
        have hs : Ev (fun k => spec_ArgsOf.f k a) (([] : List S62), (2 : Int)) := by
          unfold spec_ArgsOf.f
          exact Ev.neg h0 (Ev.call hb (Ev.neg (by decide) (Ev.now _)))
        exact Ev.call hs (done _ fun e => absurd e (by decide))
      | true =>
        have hsn := hbs rfl
        obtain ⟨r, hr, hrr⟩ := of_l (L a) hL hsn _ 0 rfl (Nat.zero_le _) (fun _ _ h => absurd h (Nat.not_lt_zero _))
        have hs : Ev (fun k => spec_ArgsOf.f k a) r := by
          unfold spec_ArgsOf.f
          refine Ev.neg h0 (Ev.call hb (Ev.pos rfl (Ev.call (split a (by omega)) ?_)))
          rw [List.length_map]
          exact hr
        refine Ev.call hs (done r fun e => ?_)
        obtain ⟨h3, h4⟩ := hrr e
        have hall : (spl (L a)).flatMap entOf = (spl (L a)).map ent3 := by
          have : ∀ l : List (List UInt8), (∀ p ∈ l, (38 : UInt8) ∉ p ∧ p.takeWhile (· != 61) ≠ []) → l.flatMap entOf = l.map ent3 := by
            intro l
            induction l with
            | nil => intro _; rfl
            | cons p t ih2 => intro hp; rw [List.flatMap_cons, List.map_cons, ent_good p (hp p (by simp)).1 (hp p (by simp)).2, ih2 (fun x hx => hp x (by simp [hx]))]; rfl
          exact this _ fun p hp => ⟨(spl_free _ (L a) (Nat.le_refl _) p hp).1, h4 p hp⟩
        rw [h3, argsL_spl _ (L a) (Nat.le_refl _), hall]
  · rw [decide_eq_false h2]
    exact Ev.neg (by simp) (Ev.now _)
end Go.Proofs.Ytjklempjljikpaa.Pure
