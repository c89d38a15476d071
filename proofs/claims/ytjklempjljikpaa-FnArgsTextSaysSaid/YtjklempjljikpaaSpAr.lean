/- Arguments of queries: what the plain functions come to. No program in sight. -/
import Derived.Test.YtjklempjljikpaaQ5
import Derived.Test.YtjklempjljikpaaQ9
import Derived.Test.YtjklempjljikpaaAr10
import Derived.Test.YtjklempjljikpaaSpSht
namespace Go.Proofs.Ytjklempjljikpaa.SpA
open Go.RowKit Go.Proofs.Ytjklempjljikpaa.Q Go.Proofs.YtjklempjljikpaaW.PrintWords Go.Proofs.YtjklempjljikpaaW.PrintLast Go.Proofs.YtjklempjljikpaaKit
set_option linter.unusedVariables false
set_option linter.unusedSimpArgs false
theorem argsOf (s : ByteArray) (h : s.size ≤ 2147483647) : impl_ArgsOf.f s = some ((argsL (L s)).map arS) := by unfold impl_ArgsOf.f; rw [if_pos h]
theorem argsText (l : List S36) (h1 : l.length ≤ 2147483647) (h2 : ∀ x ∈ l, x.f0.size ≤ 2147483647 ∧ x.f1.size ≤ 2147483647) (h3 : (textL (l.map en36)).length ≤ 1000000000000) : impl_ArgsText.f l = some ⟨(textL (l.map en36)).toArray⟩ := by unfold impl_ArgsText.f; rw [if_pos ⟨h1, h2, h3⟩]
theorem same_l (xs : List S36) (hx : xs.length ≤ 4294967296) : ∀ d n, xs.length - n = d → n ≤ xs.length → Ev (fun k => laws_sameArgs.l0 k xs xs (xs.length : Int) (n : Int)) true := by
  intro d
  induction d with
  | zero =>
    intro n hd hn
    refine Ev.step (f := fun _ => some true) (fun k => ?_) (Ev.now _)
    simp only [laws_sameArgs.l0]
    rw [if_neg (by omega)]
  | succ d ih =>
    intro n hd hn
    have hw : wrap64 ((n : Int) + 1) = ((n + 1 : Nat) : Int) := by unfold wrap64; omega
    refine Ev.step (fun k => ?_) (ih (n + 1) (by omega) (by omega))
    simp only [laws_sameArgs.l0]
    rw [if_pos (by omega), if_pos (by omega), if_pos (by omega), if_pos (by omega), if_neg (by simp), hw]
theorem same (xs : List S36) (hx : xs.length ≤ 4294967296) : Ev (fun k => laws_sameArgs.f k xs xs) true := by
  unfold laws_sameArgs.f
  exact Ev.pos rfl (same_l xs hx _ 0 rfl (Nat.zero_le _))
/-! ### escaped texts -/
set_option maxRecDepth 100000 in
theorem esc_all : ∀ c : Fin 256, ((escA (UInt8.ofNat c.val)).all fun x => x != 38 && x != 61 && x != 32 && x != 35) = true := by decide +kernel
theorem ofNat_toNat (c : UInt8) : UInt8.ofNat c.toNat = c := by simp
theorem esc_no (c x : UInt8) (hx : x ∈ escA c) : x ≠ 38 ∧ x ≠ 61 ∧ x ≠ 32 ∧ x ≠ 35 := by
  have h := esc_all ⟨c.toNat, c.toNat_lt⟩
  simp only [ofNat_toNat] at h
  have h1 := List.all_eq_true.1 h x hx
  simp only [Bool.and_eq_true, bne_iff_ne, ne_eq] at h1
  exact ⟨h1.1.1.1, h1.1.1.2, h1.1.2, h1.2⟩
theorem esc_nots (s : List UInt8) : (38 : UInt8) ∉ s.flatMap escA ∧ (61 : UInt8) ∉ s.flatMap escA ∧ (32 : UInt8) ∉ s.flatMap escA ∧ (35 : UInt8) ∉ s.flatMap escA := by
  refine ⟨fun h => ?_, fun h => ?_, fun h => ?_, fun h => ?_⟩ <;> obtain ⟨c, _, hx⟩ := List.mem_flatMap.1 h
  · exact (esc_no c _ hx).1 rfl
  · exact (esc_no c _ hx).2.1 rfl
  · exact (esc_no c _ hx).2.2.1 rfl
  · exact (esc_no c _ hx).2.2.2 rfl
set_option maxRecDepth 100000 in
theorem raw_all : ∀ c : Fin 256, (decide (bt tab2 ((c.val : Nat) : Int) = 0) && (c.val == 37 || c.val == 43)) = false := by decide +kernel
set_option maxRecDepth 100000 in
theorem hex_all : ∀ c : Fin 256, (decide (hx (hexU (c.val / 16)) = 16) || decide (hx (hexU (c.val % 16)) = 16) || (hx2 (hexU (c.val / 16)) (hexU (c.val % 16))).toNat != c.val) = false := by decide +kernel
theorem hex_fact (c : UInt8) : hx (hexU (c.toNat / 16)) ≠ 16 ∧ hx (hexU (c.toNat % 16)) ≠ 16 ∧ hx2 (hexU (c.toNat / 16)) (hexU (c.toNat % 16)) = c := by
  have h := hex_all ⟨c.toNat, c.toNat_lt⟩
  simp only [Bool.or_eq_false_iff, decide_eq_false_iff_not, bne_eq_false_iff_eq] at h
  exact ⟨h.1.1, h.1.2, UInt8.toNat_inj.1 h.2⟩
theorem raw_fact (c : UInt8) (h : bt tab2 (c.toNat : Int) = 0) : c ≠ 37 ∧ c ≠ 43 := by
  have h1 := raw_all ⟨c.toNat, c.toNat_lt⟩
  rw [Bool.and_eq_false_iff] at h1
  rcases h1 with h1 | h1
  · exact absurd h (of_decide_eq_false h1)
  · simp only [Bool.or_eq_false_iff, beq_eq_false_iff_ne, ne_eq] at h1
    exact ⟨fun e => h1.1 (by rw [e]; rfl), fun e => h1.2 (by rw [e]; rfl)⟩
theorem dec_esc (c : UInt8) (t : List UInt8) : decP (escA c ++ t) = c :: decP t := by
  unfold escA
  by_cases h32 : c = 32
  · rw [if_pos h32, List.singleton_append, decP_plain 43 (by decide), h32]; rfl
  · rw [if_neg h32]
    by_cases h0 : bt tab2 (c.toNat : Int) = 0
    · obtain ⟨h1, h2⟩ := raw_fact c h0
      rw [if_pos h0, List.singleton_append, decP_plain c h1, pl, if_neg h2]
    · obtain ⟨h1, h2, h3⟩ := hex_fact c
      rw [if_neg h0]
      show decP (37 :: hexU (c.toNat / 16) :: hexU (c.toNat % 16) :: t) = c :: decP t
      rw [decP, if_pos rfl, if_neg (by rintro (e | e); exact h1 e; exact h2 e), h3]
theorem dec_all : ∀ s : List UInt8, decP (s.flatMap escA) = s
  | [] => by simp [decP]
  | c :: t => by rw [List.flatMap_cons, dec_esc, dec_all t]
/-! ### parts -/
theorem ent_of_fst {q q' : List UInt8} (h : fstP q = fstP q') : entOf q = entOf q' := by unfold entOf; rw [h]
theorem argsL_one (q : List UInt8) (h : (38 : UInt8) ∉ q) : argsL q = entOf q := by
  by_cases hq : q = []
  · subst hq
    rw [argsL_nil, entOf, if_pos]
    exact ⟨by simp [Q.keyOf, fstP, decP], by simp [Q.valOf, fstP, decP]⟩
  · rw [argsL_step q hq, (fst_all h).2, argsL_nil, List.append_nil]
theorem split_first : ∀ (a : List UInt8), (38 : UInt8) ∈ a → ∃ a1 a2, a = a1 ++ 38 :: a2 ∧ (38 : UInt8) ∉ a1
  | [], h => by simp at h
  | c :: t, h => by
    by_cases hc : c = 38
    · exact ⟨[], t, by rw [hc]; rfl, by simp⟩
    · obtain ⟨a1, a2, h1, h2⟩ := split_first t ((List.mem_cons.1 h).resolve_left (fun e => hc e.symm))
      exact ⟨c :: a1, a2, by rw [h1]; rfl, fun e => (List.mem_cons.1 e).elim (fun e2 => hc e2.symm) h2⟩
theorem argsL_app (b : List UInt8) : ∀ (n : Nat) (a : List UInt8), a.length ≤ n → argsL (a ++ 38 :: b) = argsL a ++ argsL b := by
  intro n
  induction n with
  | zero =>
    intro a ha
    have : a = [] := List.length_eq_zero_iff.1 (by omega)
    subst this
    obtain ⟨h1, h2⟩ := fst_of (q := ([] : List UInt8) ++ 38 :: b) rfl (by simp)
    rw [argsL_step _ (by simp), h2, ent_of_fst (q' := []) (by rw [h1]; rfl), ← argsL_one [] (by simp), argsL_nil]
  | succ n ih =>
    intro a ha
    by_cases h : (38 : UInt8) ∈ a
    · obtain ⟨a1, a2, h1, h2⟩ := split_first a h
      subst h1
      obtain ⟨f1, f2⟩ := fst_of (q := a1 ++ 38 :: a2 ++ 38 :: b) (qa := a1) (qb := a2 ++ 38 :: b) (by simp) h2
      obtain ⟨f3, f4⟩ := fst_of (q := a1 ++ 38 :: a2) rfl h2
      rw [argsL_step _ (by simp), f2, argsL_step (a1 ++ 38 :: a2) (by simp), f4, ih a2 (by simp at ha; omega), ent_of_fst (f1.trans f3.symm), List.append_assoc]
    · obtain ⟨f1, f2⟩ := fst_of (q := a ++ 38 :: b) rfl h
      rw [argsL_step _ (by simp), f2, argsL_one a h, ent_of_fst (f1.trans (fst_all h).1.symm)]
/-- An argument that is written and read. -/
def GoodE (x : En) : Prop := x.1 ≠ [] ∧ (x.2.2 = true → x.2.1 = [])
theorem args_item (x : En) (h : GoodE x) : argsL (itemT x) = [x] := by
  obtain ⟨k, v, bx⟩ := x
  obtain ⟨hk, hb⟩ := h
  have hk : k ≠ [] := hk
  obtain ⟨n1, n2, _, _⟩ := esc_nots k
  obtain ⟨m1, m2, _, _⟩ := esc_nots v
  have no38 : (38 : UInt8) ∉ itemT (k, v, bx) := by
    unfold itemT
    cases bx with
    | true => simpa using n1
    | false => simp only [if_neg (show ¬ (false = true) by decide), List.mem_append, List.mem_cons, not_or]; exact ⟨n1, by decide, m1⟩
  rw [argsL_one _ no38, entOf, (fst_all no38).1]
  cases bx with
  | true =>
    have hv : v = [] := hb rfl
    subst hv
    have hi : itemT (k, [], true) = k.flatMap escA := by simp [itemT]
    obtain ⟨p1, p2, p3⟩ := part_bare (p := itemT (k, [], true)) (by rw [hi]; exact n2)
    rw [p1, p2, p3, hi, dec_all, if_neg (fun e => hk e.1)]
  | false =>
    have hi : itemT (k, v, false) = k.flatMap escA ++ 61 :: v.flatMap escA := by simp [itemT]
    obtain ⟨p1, p2, p3⟩ := part_two hi n2
    rw [p1, p2, p3, dec_all, dec_all, if_neg (fun e => hk e.1)]
theorem args_text : ∀ l : List En, (∀ x ∈ l, GoodE x) → argsL (textL l) = l
  | [], _ => by rw [textL, argsL_nil]
  | x :: r, h => by
    have hx := args_item x (h x (by simp))
    have hr := args_text r (fun y hy => h y (by simp [hy]))
    rw [textL]
    by_cases hn : r = []
    · rw [if_pos hn, hn, textL, List.append_nil, List.append_nil, hx]
    · rw [if_neg hn, List.append_assoc, List.singleton_append, argsL_app _ _ _ (Nat.le_refl _), hx, hr]; rfl
theorem textL_le (B : Nat) : ∀ l : List En, (∀ x ∈ l, x.1.length ≤ B ∧ x.2.1.length ≤ B) → (textL l).length ≤ l.length * (6 * B + 2)
  | [], _ => by simp [textL]
  | x :: r, h => by
    have hr := textL_le B r (fun y hy => h y (by simp [hy]))
    have hx := h x (by simp)
    have esc_le : ∀ s : List UInt8, (s.flatMap escA).length ≤ 3 * s.length := by
      intro s
      induction s with
      | nil => simp
      | cons c t ih => have := escA_len c; simp only [List.flatMap_cons, List.length_append, List.length_cons]; omega
    have h1 := esc_le x.1
    have h2 := esc_le x.2.1
    have hi : (itemT x).length ≤ 6 * B + 1 := by
      unfold itemT
      split
      · simp only [List.append_nil]; omega
      · simp only [List.length_append, List.length_cons]; omega
    have hif : (if r = [] then ([] : List UInt8) else [38]).length ≤ 1 := by split <;> simp
    rw [textL, List.length_append, List.length_append, List.length_cons, Nat.succ_mul]
    omega
theorem decP_le (l : List UInt8) : (decP l).length ≤ l.length := decP_len _ l (Nat.le_refl _)
theorem fst_le (q : List UInt8) : (fstP q).length ≤ q.length := (List.takeWhile_sublist _).length_le
theorem args_le : ∀ (n : Nat) (q : List UInt8), q.length ≤ n → ∀ x ∈ argsL q, x.1.length ≤ n ∧ x.2.1.length ≤ n ∧ (x.2.2 = true → x.2.1 = []) := by
  have ent : ∀ (q : List UInt8) (x : En), x ∈ entOf q → x.1.length ≤ q.length ∧ x.2.1.length ≤ q.length ∧ (x.2.2 = true → x.2.1 = []) := by
    intro q x hx
    unfold entOf at hx
    split at hx
    · simp at hx
    · simp only [List.mem_singleton] at hx
      subst hx
      have h0 := fst_le q
      refine ⟨?_, ?_, fun hb => ?_⟩
      · have h1 := decP_le ((fstP q).takeWhile (· != 61))
        have h2 : ((fstP q).takeWhile (· != 61)).length ≤ (fstP q).length := (List.takeWhile_sublist _).length_le
        show (Q.keyOf (fstP q)).length ≤ _
        unfold Q.keyOf; omega
      · have h1 := decP_le (((fstP q).dropWhile (· != 61)).drop 1)
        have h2 : ((fstP q).dropWhile (· != 61)).length ≤ (fstP q).length := (List.dropWhile_sublist _).length_le
        rw [List.length_drop] at h1
        show (Q.valOf (fstP q)).length ≤ _
        unfold Q.valOf; omega
      · have hn : (61 : UInt8) ∉ fstP q := by
          have hb : bareOf (fstP q) = true := hb
          unfold bareOf at hb
          simpa using hb
        exact (part_bare hn).2.1
  intro n
  induction n with
  | zero =>
    intro q hq x hx
    have : q = [] := List.length_eq_zero_iff.1 (by omega)
    subst this
    rw [argsL_nil] at hx
    simp at hx
  | succ n ih =>
    intro q hq x hx
    by_cases h : q = []
    · subst h; rw [argsL_nil] at hx; simp at hx
    · rw [argsL_step q h] at hx
      have hr := rst_lt q h
      rcases List.mem_append.1 hx with h1 | h1
      · have := ent q x h1; exact ⟨by omega, by omega, this.2.2⟩
      · have := ih (rstP q) (by omega) x h1; exact ⟨by omega, by omega, this.2.2⟩
/-! ### data -/
theorem arS_en (x : En) (h : x.2.2 = true → x.2.1 = []) : en36 (arS x) = x := by
  obtain ⟨k, v, bx⟩ := x
  cases bx with
  | true => have hv : v = [] := h rfl; subst hv; rfl
  | false => rfl
theorem en_arS (x : S36) (h : x.f2 = true → x.f1.toList = []) : arS (en36 x) = x := by
  obtain ⟨k, v, bx⟩ := x
  cases bx with
  | true =>
    have hv : v = ⟨#[]⟩ := ext (by have := h rfl; rw [tl] at this; exact this)
    subst hv
    rfl
  | false => rfl
set_option maxRecDepth 100000 in
theorem text_ab : textL [([97], [98], false)] = [97, 61, 98] := by decide +kernel
theorem reads : Ev (fun k => laws_reads.f k) true := by
  have h1 : argsL [97, 61, 98] = [([97], [98], false)] := by
    rw [← text_ab]
    exact args_text _ (by intro x hx; simp at hx; subst hx; exact ⟨by simp, by simp⟩)
  unfold laws_reads.f
  refine Ev.call (Ev.some (argsOf _ (by decide))) ?_
  have h2 : (argsL (L (⟨#[97, 61, 98]⟩ : ByteArray))).map arS = [(⟨⟨#[97]⟩, ⟨#[98]⟩, false⟩ : S36)] := by
    show (argsL [97, 61, 98]).map arS = _
    rw [h1]; rfl
  rw [h2]
  have h3 : textL ([(⟨⟨#[97]⟩, ⟨#[98]⟩, false⟩ : S36)].map en36) = [97, 61, 98] := text_ab
  refine Ev.call (same _ (by decide)) (Ev.pos rfl (Ev.call (Ev.some (argsText _ (by decide) (by intro x hx; simp at hx; subst hx; decide) (by rw [h3]; decide))) ?_))
  rw [h3]
  exact Ev.same (Ev.now _) (by rw [tl]; rfl)
theorem rd36 (l : List S36) (n : Nat) (h : n < l.length) : rd_T36 l (n : Int) = l[n] := by unfold rd_T36; rw [Int.toNat_natCast, List.getD_eq_getElem?_getD, List.getElem?_eq_getElem h]; rfl
/-- Arguments written and read. -/
theorem back (es : List En) (hg : ∀ x ∈ es, GoodE x) (hb : ∀ x ∈ es, x.1.length ≤ 2000 ∧ x.2.1.length ≤ 2000) (hl : es.length ≤ 2000) :
    Ev (fun k => (impl_ArgsText.f (es.map arS)).bind fun t => (impl_ArgsOf.f t).bind fun u => (laws_sameArgs.f k u (es.map arS)).bind fun v => some v) true := by
  have hm : (es.map arS).map en36 = es := by
    rw [List.map_map]
    conv => rhs; rw [← List.map_id es]
    exact List.map_congr_left fun x hx => arS_en x (hg x hx).2
  have ht := textL_le 2000 es hb
  have hle : es.length * (6 * 2000 + 2) ≤ 2000 * (6 * 2000 + 2) := Nat.mul_le_mul_right _ hl
  have htx := argsText (es.map arS) (by rw [List.length_map]; omega) (fun x hx => by
    obtain ⟨y, hy, rfl⟩ := List.mem_map.1 hx
    have := hb y hy
    refine ⟨?_, ?_⟩
    · rw [size_L]; show y.1.length ≤ _; omega
    · rw [size_L]; show y.2.1.length ≤ _; omega) (by rw [hm]; omega)
  rw [hm] at htx
  refine Ev.call (Ev.some htx) (Ev.call (Ev.some (argsOf _ (by rw [size_L]; show (textL es).length ≤ _; omega))) ?_)
  have he : argsL (L (⟨(textL es).toArray⟩ : ByteArray)) = es := args_text es hg
  rw [he]
  exact Ev.call (same _ (by rw [List.length_map]; omega)) (Ev.now _)
end Go.Proofs.Ytjklempjljikpaa.SpA
