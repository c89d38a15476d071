/- Cookies: the parts of a text; the reference's tokens. No program in sight. -/
import Derived.Test.YtipmmjbjgbfgjaaQ10
import Derived.Test.YtipmmjbjgbfgjaaQ12
import Derived.Test.YtipmmjbjgbfgjaaSpCs
namespace Go.Proofs.Ytipmmjbjgbfgjaa.SpA
open Go.RowKit Go.Proofs.Ytipmmjbjgbfgjaa.Q Go.Proofs.YtipmmjbjgbfgjaaW.PrintWords Go.Proofs.YtipmmjbjgbfgjaaW.PrintLast Go.Proofs.YtipmmjbjgbfgjaaKit
set_option linter.unusedVariables false
set_option linter.unusedSimpArgs false
abbrev bl (l : List UInt8) : ByteArray := ⟨l.toArray⟩
theorem L_bl (l : List UInt8) : L (bl l) = l := by simp [L, bl]
/-! ### parts -/
def spl : List UInt8 → List (List UInt8)
  | [] => [[]]
  | c :: t => if c = 59 then [] :: spl t else match spl t with
    | [] => [[c]]
    | h :: r => (c :: h) :: r
theorem spl_ne : ∀ l, spl l ≠ []
  | [] => by simp [spl]
  | c :: t => by
    unfold spl
    split
    · simp
    · split <;> simp
theorem spl_app (b : List UInt8) : ∀ a, spl (a ++ 59 :: b) = spl a ++ spl b
  | [] => by simp [spl]
  | c :: t => by
    have ih := spl_app b t
    by_cases hc : c = 59
    · simp [spl, hc, ih]
    · simp only [List.cons_append, spl, if_neg hc, ih]
      cases h : spl t with
      | nil => exact absurd h (spl_ne t)
      | cons x y => simp
theorem spl_word : ∀ a : List UInt8, (59 : UInt8) ∉ a → spl a = [a]
  | [], _ => rfl
  | c :: t, h => by
    have hc : ¬ c = 59 := fun e => h (by simp [e])
    have ih := spl_word t (fun e => h (by simp [e]))
    simp [spl, hc, ih]
theorem split_l (s : ByteArray) (hs : s.size ≤ 2138483638) : ∀ (suf dn cur : List UInt8) (acc : List ByteArray), L s = (dn ++ cur) ++ suf → (59 : UInt8) ∉ cur → acc.length ≤ dn.length →
    Ev (fun k => spec_split.l0 k s 59 acc (dn.length : Int) ((dn ++ cur).length : Int)) (acc ++ (spl (cur ++ suf)).map bl)
  | [], dn, cur, acc, h, hc, ha => by
    have hsz : s.size = dn.length + cur.length := by rw [size_L, h]; simp
    have hlen : ((dn ++ cur).length : Int) = (dn.length : Int) + cur.length := by simp
    have hex : s.extract (dn.length : Int).toNat ((dn ++ cur).length : Int).toNat = bl cur := by
      refine ext ?_
      rw [L_extract, Int.toNat_natCast, Int.toNat_natCast, h, L_bl]
      simp
    have w1 : wrap64 (((dn ++ cur).length : Int) + 1) = ((dn ++ cur).length : Int) + 1 := wrap_id (by omega) (by omega)
    rw [List.append_nil, spl_word cur hc]
    refine Ev.step (f := fun k => spec_split.l0 k s 59 (acc ++ [bl cur]) (((dn ++ cur).length : Int) + 1) (((dn ++ cur).length : Int) + 1)) (fun k => ?_) (Ev.step (f := fun _ => some (acc ++ [bl cur])) (fun k => ?_) (Ev.now _))
    · simp only [spec_split.l0]
      rw [if_pos (by omega), if_pos (by omega), if_pos (by omega), if_pos (by omega), if_pos (by omega), hex, w1]
    · simp only [spec_split.l0]
      rw [if_neg (by omega)]
  | c :: t, dn, cur, acc, h, hc, ha => by
    have hsz : s.size = dn.length + cur.length + (t.length + 1) := by rw [size_L, h]; simp; omega
    have hlen : ((dn ++ cur).length : Int) = (dn.length : Int) + cur.length := by simp
    have hex : s.extract (dn.length : Int).toNat ((dn ++ cur).length : Int).toNat = bl cur := by
      refine ext ?_
      rw [L_extract, Int.toNat_natCast, Int.toNat_natCast, h, L_bl]
      simp
    by_cases h59 : c = 59
    · have ih := split_l s hs t (dn ++ cur ++ [c]) [] (acc ++ [bl cur]) (by rw [h]; simp) (by simp) (by simp; omega)
      rw [List.append_nil] at ih
      have w1 : wrap64 (((dn ++ cur).length : Int) + 1) = ((dn ++ cur ++ [c]).length : Int) := wrap_mid h (by omega)
      rw [h59, spl_app, spl_word cur hc]
      refine Ev.step (fun k => ?_) (Ev.same ih (by simp))
      simp only [spec_split.l0]
      rw [if_pos (by omega), if_neg (by omega), if_pos (by omega), if_pos (sz_mid h), bt_mid h, if_pos (by rw [h59]; rfl), if_pos (by omega), if_pos (by omega), if_pos (by omega), hex, w1]
    · have ih := split_l s hs t dn (cur ++ [c]) acc (by rw [h]; simp) (by simp only [List.mem_append, List.mem_singleton, not_or]; exact ⟨hc, fun e => h59 e.symm⟩) ha
      have w1 : wrap64 (((dn ++ cur).length : Int) + 1) = ((dn ++ (cur ++ [c])).length : Int) := by rw [wrap_mid h (by omega), List.append_assoc]
      rw [show cur ++ c :: t = (cur ++ [c]) ++ t by simp]
      refine Ev.step (fun k => ?_) ih
      simp only [spec_split.l0]
      rw [if_pos (by omega), if_neg (by omega), if_pos (by omega), if_pos (sz_mid h), bt_mid h, if_neg (fun e => h59 (UInt8.toNat_inj.1 (by have : (59 : UInt8).toNat = 59 := rfl; omega))), w1]
theorem split (s : ByteArray) (hs : s.size ≤ 2138483638) : Ev (fun k => spec_split.f k s 59) ((spl (L s)).map bl) := split_l s hs (L s) [] [] [] rfl (by simp) (Nat.le_refl _)
theorem spl_free : ∀ (n : Nat) (l : List UInt8), l.length ≤ n → ∀ q ∈ spl l, (59 : UInt8) ∉ q ∧ (∀ x ∈ q, x ∈ l)
  | _, [], _, q, h => by simp [spl] at h; simp [h]
  | 0, c :: t, hn, q, h => by simp at hn
  | n + 1, c :: t, hn, q, h => by
    have ih := spl_free n t (by simpa using hn)
    by_cases hc : c = 59
    · simp only [spl, if_pos hc, List.mem_cons] at h
      rcases h with h | h
      · simp [h]
      · exact ⟨(ih q h).1, fun x hx => List.mem_cons_of_mem _ ((ih q h).2 x hx)⟩
    · cases hs : spl t with
      | nil => exact absurd hs (spl_ne t)
      | cons p ps =>
        simp only [spl, if_neg hc, hs, List.mem_cons] at h
        rcases h with h | h
        · have h1 := ih p (by rw [hs]; simp)
          subst h
          refine ⟨fun e => ?_, fun x hx => ?_⟩
          · rcases List.mem_cons.1 e with e | e
            · exact hc e.symm
            · exact h1.1 e
          · rcases List.mem_cons.1 hx with e | e
            · rw [e]; exact List.mem_cons_self
            · exact List.mem_cons_of_mem _ (h1.2 x e)
        · have h1 := ih q (by rw [hs]; simp [h])
          exact ⟨h1.1, fun x hx => List.mem_cons_of_mem _ (h1.2 x hx)⟩
theorem spl_len : ∀ l, (spl l).length ≤ l.length + 1
  | [] => by simp [spl]
  | c :: t => by
    have := spl_len t
    unfold spl
    split
    · simp; omega
    · split <;> simp_all <;> omega
theorem spl_part_len : ∀ (l p : List UInt8), p ∈ spl l → p.length ≤ l.length
  | [], p, h => by simp [spl] at h; simp [h]
  | c :: t, p, h => by
    by_cases hc : c = 59
    · simp only [spl, if_pos hc, List.mem_cons] at h
      rcases h with h | h
      · simp [h]
      · have := spl_part_len t p h; simp; omega
    · cases hs : spl t with
      | nil => exact absurd hs (spl_ne t)
      | cons q qs =>
        simp only [spl, if_neg hc, hs, List.mem_cons] at h
        rcases h with h | h
        · have := spl_part_len t q (by rw [hs]; simp); rw [h]; simp; omega
        · have := spl_part_len t p (by rw [hs]; simp [h]); simp; omega
theorem split_at61 : ∀ (p : List UInt8), (61 : UInt8) ∈ p → ∃ p1 r1, p = p1 ++ 61 :: r1 ∧ (61 : UInt8) ∉ p1
  | [], h => by simp at h
  | c :: t, h => by
    by_cases hc : c = 61
    · exact ⟨[], t, by rw [hc]; rfl, by simp⟩
    · obtain ⟨a1, a2, h1, h2⟩ := split_at61 t ((List.mem_cons.1 h).resolve_left (fun e => hc e.symm))
      exact ⟨c :: a1, a2, by rw [h1]; rfl, fun e => (List.mem_cons.1 e).elim (fun e2 => hc e2.symm) h2⟩
/-- Where a byte stands first; -1: nowhere. -/
theorem index_l (s : ByteArray) (c : UInt8) (hs : s.size ≤ 2147483647) : ∀ (suf pre : List UInt8), L s = pre ++ suf → Ev (fun k => spec_indexOf.l0 k s (c.toNat : Int) (pre.length : Int)) (if c ∈ suf then ((pre.length + (suf.takeWhile (· != c)).length : Nat) : Int) else -1)
  | [], pre, h => Ev.same (Ev.step (f := fun _ => some (-1)) (fun k => by simp only [spec_indexOf.l0]; rw [if_neg (sz_not h)]) (Ev.now _)) (by simp)
  | d :: t, pre, h => by
    have hsz : s.size = pre.length + (t.length + 1) := by rw [size_L, h]; simp
    have w1 : wrap64 ((pre.length : Int) + 1) = ((pre ++ [d]).length : Int) := wrap_mid h (by omega)
    by_cases hd : (d.toNat : Int) = (c.toNat : Int)
    · have hd' : d = c := UInt8.toNat_inj.1 (by omega)
      subst hd'
      refine Ev.same (Ev.step (f := fun _ => some (pre.length : Int)) (fun k => ?_) (Ev.now _)) (by simp)
      simp only [spec_indexOf.l0]
      rw [if_pos (sz_mid h), if_pos (by omega), bt_mid h, if_pos rfl]
    · have hd' : d ≠ c := fun e => hd (by rw [e])
      have ih := index_l s c hs t (pre ++ [d]) (mid_next h)
      refine Ev.same (Ev.step (fun k => ?_) ih) ?_
      · simp only [spec_indexOf.l0]
        rw [if_pos (sz_mid h), if_pos (by omega), bt_mid h, if_neg hd, w1]
      · by_cases hm : c ∈ t
        · rw [if_pos hm, if_pos (List.mem_cons_of_mem _ hm)]
          simp [List.takeWhile_cons, hd']
          omega
        · rw [if_neg hm, if_neg (by simp only [List.mem_cons, not_or]; exact ⟨fun e => hd' e.symm, hm⟩)]
theorem index (s : ByteArray) (c : UInt8) (hs : s.size ≤ 2147483647) : Ev (fun k => spec_indexOf.f k s (c.toNat : Int)) (if c ∈ L s then (((L s).takeWhile (· != c)).length : Int) else -1) := Ev.same (index_l s c hs (L s) [] rfl) (by simp)
theorem split_c (c : UInt8) : ∀ (p : List UInt8), c ∈ p → ∃ p1 r1, p = p1 ++ c :: r1 ∧ c ∉ p1
  | [], h => by simp at h
  | x :: t, h => by
    by_cases hc : x = c
    · exact ⟨[], t, by rw [hc]; rfl, by simp⟩
    · obtain ⟨a1, a2, h1, h2⟩ := split_c c t ((List.mem_cons.1 h).resolve_left (fun e => hc e.symm))
      exact ⟨x :: a1, a2, by rw [h1]; rfl, fun e => (List.mem_cons.1 e).elim (fun e2 => hc e2.symm) h2⟩
def entP (p : List UInt8) : List En := if Q.keyC p = [] ∧ Q.valC p = [] then [] else [(Q.keyC p, Q.valC p, false)]
theorem cksL_one (q : List UInt8) (h : (59 : UInt8) ∉ q) : cksL q = entP q := by
  by_cases h0 : q = []
  · subst h0; decide +kernel
  · obtain ⟨f1, f2⟩ := fstC_all h
    rw [cksL_step q h0, f2, cksL_nil, List.append_nil, entC, f1, entP]
theorem cksL_spl : ∀ (n : Nat) (q : List UInt8), q.length ≤ n → cksL q = (spl q).flatMap entP := by
  intro n
  induction n with
  | zero =>
    intro q hq
    have : q = [] := List.length_eq_zero_iff.1 (by omega)
    subst this
    rw [cksL_one [] (by simp)]; simp [spl]
  | succ n ih =>
    intro q hq
    by_cases h : (59 : UInt8) ∈ q
    · obtain ⟨a1, a2, h1, h2⟩ := split_c 59 q h
      subst h1
      obtain ⟨f1, f2⟩ := fstC_of (q := a1 ++ 59 :: a2) rfl h2
      rw [cksL_step _ (by simp), f2, entC, f1, spl_app, spl_word a1 h2, List.flatMap_append, ← ih a2 (by simp at hq; omega)]
      simp [entP]
    · rw [cksL_one q h, spl_word q h]; simp
set_option maxRecDepth 100000 in
set_option maxHeartbeats 4000000 in
theorem stok_l (s : ByteArray) (hs : s.size ≤ 140737488351232) : ∀ (suf pre : List UInt8), L s = pre ++ suf → ∃ b, Ev (fun k => spec_token.l0 k s pre.length) b ∧ (b = true → L s ≠ [] ∧ ∀ c ∈ suf, good c)
  | [], pre, h => ⟨_, Ev.step (f := fun _ => some (s.toList != [])) (fun k => by simp only [spec_token.l0]; rw [if_neg (sz_not h)]) (Ev.now _), fun e => ⟨by rw [← tl]; exact bne_iff_ne.1 e, by simp⟩⟩
  | c :: t, pre, h => by
    obtain ⟨b, hb, hg⟩ := stok_l s hs t (pre ++ [c]) (mid_next h)
    have two : ((∀ k, spec_token.l0 (k + 1) s pre.length = spec_token.l0 k s (pre ++ [c]).length) ∧ good c) ∨ ∀ k, spec_token.l0 (k + 1) s pre.length = some false := by
      have key : ∀ (z : Int), ((∀ k, spec_token.l0 (k + 1) s pre.length = spec_token.l0 k s (pre ++ [c]).length) ∧ (z ≠ 59 ∧ z ≠ 61 ∧ z ≠ 32 ∧ z ≠ 34)) ∨ (∀ k, spec_token.l0 (k + 1) s pre.length = some false) ∨ z ≠ (c.toNat : Int) := by
        intro z
        by_cases hz : z = (c.toNat : Int)
        · simp only [spec_token.l0]
          have e1 : ((pre.length : Int) < (s.size : Int)) = True := eq_true (sz_mid h)
          have e2 : (0 ≤ (pre.length : Int)) = True := eq_true (by omega)
          simp only [e1, e2, if_true, bt_mid h, wrap_mid h hs, ← hz]
          clear hb hg hz
          by_cases c1 : z < 97 <;> by_cases c2 : z < 65 <;> by_cases c3 : z < 48 <;> by_cases c4 : z > 57 <;> by_cases c5 : z > 90 <;> by_cases c6 : z > 122 <;> simp only [c1, c2, c3, c4, c5, c6, if_true, if_false] <;> first
            | (exact .inl ⟨fun _ => rfl, by omega⟩)
            | (exact .inl ⟨fun _ => trivial, by omega⟩)
            | (exact .inr (.inl fun _ => trivial))
            | (exact .inr (.inl fun _ => rfl))
            | (by_cases d1 : z = 45
               · exact .inl ⟨fun k => by simp [d1], by omega⟩
               · by_cases d2 : z = 46
                 · exact .inl ⟨fun k => by simp [d2], by omega⟩
                 · by_cases d3 : z = 95
                   · exact .inl ⟨fun k => by simp [d3], by omega⟩
                   · by_cases d4 : z = 126
                     · exact .inl ⟨fun k => by simp [d4], by omega⟩
                     · exact .inr (.inl fun k => by simp [d1, d2, d3, d4]))
        · exact .inr (.inr hz)
      rcases key (c.toNat : Int) with ⟨h1, h2⟩ | h1 | h1
      · exact .inl ⟨h1, good_of h2⟩
      · exact .inr h1
      · exact absurd rfl h1
    rcases two with ⟨h1, h2⟩ | h1
    · exact ⟨b, Ev.step h1 hb, fun e => ⟨(hg e).1, fun x hx => (List.mem_cons.1 hx).elim (fun e2 => by rw [e2]; exact h2) (fun e2 => (hg e).2 x e2)⟩⟩
    · exact ⟨false, Ev.step (f := fun _ => some false) h1 (Ev.now _), fun e => by cases e⟩
theorem stok (s : ByteArray) (hs : s.size ≤ 140737488351232) : ∃ b, Ev (fun k => spec_token.f k s) b ∧ (b = true → gtok (L s)) := stok_l s hs (L s) [] rfl
theorem ckText_snoc : ∀ (l : List En) (x : En), ckText (l ++ [x]) = ckText l ++ (if l = [] then [] else [59, 32]) ++ itemC x
  | [], x => by simp [ckText]
  | y :: r, x => by
    by_cases h : r = []
    · subst h; simp [ckText]
    · rw [List.cons_append, ckText, ckText_snoc r x]
      simp [ckText, h]
end Go.Proofs.Ytipmmjbjgbfgjaa.SpA
