/- Cookies: tokens; cookies that are written are read as they were. No program in sight. -/
import Derived.Test.YtipmmjbjgbfgjaaQ5
import Derived.Test.YtipmmjbjgbfgjaaCk10
import Derived.Test.YtipmmjbjgbfgjaaCk6
import Derived.Test.YtipmmjbjgbfgjaaSpHo
import Derived.Test.YtipmmjbjgbfgjaaSpArB
namespace Go.Proofs.Ytipmmjbjgbfgjaa.SpA
open Go.RowKit Go.Proofs.Ytipmmjbjgbfgjaa.Q Go.Proofs.YtipmmjbjgbfgjaaW.PrintWords Go.Proofs.YtipmmjbjgbfgjaaW.PrintLast Go.Proofs.YtipmmjbjgbfgjaaKit
set_option linter.unusedVariables false
set_option linter.unusedSimpArgs false
/-- A token's byte, as far as it matters here. -/
def good (c : UInt8) : Prop := c ≠ 59 ∧ c ≠ 61 ∧ c ≠ 32 ∧ c ≠ 34
def gtok (l : List UInt8) : Prop := l ≠ [] ∧ ∀ c ∈ l, good c
theorem good_of {c : UInt8} (h : (c.toNat : Int) ≠ 59 ∧ (c.toNat : Int) ≠ 61 ∧ (c.toNat : Int) ≠ 32 ∧ (c.toNat : Int) ≠ 34) : good c :=
  ⟨fun e => h.1 (by rw [e]; rfl), fun e => h.2.1 (by rw [e]; rfl), fun e => h.2.2.1 (by rw [e]; rfl), fun e => h.2.2.2 (by rw [e]; rfl)⟩
theorem tok_l (s : ByteArray) (hs : s.size ≤ 140737488351232) : ∀ (suf pre : List UInt8), L s = pre ++ suf → ∃ b, Ev (fun k => laws_token.l0 k s s.size pre.length) b ∧ (b = true → L s ≠ [] ∧ ∀ c ∈ suf, good c)
  | [], pre, h => ⟨_, Ev.step (f := fun _ => some (s.toList != [])) (fun k => by simp only [laws_token.l0]; rw [if_neg (sz_not h)]) (Ev.now _), fun e => ⟨by rw [← tl]; exact bne_iff_ne.1 e, by simp⟩⟩
  | c :: t, pre, h => by
    have no : (∀ k, laws_token.l0 (k + 1) s s.size pre.length = some false) → ∃ b, Ev (fun k => laws_token.l0 k s s.size pre.length) b ∧ (b = true → L s ≠ [] ∧ ∀ x ∈ c :: t, good x) := fun hk => ⟨false, Ev.step (f := fun _ => some false) hk (Ev.now _), fun e => by cases e⟩
    by_cases h1 : (c.toNat : Int) ≤ 32
    · refine no fun k => ?_
      simp only [laws_token.l0]
      rw [if_pos (sz_mid h), if_pos (by omega), if_pos (sz_mid h), bt_mid h, if_pos h1]
    by_cases h2 : (c.toNat : Int) > 126
    · refine no fun k => ?_
      simp only [laws_token.l0]
      rw [if_pos (sz_mid h), if_pos (by omega), if_pos (sz_mid h), bt_mid h, if_neg h1, if_pos h2]
    have hh := holds (⟨#[61, 59, 44, 34, 92]⟩ : ByteArray) (c.toNat : Int) (by decide)
    have step : ∀ k, laws_token.l0 (k + 1) s s.size pre.length = (laws_holds.f k (⟨#[61, 59, 44, 34, 92]⟩ : ByteArray) (c.toNat : Int)).bind fun b => if b = true then some false else laws_token.l0 k s s.size (pre ++ [c]).length := fun k => by
      simp only [laws_token.l0]
      rw [if_pos (sz_mid h), if_pos (by omega), if_pos (sz_mid h), bt_mid h, if_neg h1, if_neg h2, wrap_mid h hs]
    obtain ⟨b, hb, hg⟩ := tok_l s hs t (pre ++ [c]) (mid_next h)
    by_cases h3 : ((L (⟨#[61, 59, 44, 34, 92]⟩ : ByteArray)).any fun x => decide ((x.toNat : Int) = (c.toNat : Int))) = true
    · rw [h3] at hh
      exact ⟨false, Ev.step step (Ev.call hh (Ev.pos rfl (Ev.now _))), fun e => by cases e⟩
    · rw [Bool.eq_false_iff.2 h3] at hh
      refine ⟨b, Ev.step step (Ev.call hh (Ev.neg (by decide) hb)), fun e => ⟨(hg e).1, fun x hx => ?_⟩⟩
      rcases List.mem_cons.1 hx with rfl | hx
      · have h4 : ∀ y ∈ L (⟨#[61, 59, 44, 34, 92]⟩ : ByteArray), (y.toNat : Int) ≠ (x.toNat : Int) := fun y hy e2 => h3 (List.any_eq_true.2 ⟨y, hy, decide_eq_true e2⟩)
        have m : ∀ y : UInt8, y ∈ ([61, 59, 44, 34, 92] : List UInt8) → (y.toNat : Int) ≠ (x.toNat : Int) := h4
        refine good_of ⟨fun e2 => m 59 (by decide) (by rw [e2]; rfl), fun e2 => m 61 (by decide) (by rw [e2]; rfl), by omega, fun e2 => m 34 (by decide) (by rw [e2]; rfl)⟩
      · exact (hg e).2 x hx
theorem tok (s : ByteArray) (hs : s.size ≤ 140737488351232) : ∃ b, Ev (fun k => laws_token.f k s) b ∧ (b = true → gtok (L s)) := tok_l s hs (L s) [] rfl
theorem trL_good {l : List UInt8} (h : ∀ c ∈ l, good c) : trL l = l := by
  cases l with
  | nil => rfl
  | cons c t => rw [trL_cons, if_neg (h c (by simp)).2.2.1]
theorem trR_good {l : List UInt8} (h : ∀ c ∈ l, good c) : trR l = l := by
  rcases List.eq_nil_or_concat l with rfl | ⟨m, d, rfl⟩
  · rfl
  · rw [List.concat_eq_append, trR_snoc, if_neg (h d (by simp)).2.2.1]
theorem dcK_good {l : List UInt8} (h : ∀ c ∈ l, good c) : dcK l = l := by rw [dcK, trL_good h, trR_good h]
theorem dcV_good {l : List UInt8} (h : ∀ c ∈ l, good c) : dcV l = l := by
  rw [dcV, trL_good h, trR_good h, unq, if_neg]
  rintro ⟨_, h2, _⟩
  exact (h 34 (List.mem_of_mem_head? (by rw [h2]; rfl))).2.2.2 rfl
theorem dcK_sp (l : List UInt8) : dcK (32 :: l) = dcK l := by rw [dcK, trL_cons, if_pos rfl]; rfl
/-- What stands ahead of a cookie: nothing, or a blank. -/
def isPre (p : List UInt8) : Prop := p = [] ∨ p = [32]
theorem part_good {pre k v : List UInt8} (hp : isPre pre) (hk : gtok k) (hv : gtok v) : Q.keyC (pre ++ k ++ 61 :: v) = k ∧ Q.valC (pre ++ k ++ 61 :: v) = v := by
  have h61 : (61 : UInt8) ∉ pre ++ k := by
    simp only [List.mem_append, not_or]
    refine ⟨?_, fun h => (hk.2 _ h).2.1 rfl⟩
    rcases hp with rfl | rfl <;> decide
  obtain ⟨h1, h2⟩ := partC_two (p := pre ++ k ++ 61 :: v) rfl h61
  rw [h1, h2, dcV_good hv.2]
  refine ⟨?_, rfl⟩
  rcases hp with rfl | rfl
  · exact dcK_good hk.2
  · show dcK (32 :: k) = k
    rw [dcK_sp, dcK_good hk.2]
theorem item_eq {x : En} (hk : gtok x.1) : itemC x = x.1 ++ 61 :: x.2.1 := by rw [itemC, if_neg hk.1]; simp
theorem no59 {pre : List UInt8} {x : En} (hp : isPre pre) (hk : gtok x.1) (hv : gtok x.2.1) : (59 : UInt8) ∉ pre ++ x.1 ++ 61 :: x.2.1 := by
  simp only [List.mem_append, List.mem_cons, not_or]
  refine ⟨⟨?_, fun h => (hk.2 _ h).1 rfl⟩, by decide, fun h => (hv.2 _ h).1 rfl⟩
  rcases hp with rfl | rfl <;> decide
/-- Cookies that are written are read as they were. -/
theorem cks_text : ∀ (fin : List En) (pre : List UInt8), isPre pre → fin ≠ [] → (∀ x ∈ fin, gtok x.1 ∧ gtok x.2.1) → cksL (pre ++ ckText fin) = fin.map fun x => (x.1, x.2.1, false)
  | [], _, _, h, _ => absurd rfl h
  | [x], pre, hp, _, hg => by
    obtain ⟨hk, hv⟩ := hg x (by simp)
    obtain ⟨h1, h2⟩ := part_good hp hk hv
    have hne : pre ++ x.1 ++ 61 :: x.2.1 ≠ [] := by simp
    have he : pre ++ ckText [x] = pre ++ x.1 ++ 61 :: x.2.1 := by simp [ckText, item_eq hk]
    obtain ⟨f1, f2⟩ := fstC_all (no59 hp hk hv)
    rw [he, cksL_step _ hne, f2, cksL_nil, entC, f1, h1, h2, if_neg (fun e => hk.1 e.1)]
    rfl
  | x :: y :: r, pre, hp, _, hg => by
    obtain ⟨hk, hv⟩ := hg x (by simp)
    obtain ⟨h1, h2⟩ := part_good hp hk hv
    have ih := cks_text (y :: r) [32] (.inr rfl) (by simp) (fun z hz => hg z (List.mem_cons_of_mem _ hz))
    have he : pre ++ ckText (x :: y :: r) = (pre ++ x.1 ++ 61 :: x.2.1) ++ 59 :: ([32] ++ ckText (y :: r)) := by
      rw [ckText, item_eq hk, if_neg (by simp)]; simp
    obtain ⟨f1, f2⟩ := fstC_of (q := pre ++ ckText (x :: y :: r)) he (no59 hp hk hv)
    rw [cksL_step _ (by rw [he]; simp), f2, ih, entC, f1, h1, h2, if_neg (fun e => hk.1 e.1)]
    rfl
theorem ckText_le (B : Nat) : ∀ (fin : List En), (∀ x ∈ fin, x.1.length ≤ B ∧ x.2.1.length ≤ B) → (ckText fin).length ≤ fin.length * (2 * B + 3)
  | [], _ => by simp [ckText]
  | x :: r, h => by
    have ih := ckText_le B r (fun z hz => h z (List.mem_cons_of_mem _ hz))
    have h1 := h x (by simp)
    have h2 : (itemC x).length ≤ 2 * B + 1 := by unfold itemC; split <;> simp <;> omega
    have h3 : (if r = [] then ([] : List UInt8) else [59, 32]).length ≤ 2 := by split <;> simp
    rw [ckText, List.length_append, List.length_append, List.length_cons, Nat.add_mul]
    omega
end Go.Proofs.Ytipmmjbjgbfgjaa.SpA
