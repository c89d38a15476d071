/- The pure statement of FnCookiesBack: cookies that are written are read as they were. -/
import Derived.Test.YtipmmjbjgbfgjaaQ5
import Derived.Test.YtipmmjbjgbfgjaaQ8
import Derived.Test.YtipmmjbjgbfgjaaQ9
import Derived.Test.YtipmmjbjgbfgjaaStFnCookiesBack
import Derived.Test.YtipmmjbjgbfgjaaSpCs
namespace Go.Proofs.Ytipmmjbjgbfgjaa.Pure
open Go.RowKit Go.Proofs.Ytipmmjbjgbfgjaa.Q Go.Proofs.YtipmmjbjgbfgjaaW.PrintWords Go.Proofs.YtipmmjbjgbfgjaaW.PrintLast Go.Proofs.YtipmmjbjgbfgjaaKit Go.Proofs.Ytipmmjbjgbfgjaa.SpA
set_option linter.unusedVariables false
set_option linter.unusedSimpArgs false
theorem cookiesOf (s : ByteArray) (h : s.size ≤ 2147483647) : impl_RequestCookies.f s = some ((cksL (L s)).map arS) := by unfold impl_RequestCookies.f; rw [if_pos h]
theorem cookiesText (l : List S40) (h1 : l.length ≤ 2147483647) (h2 : ∀ x ∈ l, x.f0.size ≤ 2147483647 ∧ x.f1.size ≤ 2147483647) (h3 : (ckText (l.map en36)).length ≤ 1000000000000) : impl_CookiesText.f l = some ⟨(ckText (l.map en36)).toArray⟩ := by unfold impl_CookiesText.f; rw [if_pos ⟨h1, h2, h3⟩]
set_option maxRecDepth 100000 in
theorem ab_cks : cksL (L (⟨#[97, 61, 98]⟩ : ByteArray)) = [([97], [98], false)] := by decide +kernel
theorem l2_ok (l t : List S40) (hl : l.length ≤ 20) (ht : t.length = l.length) (he : ∀ j (h1 : j < t.length) (h2 : j < l.length), t[j].f0 = l[j].f0 ∧ t[j].f1 = l[j].f1) : ∀ d n, l.length - n = d → n ≤ l.length → Ev (fun k => laws_FnCookiesBack.l2 k l t (t.length : Int) (n : Int)) true := by
  intro d
  induction d with
  | zero =>
    intro n hd hn
    refine Ev.step (f := fun _ => some true) (fun k => ?_) (Ev.now _)
    simp only [laws_FnCookiesBack.l2]
    rw [if_neg (by omega)]
  | succ d ih =>
    intro n hd hn
    have hw : wrap64 ((n : Int) + 1) = ((n + 1 : Nat) : Int) := by unfold wrap64; omega
    obtain ⟨e1, e2⟩ := he n (by omega) (by omega)
    refine Ev.step (fun k => ?_) (ih (n + 1) (by omega) (by omega))
    simp only [laws_FnCookiesBack.l2]
    rw [if_pos (by omega), if_pos (by omega), if_pos (by omega), if_pos (by omega), rd36 t n (by omega), rd36 l n (by omega), if_pos (by rw [e1]), if_pos (by rw [e2]), hw]
theorem l1_ok (l : List S40) (hl : l.length ≤ 20) (n : Nat) (hn : n < l.length) (a b : ByteArray) (c : Bool) (go : Ev (fun k => laws_FnCookiesBack.l0 k l l (l.length : Int) ((n + 1 : Nat) : Int)) true) : ∀ d m, n - m = d → m ≤ n → Ev (fun k => laws_FnCookiesBack.l1 k l l (l.length : Int) (n : Int) (n : Int) (m : Int) a b c) true := by
  have hw : wrap64 ((n : Int) + 1) = ((n + 1 : Nat) : Int) := by unfold wrap64; omega
  intro d
  induction d with
  | zero =>
    intro m hd hm
    refine Ev.step (fun k => ?_) go
    simp only [laws_FnCookiesBack.l1]
    rw [if_neg (by omega), hw]
  | succ d ih =>
    intro m hd hm
    have hwm : wrap64 ((m : Int) + 1) = ((m + 1 : Nat) : Int) := by unfold wrap64; omega
    by_cases h : l[m].f0.toList = a.toList
    · refine Ev.step (f := fun _ => some true) (fun k => ?_) (Ev.now _)
      simp only [laws_FnCookiesBack.l1]
      rw [if_pos (by omega), if_pos (by omega), if_pos (by omega), rd36 l m (by omega), if_pos h]
    · refine Ev.step (fun k => ?_) (ih (m + 1) (by omega) (by omega))
      simp only [laws_FnCookiesBack.l1]
      rw [if_pos (by omega), if_pos (by omega), if_pos (by omega), rd36 l m (by omega), if_neg h, hwm]
theorem en_gtok {x : S40} (h : gtok (L x.f0) ∧ gtok (L x.f1) ∧ x.f2 = false) : gtok (en36 x).1 ∧ gtok (en36 x).2.1 := by
  refine ⟨h.1, ?_⟩
  show gtok (valIf x.f2 x.f1.data.toList)
  rw [h.2.2]; exact h.2.1
theorem ckl_le (l : List S40) (hl : l.length ≤ 20) (hs : ∀ x ∈ l, x.f0.size ≤ 200 ∧ x.f1.size ≤ 200) : (ckText (l.map en36)).length ≤ 8060 := by
  have h := ckText_le 200 (l.map en36) (fun y hy => by
    obtain ⟨x, hx, rfl⟩ := List.mem_map.1 hy
    have h1 := hs x hx
    rw [size_L, size_L] at h1
    refine ⟨h1.1, ?_⟩
    show (valIf x.f2 x.f1.data.toList).length ≤ _
    unfold valIf
    split
    · simp
    · exact h1.2)
  have h2 : (l.map en36).length ≤ 20 := by rw [List.length_map]; exact hl
  have h3 := Nat.mul_le_mul_right (2 * 200 + 3) h2
  omega
theorem back_l (l : List S40) (hl : l.length ≤ 20) (hs : ∀ x ∈ l, x.f0.size ≤ 200 ∧ x.f1.size ≤ 200) : ∀ d n, l.length - n = d → n ≤ l.length → (∀ j (h : j < l.length), j < n → gtok (L l[j].f0) ∧ gtok (L l[j].f1) ∧ l[j].f2 = false) →
    Ev (fun k => laws_FnCookiesBack.l0 k l l (l.length : Int) (n : Int)) true := by
  intro d
  induction d with
  | zero =>
    intro n hd hn hp
    have hall : ∀ x ∈ l, gtok (L x.f0) ∧ gtok (L x.f1) ∧ x.f2 = false := fun x hx => by
      obtain ⟨j, hj, e⟩ := List.getElem_of_mem hx
      rw [← e]
      exact hp j hj (by omega)
    have hb := ckl_le l hl hs
    have hsz : (⟨(ckText (l.map en36)).toArray⟩ : ByteArray).size = (ckText (l.map en36)).length := by rw [size_L]
    have hcks : cksL (ckText (l.map en36)) = (l.map en36).map fun x => (x.1, x.2.1, false) := by
      by_cases h0 : l = []
      · subst h0; rfl
      · exact cks_text (l.map en36) [] (.inl rfl) (by simpa using h0) (fun y hy => by
          obtain ⟨x, hx, rfl⟩ := List.mem_map.1 hy
          exact en_gtok (hall x hx))
    have hC : impl_RequestCookies.f ⟨(ckText (l.map en36)).toArray⟩ = some (((l.map en36).map fun x => (x.1, x.2.1, false)).map arS) := by
      rw [cookiesOf _ (by omega)]
      show some ((cksL (ckText (l.map en36))).map arS) = _
      rw [hcks]
    refine Ev.step (f := fun k => (impl_CookiesText.f l).bind fun t191 => (impl_RequestCookies.f t191).bind fun t192 => if (t192.length : Int) = (l.length : Int) then laws_FnCookiesBack.l2 k l t192 (t192.length : Int) 0 else some false) (fun k => ?_) ?_
    · simp only [laws_FnCookiesBack.l0]
      rw [if_neg (by omega)]
    · refine Ev.call (Ev.some (cookiesText l (by omega) (fun x hx => by have := hs x hx; omega) (by omega))) (Ev.call (Ev.some hC) (Ev.pos (by simp) ?_))
      refine l2_ok l _ hl (by simp) (fun j h1 h2 => ?_) _ 0 rfl (Nat.zero_le _)
      simp only [List.getElem_map]
      have hj := hall l[j] (List.getElem_mem h2)
      refine ⟨rfl, ?_⟩
      show (⟨(valIf l[j].f2 l[j].f1.data.toList).toArray⟩ : ByteArray) = _
      rw [hj.2.2]
      rfl
  | succ d ih =>
    intro n hd hn hp
    have hnl : n < l.length := by omega
    have hsn := hs l[n] (List.getElem_mem hnl)
    have go : gtok (L l[n].f0) ∧ gtok (L l[n].f1) ∧ l[n].f2 = false → Ev (fun k => laws_FnCookiesBack.l0 k l l (l.length : Int) ((n + 1 : Nat) : Int)) true := fun h1 => ih (n + 1) (by omega) (by omega) (fun j hj hj2 => by
      by_cases e : j = n
      · subst e; exact h1
      · exact hp j hj (by omega))
    have j2t : ∀ a b c, Ev (fun k => laws_FnCookiesBack.j2 k l (n : Int) l (l.length : Int) (n : Int) true a b c) true := fun a b c =>
      Ev.step (f := fun _ => some true) (fun k => by simp only [laws_FnCookiesBack.j2]; rw [if_pos trivial]) (Ev.now _)
    obtain ⟨b0, hb0, hg0⟩ := tok l[n].f0 (by omega)
    obtain ⟨b1, hb1, hg1⟩ := tok l[n].f1 (by omega)
    refine Ev.step (f := fun k => (laws_token.f k l[n].f0).bind fun t188 => if t188 = true then (laws_token.f k l[n].f1).bind fun t189 => if t189 = true then laws_FnCookiesBack.j2 k l (n : Int) l (l.length : Int) (n : Int) l[n].f2 l[n].f0 l[n].f1 l[n].f2 else laws_FnCookiesBack.j2 k l (n : Int) l (l.length : Int) (n : Int) true l[n].f0 l[n].f1 l[n].f2 else laws_FnCookiesBack.j2 k l (n : Int) l (l.length : Int) (n : Int) true l[n].f0 l[n].f1 l[n].f2) (fun k => ?_) (Ev.call hb0 ?_)
    · simp only [laws_FnCookiesBack.l0]
      rw [if_pos (by omega), if_pos (by omega), if_pos (by omega), rd36 l n (by omega)]
    cases b0 with
    | false => exact Ev.neg (by decide) (j2t _ _ _)
    | true =>
      refine Ev.pos rfl (Ev.call hb1 ?_)
      cases b1 with
      | false => exact Ev.neg (by decide) (j2t _ _ _)
      | true =>
        refine Ev.pos rfl ?_
        by_cases h2 : l[n].f2 = true
        · rw [h2]; exact j2t _ _ _
        · have hf : l[n].f2 = false := by simpa using h2
          have h1 := l1_ok l hl n hnl l[n].f0 l[n].f1 l[n].f2 (go ⟨hg0 rfl, hg1 rfl, hf⟩) _ 0 rfl (Nat.zero_le _)
          refine Ev.step (fun k => ?_) h1
          simp only [laws_FnCookiesBack.j2]
          rw [if_neg h2]
          rfl
theorem FnCookiesBack : StFnCookiesBack.Pure := by
  intro l hl hs
  refine Ev.rounds ?_
  unfold laws_FnCookiesBack.f
  obtain ⟨b, hb, hb2⟩ := fits7 l
  refine Ev.call hb ?_
  cases b with
  | false => exact Ev.neg (by decide) (Ev.now _)
  | true =>
    have hab := cookiesOf (⟨#[97, 61, 98]⟩ : ByteArray) (by decide)
    rw [ab_cks] at hab
    refine Ev.pos rfl (Ev.call (Ev.some hab) (Ev.pos rfl (Ev.pos (by decide) (Ev.pos (by rw [tl]; rfl) ?_))))
    have hj : ((rd_T40 (List.map arS [([97], [98], false)]) 0).f1.toList != ([98] : List UInt8)) = false := by rw [tl]; rfl
    rw [hj]
    obtain ⟨c, hc, hc2⟩ := few l (hb2 rfl)
    refine Ev.step (f := fun k => (laws_few.f k l).bind fun t185 => if t185 = true then laws_FnCookiesBack.l0 k l l (l.length : Int) 0 else some true) (fun k => ?_) (Ev.call hc ?_)
    · simp only [laws_FnCookiesBack.j0]
      rw [if_neg (by decide)]
    cases c with
    | false => exact Ev.neg (by decide) (Ev.now _)
    | true => exact Ev.pos rfl (back_l l (hc2 rfl).1 (hc2 rfl).2 _ 0 rfl (Nat.zero_le _) (fun _ _ h => absurd h (Nat.not_lt_zero _)))
end Go.Proofs.Ytipmmjbjgbfgjaa.Pure
