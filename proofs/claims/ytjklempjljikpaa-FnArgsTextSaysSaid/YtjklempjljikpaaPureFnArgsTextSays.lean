/- The pure statement of FnArgsTextSays: the text of arguments is what the reference says. -/
import Derived.Test.YtjklempjljikpaaQ20
import Derived.Test.YtjklempjljikpaaStFnArgsTextSays
import Derived.Test.YtjklempjljikpaaSpArB
import Derived.Test.YtjklempjljikpaaSpQs
namespace Go.Proofs.Ytjklempjljikpaa.Pure
open Go.RowKit Go.Proofs.Ytjklempjljikpaa.Q Go.Proofs.YtjklempjljikpaaW.PrintWords Go.Proofs.YtjklempjljikpaaW.PrintLast Go.Proofs.YtjklempjljikpaaKit Go.Proofs.Ytjklempjljikpaa.SpA
set_option linter.unusedVariables false
set_option linter.unusedSimpArgs false
def to62 (x : S36) : S62 := ⟨x.f0, x.f1, x.f2⟩
theorem argsOf_l (l : List S36) (hl : l.length ≤ 4294967296) : ∀ d n, l.length - n = d → n ≤ l.length → Ev (fun k => laws_argsOf.l0 k ((l.take n).map to62) l (l.length : Int) (n : Int)) (l.map to62) := by
  intro d
  induction d with
  | zero =>
    intro n hd hn
    have : n = l.length := by omega
    subst this
    refine Ev.step (f := fun _ => some (l.map to62)) (fun k => ?_) (Ev.now _)
    simp only [laws_argsOf.l0]
    rw [if_neg (by omega), List.take_length]
  | succ d ih =>
    intro n hd hn
    have hw : wrap64 ((n : Int) + 1) = ((n + 1 : Nat) : Int) := by unfold wrap64; omega
    have ht : (l.take (n + 1)).map to62 = (l.take n).map to62 ++ [⟨(l[n]'(by omega)).f0, (l[n]'(by omega)).f1, (l[n]'(by omega)).f2⟩] := by
      rw [List.take_add_one, List.getElem?_eq_getElem (by omega), List.map_append]; rfl
    have h1 := ih (n + 1) (by omega) (by omega)
    rw [ht] at h1
    refine Ev.step (fun k => ?_) h1
    simp only [laws_argsOf.l0]
    rw [if_pos (by omega), if_pos (by omega), if_pos (by omega), if_pos (by simp; omega), rd36 l n (by omega), hw]
theorem rd62 (l : List S36) (n : Nat) (h : n < l.length) : rd_T62 (l.map to62) (n : Int) = to62 l[n] := by unfold rd_T62; rw [Int.toNat_natCast, List.getD_eq_getElem?_getD, List.getElem?_map, List.getElem?_eq_getElem h]; rfl
/-- The text up to an argument. -/
def upto (l : List En) : List UInt8 := textL l
theorem textL_snoc : ∀ (l : List En) (x : En), textL (l ++ [x]) = textL l ++ (if l = [] then [] else [38]) ++ itemT x
  | [], x => by simp [textL]
  | y :: r, x => by
    by_cases h : r = []
    · subst h; simp [textL]
    · rw [List.cons_append, textL, textL_snoc r x]
      simp [textL, h]
theorem esc3 (s : List UInt8) : (s.flatMap escA).length ≤ 3 * s.length := by
  induction s with
  | nil => simp
  | cons c t ih => have := escA_len c; simp only [List.flatMap_cons, List.length_append, List.length_cons]; omega
theorem text_l (l : List S36) (hl : l.length ≤ 20) (hs : ∀ x ∈ l, x.f0.size ≤ 200 ∧ x.f1.size ≤ 200) (hg : ∀ x ∈ l, x.f2 = true → x.f1.toList = []) : ∀ d n (acc : ByteArray), l.length - n = d → n ≤ l.length → L acc = textL ((l.take n).map en36) →
    ∃ r, Ev (fun k => spec_ArgsText.l0 k acc (l.map to62) (l.length : Int) (n : Int)) r ∧ L r = textL (l.map en36) := by
  intro d
  induction d with
  | zero =>
    intro n acc hd hn ha
    have : n = l.length := by omega
    subst this
    rw [List.take_length] at ha
    refine ⟨acc, Ev.step (f := fun _ => some acc) (fun k => ?_) (Ev.now _), ha⟩
    simp only [spec_ArgsText.l0]
    rw [if_neg (by omega)]
  | succ d ih =>
    intro n acc hd hn ha
    have hnl : n < l.length := by omega
    have hw : wrap64 ((n : Int) + 1) = ((n + 1 : Nat) : Int) := by unfold wrap64; omega
    obtain ⟨x, hx⟩ : ∃ x, x = l[n] := ⟨_, rfl⟩
    have hxm : x ∈ l := by rw [hx]; exact List.getElem_mem hnl
    have hsx := hs x hxm
    have hlm : ((l.map to62).length : Int) = (l.length : Int) := by rw [List.length_map]
    have htk : (l.take (n + 1)).map en36 = (l.take n).map en36 ++ [en36 x] := by
      rw [List.take_add_one, List.getElem?_eq_getElem hnl, List.map_append, hx]; rfl
    have hb := textL_le 200 ((l.take n).map en36) (fun y hy => by
      obtain ⟨z, hz, rfl⟩ := List.mem_map.1 hy
      have h1 := hs z (List.mem_of_mem_take hz)
      rw [size_L, size_L] at h1
      refine ⟨h1.1, ?_⟩
      show (valIf z.f2 z.f1.data.toList).length ≤ _
      unfold valIf
      split
      · simp
      · exact h1.2)
    have hacc : acc.size ≤ 24040 := by
      rw [size_L, ha]
      have h2 : ((l.take n).map en36).length ≤ 20 := by rw [List.length_map, List.length_take]; omega
      have := Nat.mul_le_mul_right (6 * 200 + 2) h2
      omega
    have hk := argS x.f0 (by omega)
    have hv := argS x.f1 (by omega)
    have e0 := esc3 (L x.f0)
    have e1 := esc3 (L x.f1)
    rw [← size_L] at e0 e1
    -- the step behind the ampersand
    have step : ∀ acc2 : ByteArray, acc2.size ≤ 24041 → L acc2 = textL ((l.take n).map en36) ++ (if (l.take n).map en36 = [] then [] else [38]) → ∃ r, Ev (fun k => spec_ArgsText.j1 k acc2 (l.map to62) (l.length : Int) (n : Int) x.f0 x.f1 x.f2) r ∧ L r = textL (l.map en36) := by
      intro acc2 hz ha2
      have hqk : (⟨((L x.f0).flatMap escA).toArray⟩ : ByteArray).size = ((L x.f0).flatMap escA).length := by rw [size_L]
      have hqv : (⟨((L x.f1).flatMap escA).toArray⟩ : ByteArray).size = ((L x.f1).flatMap escA).length := by rw [size_L]
      by_cases h2 : x.f2 = true
      · have hval : en36 x = (L x.f0, [], true) := by
          obtain ⟨a, b, c⟩ := x
          have h2 : c = true := h2
          subst h2
          rfl
        obtain ⟨r, hr, he⟩ := ih (n + 1) (acc2 ++ ⟨((L x.f0).flatMap escA).toArray⟩) (by omega) (by omega) (by
          rw [L_append, ha2, htk, textL_snoc, hval]; simp [itemT])
        refine ⟨r, ?_, he⟩
        refine Ev.step (fun k => by simp only [spec_ArgsText.j1]; rfl) ?_
        refine Ev.call hk (Ev.pos (by omega) (Ev.pos h2 ?_))
        rw [hw]; exact hr
      · have hf : x.f2 = false := by simpa using h2
        have hval : en36 x = (L x.f0, L x.f1, false) := by
          obtain ⟨a, b, c⟩ := x
          have hf : c = false := hf
          subst hf
          rfl
        obtain ⟨r, hr, he⟩ := ih (n + 1) ((acc2 ++ ⟨((L x.f0).flatMap escA).toArray⟩) ++ ((⟨#[61]⟩ : ByteArray) ++ ⟨((L x.f1).flatMap escA).toArray⟩)) (by omega) (by omega) (by
          rw [L_append, L_append, L_append, ha2, htk, textL_snoc, hval]; simp [itemT]; rfl)
        refine ⟨r, ?_, he⟩
        have hz61 : ((⟨#[61]⟩ : ByteArray) ++ (⟨((L x.f1).flatMap escA).toArray⟩ : ByteArray)).size = 1 + (⟨((L x.f1).flatMap escA).toArray⟩ : ByteArray).size := by rw [size_append]; rfl
        refine Ev.step (fun k => by simp only [spec_ArgsText.j1]; rfl) ?_
        refine Ev.call hk (Ev.pos (by omega) (Ev.neg h2 (Ev.call hv (Ev.pos (by omega) (Ev.pos (by omega) ?_)))))
        rw [hw]; exact hr
    by_cases h0 : n = 0
    · subst h0
      obtain ⟨r, hr, he⟩ := step acc (by omega) (by rw [ha]; simp)
      refine ⟨r, Ev.step (fun k => ?_) hr, he⟩
      simp only [spec_ArgsText.l0]
      rw [if_pos (by omega), if_pos (by omega), if_pos (by omega), if_neg (by omega), rd62 l 0 hnl, ← hx]
      rfl
    · obtain ⟨r, hr, he⟩ := step (acc ++ (⟨#[38]⟩ : ByteArray)) (by rw [size_append, show (⟨#[38]⟩ : ByteArray).size = 1 from rfl]; omega) (by
        rw [L_append, ha, if_neg (by intro e; have h3 := congrArg List.length e; simp only [List.length_map, List.length_take, List.length_nil] at h3; omega)])
      refine ⟨r, Ev.step (fun k => ?_) hr, he⟩
      simp only [spec_ArgsText.l0]
      rw [if_pos (by omega), if_pos (by omega), if_pos (by omega), if_pos (by omega), if_pos (by omega), rd62 l n hnl, ← hx]
      rfl
theorem says_l (l : List S36) (hl : l.length ≤ 20) (hs : ∀ x ∈ l, x.f0.size ≤ 200 ∧ x.f1.size ≤ 200) : ∀ d n, l.length - n = d → n ≤ l.length → (∀ j (h : j < l.length), j < n → (l[j].f2 = true → l[j].f1.toList = [])) →
    Ev (fun k => laws_FnArgsTextSays.l0 k l l (l.length : Int) (n : Int)) true := by
  intro d
  induction d with
  | zero =>
    intro n hd hn hp
    have hall : ∀ x ∈ l, x.f2 = true → x.f1.toList = [] := fun x hx => by
      obtain ⟨j, hj, e⟩ := List.getElem_of_mem hx
      rw [← e]
      exact hp j hj (by omega)
    have hb := textL_le 200 (l.map en36) (fun y hy => by
      obtain ⟨z, hz, rfl⟩ := List.mem_map.1 hy
      have h1 := hs z hz
      rw [size_L, size_L] at h1
      refine ⟨h1.1, ?_⟩
      show (valIf z.f2 z.f1.data.toList).length ≤ _
      unfold valIf
      split
      · simp
      · exact h1.2)
    have hb2 : (l.map en36).length * (6 * 200 + 2) ≤ 20 * (6 * 200 + 2) := Nat.mul_le_mul_right _ (by rw [List.length_map]; exact hl)
    obtain ⟨r, hr, he⟩ := text_l l hl hs hall _ 0 ⟨#[]⟩ rfl (Nat.zero_le _) rfl
    have hr2 : Ev (fun k => spec_ArgsText.f k (l.map to62)) r := by
      unfold spec_ArgsText.f
      rw [List.length_map]
      exact hr
    refine Ev.step (f := fun k => (impl_ArgsText.f l).bind fun t259 => ((laws_argsOf.f k l).bind fun t260 => ((spec_ArgsText.f k t260).bind fun t263 => (some (t259.toList == t263.toList))))) (fun k => ?_) ?_
    · simp only [laws_FnArgsTextSays.l0]
      rw [if_neg (by omega)]
    · refine Ev.call (Ev.some (argsText l (by omega) (fun x hx => by have := hs x hx; omega) (by omega))) (Ev.call (argsOf_l l (by omega) _ 0 rfl (Nat.zero_le _)) (Ev.call hr2 ?_))
      refine Ev.same (Ev.now _) ?_
      rw [tl, tl, he]
      simp
  | succ d ih =>
    intro n hd hn hp
    have hw : wrap64 ((n : Int) + 1) = ((n + 1 : Nat) : Int) := by unfold wrap64; omega
    have go : (l[n].f2 = true → l[n].f1.toList = []) → Ev (fun k => laws_FnArgsTextSays.l0 k l l (l.length : Int) ((n + 1 : Nat) : Int)) true := fun h2 => ih (n + 1) (by omega) (by omega) (fun j hj hj2 => by
      by_cases e : j = n
      · subst e; exact h2
      · exact hp j hj (by omega))
    by_cases h2 : l[n].f2 = true
    · by_cases h1 : l[n].f1.toList = ([] : List UInt8)
      · refine Ev.step (fun k => ?_) (go (fun _ => h1))
        simp only [laws_FnArgsTextSays.l0]
        rw [if_pos (by omega), if_pos (by omega), if_pos (by omega), rd36 l n (by omega), if_pos h2, if_pos h1, hw]
      · refine Ev.step (f := fun _ => some true) (fun k => ?_) (Ev.now _)
        simp only [laws_FnArgsTextSays.l0]
        rw [if_pos (by omega), if_pos (by omega), if_pos (by omega), rd36 l n (by omega), if_pos h2, if_neg h1]
    · refine Ev.step (fun k => ?_) (go (fun e => absurd e h2))
      simp only [laws_FnArgsTextSays.l0]
      rw [if_pos (by omega), if_pos (by omega), if_pos (by omega), rd36 l n (by omega), if_neg h2, hw]
theorem FnArgsTextSays : StFnArgsTextSays.Pure := by
  intro l hl hs
  refine Ev.rounds ?_
  unfold laws_FnArgsTextSays.f
  obtain ⟨b, hb, hb2⟩ := fits7 l
  refine Ev.call hb ?_
  cases b with
  | false => exact Ev.neg (by decide) (Ev.now _)
  | true =>
    refine Ev.pos rfl (Ev.call reads (Ev.pos rfl ?_))
    obtain ⟨c, hc, hc2⟩ := few l (hb2 rfl)
    refine Ev.call hc ?_
    cases c with
    | false => exact Ev.neg (by decide) (Ev.now _)
    | true => exact Ev.pos rfl (says_l l (hc2 rfl).1 (hc2 rfl).2 _ 0 rfl (Nat.zero_le _) (fun _ _ h => absurd h (Nat.not_lt_zero _)))
end Go.Proofs.Ytjklempjljikpaa.Pure
