/- The pure statement of FnPathPlain: a path of words stays as it is. -/
import Derived.Test.YtjklempjljikpaaQ13
import Derived.Test.YtjklempjljikpaaSpCln
import Derived.Test.YtjklempjljikpaaStFnPathPlain
namespace Go.Proofs.Ytjklempjljikpaa.Pure
open Go.RowKit Go.Proofs.Ytjklempjljikpaa.Q Go.Proofs.YtjklempjljikpaaW.PrintWords Go.Proofs.YtjklempjljikpaaW.PrintLast Go.Proofs.YtjklempjljikpaaKit Go.Proofs.Ytjklempjljikpaa.SpA
theorem plain_end (s : ByteArray) (S : List (List UInt8)) (last : List UInt8) (hs : s.size ≤ 2000) (hL : L s = Cl.joinS (S ++ [last])) (hS : ∀ q ∈ S ++ [last], Wd q) :
    Ev (fun k => laws_FnPathPlain.j1 k s false) true := by
  have hl := hS last (by simp)
  have hS' : ∀ q ∈ S, Wd q := fun q hq => hS q (by simp [hq])
  have n1 : norm (L s) = L s := by rw [hL]; exact norm_words S last hS' hl.slash hl.pct hl.good.2.2
  have e2 : L (s ++ ⟨#[47]⟩) = Cl.joinS ((S ++ [last]) ++ [[]]) := by rw [L_append, hL, Cl.joinS_app (S ++ [last]), Cl.joinS_cons, Cl.joinS_nil]; rfl
  have n2 : norm (L (s ++ ⟨#[47]⟩)) = L (s ++ ⟨#[47]⟩) := by rw [e2]; exact norm_words (S ++ [last]) [] hS (by simp) (by simp) (by simp)
  have hz : (s ++ ⟨#[47]⟩ : ByteArray).size ≤ 2147483647 := by rw [size_append, show (⟨#[47]⟩ : ByteArray).size = 1 from rfl]; omega
  refine Ev.step (fun k => by simp only [laws_FnPathPlain.j1]; rw [if_neg (by decide)]) ?_
  refine Ev.call (Ev.some (cleanPath s (by omega))) (Ev.pos (by rw [tl, tl, n1]) (Ev.pos (show s.size + 1 ≤ 9223372036854775807 by omega) ?_))
  refine Ev.call (Ev.some (cleanPath _ hz)) (Ev.some ?_)
  rw [tl, tl, n2]
  simp
theorem plain_l (xs : List ByteArray) (hx : xs.length ≤ 2147483647) (hz : ∀ p ∈ xs, p.size ≤ 2147483647) : ∀ (suf pre : List ByteArray) (acc : ByteArray), xs = pre ++ suf → L acc = Cl.joinS (pre.map L) → (∀ p ∈ pre, Wd (L p)) → acc.size ≤ pre.length * 2147483648 →
    Ev (fun k => laws_FnPathPlain.l0 k acc xs xs.length pre.length) true
  | [], pre, acc, h, ha, hw, hl => by
    have hend : Ev (fun k => if acc.toList = ([] : List UInt8) then laws_FnPathPlain.j1 k acc true else laws_FnPathPlain.j1 k acc (decide ((acc.size : Int) > 2000))) true := by
      have htrue : Ev (fun k => laws_FnPathPlain.j1 k acc true) true := Ev.step (f := fun _ => some true) (fun k => by simp only [laws_FnPathPlain.j1]; rw [if_pos trivial]) (Ev.now _)
      by_cases hn : acc.toList = []
      · exact Ev.pos hn htrue
      · refine Ev.neg hn ?_
        by_cases hb : (acc.size : Int) > 2000
        · rw [decide_eq_true hb]; exact htrue
        · rw [decide_eq_false hb]
          have hpre : pre.map L ≠ [] := by
            intro e
            rw [tl, ha, e] at hn
            exact hn rfl
          have hc := (List.dropLast_concat_getLast hpre).symm
          refine plain_end acc (pre.map L).dropLast ((pre.map L).getLast hpre) (by omega) (by rw [ha, ← hc]) ?_
          rw [← hc]
          intro q hq
          obtain ⟨p, hp, rfl⟩ := List.mem_map.1 hq
          exact hw p hp
    refine Ev.step (fun k => ?_) hend
    simp only [laws_FnPathPlain.l0]
    rw [if_neg (ln_not h)]
  | p :: t, pre, acc, h, ha, hw, hl => by
    have e : rdOf ByteArray.empty xs pre.length = p := get_mid h _
    have hp := hz p (by rw [h]; simp)
    have hlen : pre.length + (t.length + 1) ≤ 2147483647 := by rw [h] at hx; simpa using hx
    have hacc : acc.size ≤ 2147483647 * 2147483648 := Nat.le_trans hl (Nat.mul_le_mul_right _ (by omega))
    by_cases c : ((L p).all isWordB && (L p != [])) = true
    · have ih := plain_l xs hx hz t (pre ++ [p]) (acc ++ ((⟨#[47]⟩ : ByteArray) ++ p)) (by rw [h]; simp) (by rw [L_append, L_append, ha, List.map_append, Cl.joinS_app, List.map_cons, List.map_nil, Cl.joinS_cons, Cl.joinS_nil]; simp [L]) (fun q hq => by
        rw [List.mem_append] at hq
        rcases hq with hq | hq
        · exact hw q hq
        · rw [List.mem_singleton.1 hq]; exact wd_of _ c) (by rw [size_append, size_append, show (⟨#[47]⟩ : ByteArray).size = 1 from rfl, List.length_append, List.length_singleton, Nat.add_mul]; omega)
      rw [show ((pre ++ [p]).length : Int) = wrap64 ((pre.length : Int) + 1) from (wrap_lmid h (by omega)).symm] at ih
      have hcall := word p (by omega)
      rw [c] at hcall
      refine Ev.step (f := fun k => (laws_word.f k p).bind fun t242 => if t242 = true then (if 1 + p.size ≤ 9223372036854775807 then (if acc.size + (1 + p.size) ≤ 9223372036854775807 then (laws_FnPathPlain.l0 k (acc ++ ((⟨#[47]⟩ : ByteArray) ++ p)) xs xs.length (wrap64 ((pre.length : Int) + 1))) else none) else none) else some true) (fun k => ?_) (Ev.call hcall (Ev.pos rfl (Ev.pos (by omega) (Ev.pos (by omega) ih))))
      simp only [laws_FnPathPlain.l0]
      rw [if_pos (ln_mid h), if_pos (by omega), if_pos (ln_mid h), e]
    · have hcall := word p (by omega)
      rw [Bool.eq_false_iff.2 c] at hcall
      refine Ev.step (f := fun k => (laws_word.f k p).bind fun t242 => if t242 = true then (if 1 + p.size ≤ 9223372036854775807 then (if acc.size + (1 + p.size) ≤ 9223372036854775807 then (laws_FnPathPlain.l0 k (acc ++ ((⟨#[47]⟩ : ByteArray) ++ p)) xs xs.length (wrap64 ((pre.length : Int) + 1))) else none) else none) else some true) (fun k => ?_) (Ev.call hcall (Ev.neg (by simp) (Ev.now _)))
      simp only [laws_FnPathPlain.l0]
      rw [if_pos (ln_mid h), if_pos (by omega), if_pos (ln_mid h), e]
theorem FnPathPlain : Go.Proofs.Ytjklempjljikpaa.StFnPathPlain.Pure := by
  intro xs hx _
  have hx := maxLen_le hx
  refine Ev.rounds ?_
  unfold laws_FnPathPlain.f
  obtain ⟨b, hb, hbt⟩ := fits1 xs hx
  cases b with
  | false => exact Ev.call hb (Ev.neg (by simp) (Ev.now _))
  | true =>
    obtain ⟨h1, h2⟩ := hbt rfl
    exact Ev.call hb (Ev.pos rfl (Ev.call (Ev.some cleans) (Ev.pos rfl (plain_l xs h1 h2 xs [] ⟨#[]⟩ rfl rfl (by simp) (by simp [ByteArray.size])))))
end Go.Proofs.Ytjklempjljikpaa.Pure
