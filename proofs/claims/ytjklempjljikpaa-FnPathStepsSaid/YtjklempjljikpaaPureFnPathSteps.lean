/- The pure statement of FnPathSteps: a word and a step back behind it change nothing of a path of words. -/
import Derived.Test.YtjklempjljikpaaQ14
import Derived.Test.YtjklempjljikpaaSpCln
import Derived.Test.YtjklempjljikpaaStFnPathSteps
namespace Go.Proofs.Ytjklempjljikpaa.Pure
open Go.RowKit Go.Proofs.Ytjklempjljikpaa.Q Go.Proofs.YtjklempjljikpaaW.PrintWords Go.Proofs.YtjklempjljikpaaW.PrintLast Go.Proofs.YtjklempjljikpaaKit Go.Proofs.Ytjklempjljikpaa.SpA
set_option linter.unusedVariables false
/-- The word and the step back, where they stand. -/
def insW (n : Nat) (more : List UInt8) (l : List (List UInt8)) : List (List UInt8) := if n < l.length then l.take n ++ more :: [46, 46] :: l.drop n else l
theorem insW_here (more p : List UInt8) (l : List (List UInt8)) : insW l.length more (l ++ [p]) = l ++ more :: [46, 46] :: [p] := by
  unfold insW
  rw [if_pos (by simp)]
  simp
theorem insW_before (n : Nat) (more : List UInt8) (l : List (List UInt8)) (h : l.length ≤ n) : insW n more l = l := if_neg (by omega)
theorem insW_else (n : Nat) (more p : List UInt8) (l : List (List UInt8)) (h : n ≠ l.length) : insW n more (l ++ [p]) = insW n more l ++ [p] := by
  unfold insW
  by_cases c : n < l.length
  · rw [if_pos c, if_pos (by simp; omega), List.take_append_of_le_length (by omega), List.drop_append_of_le_length (by omega)]
    simp
  · rw [if_neg c, if_neg (by simp; omega)]
theorem join_snoc (l : List (List UInt8)) (p : List UInt8) : Cl.joinS (l ++ [p]) = Cl.joinS l ++ 47 :: p := by rw [Cl.joinS_app, Cl.joinS_cons, Cl.joinS_nil]; simp
theorem steps_end (n : Nat) (more : List UInt8) (l : List (List UInt8)) (hn : n < l.length) (hl : ∀ q ∈ l, Wd q) (hm : Wd more) : norm (Cl.joinS (insW n more l)) = Cl.joinS l := by
  have hd : l.drop n ≠ [] := by
    intro e
    have := congrArg List.length e
    simp at this
    omega
  obtain ⟨T, last, hT⟩ : ∃ T last, l.drop n = T ++ [last] := ⟨_, _, (List.dropLast_concat_getLast hd).symm⟩
  have hlast : Wd last := hl last (List.mem_of_mem_drop (i := n) (by rw [hT]; simp))
  have hTw : ∀ q ∈ T, Wd q := fun q hq => hl q (List.mem_of_mem_drop (i := n) (by rw [hT]; simp [hq]))
  have hSw : ∀ q ∈ l.take n, Wd q := fun q hq => hl q (List.mem_of_mem_take hq)
  have e1 : insW n more l = l.take n ++ more :: [46, 46] :: (T ++ [last]) := by unfold insW; rw [if_pos hn, hT]
  have hl2 : l = l.take n ++ (T ++ [last]) := by rw [← hT, List.take_append_drop]
  have hp : (37 : UInt8) ∉ Cl.joinS (insW n more l) := by
    rw [e1]
    refine join_pct _ fun q hq => ?_
    simp only [List.mem_append, List.mem_cons, List.not_mem_nil, or_false] at hq
    rcases hq with hq | rfl | rfl | hq | rfl
    · exact (hSw q hq).pct
    · exact hm.pct
    · decide
    · exact (hTw q hq).pct
    · exact hlast.pct
  obtain ⟨t, ht⟩ : ∃ t, Cl.joinS (insW n more l) = 47 :: t := by
    have := Cl.joinS_slash (l.take n ++ more :: [46, 46] :: T) last
    rw [e1]
    simpa using this
  rw [ht] at hp ⊢
  rw [norm_slash t hp, ← ht, e1, Cl.clean_steps (l.take n) T more last (fun q hq => ⟨(hSw q hq).slash, (hSw q hq).good⟩) hlast.slash hlast.good.2.2 ⟨hm.slash, hm.good⟩ (fun q hq => ⟨(hTw q hq).slash, (hTw q hq).good⟩), ← hl2]
theorem steps_l (xs : List ByteArray) (hx : xs.length ≤ 20) (hz : ∀ p ∈ xs, p.size ≤ 2000) (n : Nat) (hn : n ≤ xs.length) (more : ByteArray) (hm : Wd (L more)) (hms : more.size ≤ 2000) :
    ∀ (suf pre : List ByteArray) (x7 x8 : ByteArray), xs = pre ++ suf → (∀ p ∈ pre, Wd (L p)) → L x7 = Cl.joinS (pre.map L) → L x8 = Cl.joinS (insW n (L more) (pre.map L)) → x7.size ≤ pre.length * 3000 → x8.size ≤ pre.length * 6000 →
    Ev (fun k => laws_FnPathSteps.l0 k xs (n : Int) more x7 x8 xs xs.length pre.length) true
  | [], pre, x7, x8, h, hw, h7, h8, s7, s8 => by
    have hpl : pre.length = xs.length := by rw [h]; simp
    have hend : Ev (fun _ => if (n : Int) = (xs.length : Int) then some true else (impl_CleanPath.f x8).bind fun t258 => some (t258.toList == x7.toList)) true := by
      by_cases c : (n : Int) = (xs.length : Int)
      · exact Ev.pos c (Ev.now _)
      · refine Ev.neg c (Ev.call (Ev.some (cleanPath x8 (by omega))) (Ev.some ?_))
        have hwl : ∀ q ∈ pre.map L, Wd q := fun q hq => by
          obtain ⟨p, hp, rfl⟩ := List.mem_map.1 hq
          exact hw p hp
        have := steps_end n (L more) (pre.map L) (by rw [List.length_map]; omega) hwl hm
        rw [← h8, ← h7] at this
        simp only [this, tl]
        simp
    refine Ev.step (fun k => ?_) hend
    simp only [laws_FnPathSteps.l0]
    rw [if_neg (ln_not h)]
  | p :: t, pre, x7, x8, h, hw, h7, h8, s7, s8 => by
    have e : rdOf ByteArray.empty xs pre.length = p := get_mid h _
    have hp := hz p (by rw [h]; simp)
    have hlen : pre.length + (t.length + 1) ≤ 20 := by rw [h] at hx; simpa using hx
    have z1 : (⟨#[47]⟩ : ByteArray).size = 1 := rfl
    have z3 : (⟨#[47, 46, 46]⟩ : ByteArray).size = 3 := rfl
    by_cases c : ((L p).all isWordB && (L p != [])) = true
    · have hcall := word p (by omega)
      rw [c] at hcall
      have hwp : ∀ q ∈ pre ++ [p], Wd (L q) := fun q hq => by
        rw [List.mem_append] at hq
        rcases hq with hq | hq
        · exact hw q hq
        · rw [List.mem_singleton.1 hq]; exact wd_of _ c
      have h7' : L (x7 ++ ((⟨#[47]⟩ : ByteArray) ++ p)) = Cl.joinS ((pre ++ [p]).map L) := by
        rw [L_append, L_append, h7, List.map_append, List.map_cons, List.map_nil, join_snoc]; rfl
      have s7' : (x7 ++ ((⟨#[47]⟩ : ByteArray) ++ p)).size ≤ (pre ++ [p]).length * 3000 := by rw [size_append, size_append, z1]; simp; omega
      by_cases cn : (pre.length : Int) = (n : Int)
      · have hn' : n = (pre.map L).length := by rw [List.length_map]; omega
        have ih := steps_l xs hx hz n hn more hm hms t (pre ++ [p]) (x7 ++ ((⟨#[47]⟩ : ByteArray) ++ p)) ((x8 ++ (((⟨#[47]⟩ : ByteArray) ++ more) ++ (⟨#[47, 46, 46]⟩ : ByteArray))) ++ ((⟨#[47]⟩ : ByteArray) ++ p)) (by rw [h]; simp) hwp h7' (by
          rw [List.map_append, List.map_cons, List.map_nil, hn', insW_here]
          simp only [L_append, h8, hn']
          rw [insW_before _ _ _ (Nat.le_refl _), Cl.joinS_app, Cl.joinS_cons, Cl.joinS_cons, Cl.joinS_cons, Cl.joinS_nil]
          simp [L]) s7' (by simp only [size_append, z1, z3]; simp; omega)
        rw [show ((pre ++ [p]).length : Int) = wrap64 ((pre.length : Int) + 1) from (wrap_lmid h (by omega)).symm] at ih
        refine Ev.step (f := fun k => (laws_word.f k p).bind fun t260 => if t260 = true then laws_FnPathSteps.l0 k xs (n : Int) more (x7 ++ ((⟨#[47]⟩ : ByteArray) ++ p)) ((x8 ++ (((⟨#[47]⟩ : ByteArray) ++ more) ++ (⟨#[47, 46, 46]⟩ : ByteArray))) ++ ((⟨#[47]⟩ : ByteArray) ++ p)) xs xs.length (wrap64 ((pre.length : Int) + 1)) else some true) (fun k => ?_) (Ev.call hcall (Ev.pos rfl ih))
        simp only [laws_FnPathSteps.l0]
        rw [if_pos (ln_mid h), if_pos (by omega), if_pos (ln_mid h), e, if_pos cn, if_pos (show 1 + more.size ≤ 9223372036854775807 by omega), if_pos (show 1 + more.size + 3 ≤ 9223372036854775807 by omega), if_pos (show x8.size + (1 + more.size + 3) ≤ 9223372036854775807 by omega), if_pos (show 1 + p.size ≤ 9223372036854775807 by omega), if_pos (show x7.size + (1 + p.size) ≤ 9223372036854775807 by omega), if_pos (show x8.size + (1 + more.size + 3) + (1 + p.size) ≤ 9223372036854775807 by omega)]
      · have hn' : n ≠ (pre.map L).length := by rw [List.length_map]; omega
        have ih := steps_l xs hx hz n hn more hm hms t (pre ++ [p]) (x7 ++ ((⟨#[47]⟩ : ByteArray) ++ p)) (x8 ++ ((⟨#[47]⟩ : ByteArray) ++ p)) (by rw [h]; simp) hwp h7' (by
          rw [List.map_append, List.map_cons, List.map_nil, insW_else _ _ _ _ hn', join_snoc, L_append, L_append, h8]
          rfl) s7' (by simp only [size_append, z1]; simp; omega)
        rw [show ((pre ++ [p]).length : Int) = wrap64 ((pre.length : Int) + 1) from (wrap_lmid h (by omega)).symm] at ih
        refine Ev.step (f := fun k => (laws_word.f k p).bind fun t260 => if t260 = true then laws_FnPathSteps.l0 k xs (n : Int) more (x7 ++ ((⟨#[47]⟩ : ByteArray) ++ p)) (x8 ++ ((⟨#[47]⟩ : ByteArray) ++ p)) xs xs.length (wrap64 ((pre.length : Int) + 1)) else some true) (fun k => ?_) (Ev.call hcall (Ev.pos rfl ih))
        simp only [laws_FnPathSteps.l0]
        rw [if_pos (ln_mid h), if_pos (by omega), if_pos (ln_mid h), e, if_neg cn, if_pos (show 1 + p.size ≤ 9223372036854775807 by omega), if_pos (show x7.size + (1 + p.size) ≤ 9223372036854775807 by omega), if_pos (show x8.size + (1 + p.size) ≤ 9223372036854775807 by omega)]
    · have hcall := word p (by omega)
      rw [Bool.eq_false_iff.2 c] at hcall
      obtain ⟨K, hK⟩ := hcall
      refine ⟨K + 1, fun k hk => ?_⟩
      obtain ⟨k', rfl⟩ : ∃ k', k = k' + 1 := ⟨k - 1, by omega⟩
      have hw' := hK k' (by omega)
      simp only at hw'
      simp only [laws_FnPathSteps.l0]
      rw [if_pos (ln_mid h), if_pos (by omega), if_pos (ln_mid h), e, hw', Option.bind_some, if_neg (by simp)]
theorem FnPathSteps : Go.Proofs.Ytjklempjljikpaa.StFnPathSteps.Pure := by
  intro xs a m hx _ _ hm
  have hx := maxLen_le hx
  refine Ev.rounds ?_
  unfold laws_FnPathSteps.f
  obtain ⟨b, hb, hbt⟩ := fits1 xs hx
  have j1t : Ev (fun k => laws_FnPathSteps.j1 k xs a m true) true := Ev.step (f := fun _ => some true) (fun k => by simp only [laws_FnPathSteps.j1]; rw [if_pos trivial]) (Ev.now _)
  have j0t : Ev (fun k => laws_FnPathSteps.j0 k xs a m true) true := Ev.step (f := fun _ => some true) (fun k => by simp only [laws_FnPathSteps.j0]; rw [if_pos trivial]) (Ev.now _)
  refine Ev.call hb ?_
  cases b with
  | false => exact Ev.neg (by simp) j0t
  | true =>
    obtain ⟨h1, h2⟩ := hbt rfl
    refine Ev.pos rfl ?_
    by_cases hbig : (m.size : Int) > 2147483647
    · rw [decide_eq_true hbig]; exact j0t
    rw [decide_eq_false hbig]
    refine Ev.step (fun k => by simp only [laws_FnPathSteps.j0]; rw [if_neg (by decide)]) (Ev.call (Ev.some cleans) (Ev.pos rfl ?_))
    by_cases ha0 : a < 0
    · exact Ev.pos ha0 j1t
    refine Ev.neg ha0 ?_
    by_cases ha1 : a > (xs.length : Int)
    · exact Ev.pos ha1 j1t
    refine Ev.neg ha1 ?_
    by_cases hl : (xs.length : Int) > 20
    · exact Ev.pos hl j1t
    refine Ev.neg hl (Ev.call (word m hm) ?_)
    by_cases hw : ((L m).all isWordB && (L m != [])) = true
    · refine Ev.pos hw ?_
      by_cases h0 : (xs.length : Int) = 0
      · exact Ev.pos h0 j1t
      refine Ev.neg h0 (Ev.call (Ev.some rfl) (Ev.pos (show ([] : List ByteArray).length + xs.length < 8796093022208 by simp; omega) (Ev.call (Ev.some rfl) (Ev.pos (show ([] ++ xs : List ByteArray).length < 8796093022208 by simp; omega) ?_))))
      have hsh := short_l (xs ++ [m]) (xs ++ [m]) (by simp; omega) (xs ++ [m]) [] rfl
      refine Ev.call (g := fun k => laws_short.f k ([] ++ xs ++ [m])) hsh ?_
      cases hall : ((xs ++ [m]).all (fun s => decide (s.size ≤ 2000)) && decide ((xs ++ [m]).length ≤ 60)) with
      | false => exact j1t
      | true =>
        have hz : ∀ p ∈ xs ++ [m], p.size ≤ 2000 := fun p hp => of_decide_eq_true (List.all_eq_true.1 (Bool.and_eq_true_iff.1 hall).1 p hp)
        obtain ⟨n, rfl⟩ : ∃ n : Nat, a = (n : Int) := ⟨a.toNat, by omega⟩
        refine Ev.step (fun k => by simp only [laws_FnPathSteps.j1]; rw [if_neg (by decide)]) ?_
        exact steps_l xs (by omega) (fun p hp => hz p (by simp [hp])) n (by omega) m (wd_of _ hw) (hz m (by simp)) xs [] ⟨#[]⟩ ⟨#[]⟩ rfl (by simp) rfl rfl (by simp [ByteArray.size]) (by simp [ByteArray.size])
    · exact Ev.neg hw j1t
end Go.Proofs.Ytjklempjljikpaa.Pure
