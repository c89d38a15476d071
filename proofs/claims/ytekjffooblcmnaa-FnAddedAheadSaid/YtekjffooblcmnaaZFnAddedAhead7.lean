/- FnAddedAhead: the law's function, called with any arguments, returns true and leaves its arguments as they were: every input, no condition. Part 8 of 8. -/
import Derived.Deep.Slices
import Derived.Test.YtekjffooblcmnaaZFnAddedAhead0
import Derived.Test.YtekjffooblcmnaaZFnAddedAhead6
import Derived.ChangeSame
import Derived.Test.YtekjffooblcmnaaZFnAddedAhead5
import Derived.Test.YtekjffooblcmnaaRows
import Derived.WalkKit
import Derived.ProofKit
import Derived.OpenShut
import Derived.ShutString
import Derived.ChangeOld
import Derived.Below
import Derived.SizedLaws
set_option linter.unusedVariables false
set_option linter.unusedSimpArgs false
set_option linter.unusedSectionVars false
section
namespace Go.Proofs.YtekjffooblcmnaaOpen
open Go.ChangeShapes Go.WideShapes Go.Deep Go.Proofs.YtekjffooblcmnaaW.PrintWords
theorem open_kd {H : Type} {enc : TypeId × Value → H} {P : Program} {w : World} {base : Nat} {spare : Nat → Bool} {held : Bool} {α : Type} {d : Kd α} {Good : α → Prop} {t e : TypeId} {fuel : Nat} {A : Option Addr} {len cap : Nat} {x : DataW H × List MemPlace}
    (ht : P.underlying t = some (.slice e)) (hs : P.cellsOf e = d.sz)
    (one : ∀ (n : Nat) (cs : List Value) (y : DataW H × List MemPlace), DataW.trod enc P w base spare held n e cs = some y → ∃ x, d.K w x cs ∧ Good x)
    (h : DataW.trod enc P w base spare held fuel t [.slice A len cap] = some x) :
    ∃ xs : List α, len = xs.length ∧ d.C w A xs.length xs ∧ xs.length ≤ cap ∧ cap ≤ maxLen ∧ ∀ x ∈ xs, Good x := by
  rcases open_slice ht h with ⟨h1, _⟩ | ⟨a, len', cap', m, n, D, Pl, h1, hb, hl, hm, hmm, _, hx⟩
  · simp only [List.cons.injEq, Value.slice.injEq, and_true] at h1
    obtain ⟨rfl, rfl, rfl⟩ := h1
    exact ⟨[], rfl, ⟨rfl, by simp, fun h => by simp at h⟩, Nat.le_refl _, by simp [maxLen], fun x h => by simp at h⟩
  · simp only [List.cons.injEq, Value.slice.injEq, and_true] at h1
    obtain ⟨rfl, rfl, rfl⟩ := h1
    have hlm : len ≤ m := by rw [hmm]; split <;> omega
    have each : ∀ i, i < len → ∃ z : α, (∃ c, c.length = d.sz ∧ d.K w z c ∧ ∀ j u, c[j]? = some u → w.cell? (a.add (i * d.sz + j)) = some u) ∧ Good z := by
      intro i hi
      obtain ⟨cs, hc, ht2⟩ := hx i (by omega)
      obtain ⟨z, hz, hg⟩ := one _ _ _ ht2
      obtain ⟨_, hcl, hcell⟩ := World.cells?_some hc
      refine ⟨z, ⟨cs, hcl.trans hs, hz, fun j u hj => ?_⟩, hg⟩
      have hjl : j < cs.length := (List.getElem?_eq_some_iff.1 hj).1
      have := hcell j (by omega)
      rw [hs, Go.Deep.add_add] at this
      rw [this, hj]
    by_cases hz : len = 0
    · subst hz
      exact ⟨[], rfl, ⟨rfl, by simp, fun h => by simp at h⟩, Nat.zero_le _, hm, fun x h => by simp at h⟩
    · obtain ⟨z0, _⟩ := each 0 (by omega)
      obtain ⟨f, hf⟩ : ∃ f : Nat → α, ∀ i, i < len → (∃ c, c.length = d.sz ∧ d.K w (f i) c ∧ ∀ j u, c[j]? = some u → w.cell? (a.add (i * d.sz + j)) = some u) ∧ Good (f i) := by
        haveI : Inhabited α := ⟨z0⟩
        exact choose_lt each
      have hlen : ((List.range len).map f).length = len := by simp
      refine ⟨(List.range len).map f, hlen.symm, ⟨rfl, ?_, fun _ => ⟨a, rfl, fun j p hj => ?_⟩⟩, by omega, hm, fun x h => ?_⟩
      · rw [hlen]; unfold maxLen at hm; omega
      · have hj2 := (List.getElem?_eq_some_iff.1 hj).1
        rw [hlen] at hj2
        have : p = f j := by
          simp [List.getElem?_map, List.getElem?_range hj2] at hj
          exact hj.symm
        subst this
        exact (hf j hj2).1
      · obtain ⟨j, hj, rfl⟩ := List.mem_map.1 h
        exact (hf j (List.mem_range.1 hj)).2
theorem one_string {H : Type} {enc : TypeId × Value → H} {P : Program} {w : World} {base : Nat} {spare : Nat → Bool} {held : Bool} {e : TypeId} (he : P.underlying e = some .string)
    (n : Nat) (cs : List Value) (y : DataW H × List MemPlace) (h : DataW.trod enc P w base spare held n e cs = some y) : ∃ x : ByteArray, Kd.string.K w x cs ∧ x.size ≤ maxLen := by
  obtain ⟨s, rfl, _, hw⟩ := DataW.trod_string he h
  exact ⟨s, rfl, hw⟩
end Go.Proofs.YtekjffooblcmnaaOpen
end
section
namespace Go.Proofs.Ytekjffooblcmnaa.StFnAddedAhead
open Go.RowKit Go.ChangeShapes Go.WideShapes Go.Proofs.Ytekjffooblcmnaa.Q Go.Proofs.YtekjffooblcmnaaW.PrintWords Go.Proofs.YtekjffooblcmnaaW.PrintLast
set_option linter.unusedVariables false
set_option linter.unusedSimpArgs false
set_option maxRecDepth 100000
def Pure : Prop := ∀ (l0 : List (ByteArray)) (a1 : Int), l0.length ≤ maxLen → (∀ x ∈ l0, x.size ≤ maxLen) → (Lit.int .i64 a1).wf = true → ∃ k, laws_FnAddedAhead.f k l0 a1 = some true
end Go.Proofs.Ytekjffooblcmnaa.StFnAddedAhead
end
section
namespace Go.Proofs.Ytekjffooblcmnaa.SpA
open Go.RowKit Go.Proofs.Ytekjffooblcmnaa.Q Go.Proofs.YtekjffooblcmnaaW.PrintWords Go.Proofs.YtekjffooblcmnaaW.PrintLast Go.Proofs.YtekjffooblcmnaaKit
set_option linter.unusedVariables false
set_option linter.unusedSimpArgs false
theorem short_l (ys xs : List ByteArray) (hx : xs.length ≤ 9223372036854775807) : ∀ (suf pre : List ByteArray), xs = pre ++ suf → Ev (fun k => laws_short.l0 k ys xs xs.length pre.length) (suf.all (fun s => decide (s.size ≤ 2000)) && decide (ys.length ≤ 60))
  | [], pre, h => by
    refine Ev.step (f := fun _ => some (decide ((ys.length : Int) ≤ 60))) (fun k => by simp only [laws_short.l0]; rw [if_neg (ln_not h)]) (Ev.same (Ev.now _) ?_)
    rw [List.all_nil, Bool.true_and]
    exact decide_eq_decide.2 (by omega)
  | p :: t, pre, h => by
    have e : rdOf ByteArray.empty xs pre.length = p := get_mid h _
    rw [List.all_cons]
    by_cases c : p.size ≤ 2000
    · rw [decide_eq_true c, Bool.true_and]
      refine Ev.step (fun k => ?_) (short_l ys xs hx t (pre ++ [p]) (lmid_next h))
      simp only [laws_short.l0]
      rw [if_pos (ln_mid h), if_pos (by omega), if_pos (ln_mid h), e, if_neg (by omega), wrap_lmid h hx]
    · rw [decide_eq_false c, Bool.false_and, Bool.false_and]
      refine Ev.step (f := fun _ => some false) (fun k => ?_) (Ev.now _)
      simp only [laws_short.l0]
      rw [if_pos (ln_mid h), if_pos (by omega), if_pos (ln_mid h), e, if_pos (by omega)]
end Go.Proofs.Ytekjffooblcmnaa.SpA
end
section
namespace Go.Proofs.Ytekjffooblcmnaa.SpA
open Go.RowKit Go.Proofs.Ytekjffooblcmnaa.Q Go.Proofs.YtekjffooblcmnaaW.PrintWords Go.Proofs.YtekjffooblcmnaaW.PrintLast Go.Proofs.YtekjffooblcmnaaKit
set_option linter.unusedVariables false
set_option linter.unusedSimpArgs false
theorem um_fits1_l (xs : List ByteArray) (hx : xs.length ≤ 9223372036854775807) : ∀ (suf pre : List ByteArray), xs = pre ++ suf → Ev (fun k => laws_zzFits1.l0 k xs xs.length pre.length) (suf.all fun s => decide (s.size ≤ 2147483647))
  | [], pre, h => by
    refine Ev.step (f := fun _ => some true) (fun k => by simp only [laws_zzFits1.l0]; rw [if_neg (ln_not h)]) (Ev.now _)
  | p :: t, pre, h => by
    have e : rdOf ByteArray.empty xs pre.length = p := get_mid h _
    rw [List.all_cons]
    by_cases c : p.size ≤ 2147483647
    · rw [decide_eq_true c, Bool.true_and]
      refine Ev.step (fun k => ?_) (um_fits1_l xs hx t (pre ++ [p]) (lmid_next h))
      simp only [laws_zzFits1.l0]
      rw [if_pos (ln_mid h), if_pos (by omega), if_pos (ln_mid h), e, if_neg (by omega), wrap_lmid h hx]
    · rw [decide_eq_false c, Bool.false_and]
      refine Ev.step (f := fun _ => some false) (fun k => ?_) (Ev.now _)
      simp only [laws_zzFits1.l0]
      rw [if_pos (ln_mid h), if_pos (by omega), if_pos (ln_mid h), e, if_pos (by omega)]
theorem um_fits1 (xs : List ByteArray) (hx : xs.length ≤ 9223372036854775807) : ∃ b, Ev (fun k => laws_zzFits1.f k xs) b ∧ (b = true → xs.length ≤ 2147483647 ∧ ∀ p ∈ xs, p.size ≤ 2147483647) := by
  unfold laws_zzFits1.f
  by_cases h : (xs.length : Int) > 2147483647
  · exact ⟨false, Ev.pos h (Ev.now _), fun e => by simp at e⟩
  · refine ⟨_, Ev.neg h (um_fits1_l xs hx xs [] rfl), fun e => ⟨by omega, fun p hp => ?_⟩⟩
    have := List.all_eq_true.1 e p hp
    exact of_decide_eq_true this
theorem short_all (xs : List ByteArray) (hx : xs.length ≤ 9223372036854775807) : Ev (fun k => laws_short.f k xs) (xs.all (fun s => decide (s.size ≤ 2000)) && decide (xs.length ≤ 60)) := short_l xs xs hx xs [] rfl
theorem added_len : ∀ (l S : List (List UInt8)), (addedB S l).length = l.length
  | [], S => rfl
  | s :: r, S => congrArg (· + 1) (added_len r _)
theorem added_take : ∀ (l S : List (List UInt8)) (n : Nat), addedB S (l.take n) = (addedB S l).take n
  | [], S, n => by simp [addedB]
  | s :: r, S, 0 => rfl
  | s :: r, S, n + 1 => congrArg (okA S s :: ·) (added_take r _ n)
theorem added_in : ∀ (l S : List (List UInt8)) (i : Nat) (s : List UInt8), shp s ∈ S → l[i]? = some s → (addedB S l)[i]? = some false
  | [], S, i, s, h, e => by simp at e
  | x :: r, S, 0, s, h, e => by
    simp at e
    subst e
    show some (okA S x) = some false
    unfold okA
    rw [decide_eq_true h]
    simp
  | x :: r, S, i + 1, s, h, e => added_in r _ i s (by split; exact List.mem_cons_of_mem _ h; exact h) (by simpa using e)
theorem added_twice : ∀ (l S : List (List UInt8)) (k i : Nat) (s : List UInt8), k < i → l[k]? = some s → l[i]? = some s → (addedB S l)[k]? = some true → (addedB S l)[i]? = some false
  | [], S, k, i, s, h, e, e', ht => by simp at e
  | x :: r, S, 0, i, s, h, e, e', ht => by
    obtain ⟨j, rfl⟩ : ∃ j, i = j + 1 := ⟨i - 1, by omega⟩
    simp at e
    subst e
    have ht : okA S x = true := Option.some.inj ht
    show (addedB (if okA S x then shp x :: S else S) r)[j]? = some false
    rw [if_pos ht]
    exact added_in r _ j x List.mem_cons_self (by simpa using e')
  | x :: r, S, k + 1, i, s, h, e, e', ht => by
    obtain ⟨j, rfl⟩ : ∃ j, i = j + 1 := ⟨i - 1, by omega⟩
    exact added_twice r _ k j s (by omega) (by simpa using e) (by simpa using e') ht
end Go.Proofs.Ytekjffooblcmnaa.SpA
end
section
namespace Go.Proofs.Ytekjffooblcmnaa.SpA
open Go.RowKit Go.Proofs.Ytekjffooblcmnaa.Q Go.Proofs.YtekjffooblcmnaaW.PrintWords Go.Proofs.YtekjffooblcmnaaW.PrintLast Go.Proofs.YtekjffooblcmnaaKit
set_option linter.unusedVariables false
set_option linter.unusedSimpArgs false
theorem holds_l (s : ByteArray) (x : Int) (hs : s.size ≤ 140737488351232) : ∀ (suf pre : List UInt8), L s = pre ++ suf → Ev (fun k => laws_holds.l0 k s x s.size pre.length) (suf.any (fun c => decide ((c.toNat : Int) = x)))
  | [], pre, h => Ev.step (f := fun _ => some false) (fun k => by simp only [laws_holds.l0]; rw [if_neg (sz_not h)]) (Ev.now _)
  | c :: t, pre, h => by
    rw [List.any_cons]
    by_cases c1 : (c.toNat : Int) = x
    · rw [decide_eq_true c1, Bool.true_or]
      refine Ev.step (f := fun _ => some true) (fun k => ?_) (Ev.now _)
      simp only [laws_holds.l0]
      rw [if_pos (sz_mid h), if_pos (by omega), if_pos (sz_mid h), bt_mid h, if_pos c1]
    · rw [decide_eq_false c1, Bool.false_or]
      refine Ev.step (fun k => ?_) (holds_l s x hs t (pre ++ [c]) (mid_next h))
      simp only [laws_holds.l0]
      rw [if_pos (sz_mid h), if_pos (by omega), if_pos (sz_mid h), bt_mid h, if_neg c1, wrap_mid h hs]
theorem holds (s : ByteArray) (x : Int) (hs : s.size ≤ 140737488351232) : Ev (fun k => laws_holds.f k s x) ((L s).any (fun c => decide ((c.toNat : Int) = x))) := holds_l s x hs (L s) [] rfl
end Go.Proofs.Ytekjffooblcmnaa.SpA
end
section
namespace Go.Proofs.Ytekjffooblcmnaa.Pure
open Go.RowKit Go.Proofs.Ytekjffooblcmnaa.Q Go.Proofs.YtekjffooblcmnaaW.PrintWords Go.Proofs.YtekjffooblcmnaaW.PrintLast Go.Proofs.YtekjffooblcmnaaKit Go.Proofs.Ytekjffooblcmnaa.SpA
set_option linter.unusedVariables false
set_option linter.unusedSimpArgs false
theorem ah_true (x : List ByteArray) (n : Int) : Ev (fun k => laws_FnAddedAhead.j1 k x n true) true :=
  Ev.step (f := fun _ => some true) (fun k => by simp only [laws_FnAddedAhead.j1]; rw [if_pos trivial]) (Ev.now _)
theorem rd_nat {α : Type} (d : α) (xs : List α) (i : Nat) : rdOf d xs (i : Int) = xs.getD i d := by
  unfold rdOf
  rw [Int.toNat_natCast]
theorem getD_at {α : Type} (xs : List α) (d : α) {i : Nat} (h : i < xs.length) : xs.getD i d = xs[i] := by
  simp [List.getD, List.getElem?_eq_getElem h]
theorem wr (i : Nat) (h : i ≤ 1000000) : wrap64 ((i : Int) + 1) = ((i + 1 : Nat) : Int) := by unfold wrap64; omega
section
variable (x : List ByteArray) (hl : x.length ≤ 20) (hz : ∀ s ∈ x, s.size ≤ 2000)
include hl hz
theorem ah_l2 (i : Nat) (hi : i < x.length) (next : Ev (fun k => laws_FnAddedAhead.l1 k x (addedB [] (x.map L)) (x.length : Int) ((i + 1 : Nat) : Int)) true) : ∀ (d k : Nat), i - k = d → k ≤ i → Ev (fun q => laws_FnAddedAhead.l2 q x (addedB [] (x.map L)) (i : Int) (x.length : Int) (i : Int) (i : Int) (k : Int)) true := by
  have hal : (addedB [] (x.map L)).length = x.length := by rw [added_len, List.length_map]
  intro d
  induction d with
  | zero =>
    intro k hd hk
    refine Ev.step (fun q => ?_) next
    simp only [laws_FnAddedAhead.l2]
    rw [if_neg (by omega), wr i (by omega)]
  | succ d ih =>
    intro k hd hk
    have nx := ih (k + 1) (by omega) (by omega)
    have hki : k < i := by omega
    by_cases a1 : rdOf false (addedB [] (x.map L)) (i : Int) = true
    · by_cases a2 : rdOf false (addedB [] (x.map L)) (k : Int) = true
      · have hx1 : rdOf ByteArray.empty x (i : Int) = x[i] := by rw [rd_nat]; simp [hi]
        have hx2 : rdOf ByteArray.empty x (k : Int) = x[k]'(by omega) := by rw [rd_nat]; simp [show k < x.length by omega]
        have hne : ¬ (rdOf ByteArray.empty x (i : Int)).toList = (rdOf ByteArray.empty x (k : Int)).toList := by
          rw [hx1, hx2, tl, tl]
          intro e
          have g1 : (x.map L)[i]? = some (L x[i]) := by rw [List.getElem?_map, List.getElem?_eq_getElem hi]; rfl
          have g2 : (x.map L)[k]? = some (L x[i]) := by rw [List.getElem?_map, List.getElem?_eq_getElem (show k < x.length by omega), e]; rfl
          have g3 : (addedB [] (x.map L))[k]? = some true := by
            rw [rd_nat] at a2
            have hlk : k < (addedB [] (x.map L)).length := by omega
            rw [List.getElem?_eq_getElem hlk]
            rw [getD_at _ _ hlk] at a2
            rw [a2]
          have g4 := added_twice _ [] k i _ hki g2 g1 g3
          rw [rd_nat] at a1
          have hli : i < (addedB [] (x.map L)).length := by omega
          rw [List.getElem?_eq_getElem hli] at g4
          rw [getD_at _ _ hli] at a1
          rw [a1] at g4
          cases g4
        refine Ev.step (fun q => ?_) nx
        simp only [laws_FnAddedAhead.l2]
        rw [if_pos (by omega), if_pos (by omega), if_pos (by omega), if_pos a1, if_pos (by omega), if_pos (by omega), if_pos a2, if_pos (by omega), if_pos (by omega), if_neg hne, wr k (by omega)]
      · refine Ev.step (fun q => ?_) nx
        simp only [laws_FnAddedAhead.l2]
        rw [if_pos (by omega), if_pos (by omega), if_pos (by omega), if_pos a1, if_pos (by omega), if_pos (by omega), if_neg a2, wr k (by omega)]
    · refine Ev.step (fun q => ?_) nx
      simp only [laws_FnAddedAhead.l2]
      rw [if_pos (by omega), if_pos (by omega), if_pos (by omega), if_neg a1, wr k (by omega)]
theorem ah_l1 : ∀ (d i : Nat), x.length - i = d → i ≤ x.length → Ev (fun k => laws_FnAddedAhead.l1 k x (addedB [] (x.map L)) (x.length : Int) (i : Int)) true := by
  intro d
  induction d with
  | zero =>
    intro i hd hi
    refine Ev.step (f := fun _ => some true) (fun k => ?_) (Ev.now _)
    simp only [laws_FnAddedAhead.l1]
    rw [if_neg (by omega)]
  | succ d ih =>
    intro i hd hi
    refine Ev.step (fun k => ?_) (ah_l2 x hl hz i (by omega) (ih (i + 1) (by omega) (by omega)) i 0 (by omega) (Nat.zero_le _))
    simp only [laws_FnAddedAhead.l1]
    rw [if_pos (by omega)]
    rfl
theorem ah_l0 (n : Nat) (hn : n ≤ x.length) : ∀ (d i : Nat), n - i = d → i ≤ n → Ev (fun k => laws_FnAddedAhead.l0 k x (addedB [] (x.map L)) ((addedB [] (x.map L)).take n) (((addedB [] (x.map L)).take n).length : Int) (i : Int)) true := by
  have hal : (addedB [] (x.map L)).length = x.length := by rw [added_len, List.length_map]
  have htl : ((addedB [] (x.map L)).take n).length = n := by rw [List.length_take, hal]; omega
  rw [htl]
  intro d
  induction d with
  | zero =>
    intro i hd hi
    refine Ev.step (fun k => ?_) (ah_l1 x hl hz x.length 0 (by omega) (Nat.zero_le _))
    simp only [laws_FnAddedAhead.l0]
    rw [if_neg (by omega)]
    rfl
  | succ d ih =>
    intro i hd hi
    refine Ev.step (fun k => ?_) (ih (i + 1) (by omega) (by omega))
    have e : (rdOf false (addedB [] (x.map L)) (i : Int) != rdOf false ((addedB [] (x.map L)).take n) (i : Int)) = false := by
      rw [rd_nat, rd_nat, getD_at _ _ (by omega), getD_at _ _ (by rw [htl]; omega), List.getElem_take]
      simp
    simp only [laws_FnAddedAhead.l0]
    rw [if_pos (by omega), if_pos (by omega), if_pos (by omega), if_pos (by omega), e, if_neg (by decide), wr i (by omega)]
theorem added_f : impl_Added.f x = some (addedB [] (x.map L)) := by
  unfold impl_Added.f
  exact if_pos ⟨hl, hz⟩
end
theorem added_aa : addedB [] (([⟨#[47, 97]⟩, ⟨#[47, 97]⟩] : List ByteArray).map L) = [true, false] := by decide +kernel
theorem FnAddedAhead : StFnAddedAhead.Pure := by
  intro x n hx hxs hn
  have hx2 : x.length ≤ 9223372036854775807 := Nat.le_trans hx (by decide)
  obtain ⟨b, hb, hbt⟩ := um_fits1 x hx2
  suffices h : Ev (fun k => laws_FnAddedAhead.f k x n) true from by
    obtain ⟨k, hk⟩ := h
    exact ⟨k, hk k (Nat.le_refl _)⟩
  unfold laws_FnAddedAhead.f
  refine Ev.call hb ?_
  cases b with
  | false => exact Ev.neg (by decide) (Ev.now _)
  | true =>
    have hf : impl_Added.f ([⟨#[47, 97]⟩, ⟨#[47, 97]⟩] : List ByteArray) = some [true, false] := by
      rw [added_f _ (by decide) (by decide), added_aa]
    refine Ev.pos rfl (Ev.call (Ev.some hf) (Ev.pos rfl (Ev.pos (by decide) (Ev.pos rfl (Ev.pos (by decide) ?_)))))
    refine Ev.step (fun k => by simp only [laws_FnAddedAhead.j0]; rw [if_neg (by decide)]) ?_
    by_cases c1 : n < 0
    · exact Ev.pos c1 (ah_true _ _)
    refine Ev.neg c1 ?_
    by_cases c2 : n > (x.length : Int)
    · exact Ev.pos c2 (ah_true _ _)
    refine Ev.neg c2 ?_
    by_cases c3 : (x.length : Int) > 20
    · exact Ev.pos c3 (ah_true _ _)
    refine Ev.neg c3 (Ev.call (short_all x hx2) ?_)
    by_cases c4 : (x.all (fun s => decide (s.size ≤ 2000)) && decide (x.length ≤ 60)) = true
    rotate_left
    · rw [Bool.not_eq_true] at c4
      rw [c4]
      exact ah_true _ _
    rw [c4]
    have hl : x.length ≤ 20 := by omega
    have hz : ∀ s ∈ x, s.size ≤ 2000 := fun s hs => of_decide_eq_true (List.all_eq_true.1 (Bool.and_eq_true_iff.1 c4).1 s hs)
    obtain ⟨m, rfl⟩ : ∃ m : Nat, n = m := ⟨n.toNat, by omega⟩
    have hm : m ≤ x.length := by omega
    have f1 := added_f x hl hz
    have f2 : impl_Added.f (x.take ((m : Int)).toNat) = some ((addedB [] (x.map L)).take m) := by
      rw [Int.toNat_natCast, added_f _ (by rw [List.length_take]; omega) (fun s hs => hz s (List.mem_of_mem_take hs)), List.map_take, added_take]
    have hal : (addedB [] (x.map L)).length = x.length := by rw [added_len, List.length_map]
    refine Ev.step (fun k => by simp only [laws_FnAddedAhead.j1]; rw [if_neg (by decide)]) ?_
    refine Ev.call (Ev.some f1) (Ev.pos (by omega) (Ev.pos (by omega) (Ev.call (Ev.some f2) (Ev.pos (by rw [hal]) ?_))))
    have e : (((((addedB [] (x.map L)).take m).length : Nat) : Int) != (m : Int)) = false := by
      rw [List.length_take, hal, Nat.min_eq_left hm]
      simp
    rw [e]
    refine Ev.step (fun k => by simp only [laws_FnAddedAhead.j2]; rw [if_neg (by decide)]) ?_
    exact ah_l0 x hl hz m hm m 0 (by omega) (Nat.zero_le _)
end Go.Proofs.Ytekjffooblcmnaa.Pure
end
section
namespace Go.Proofs.Ytekjffooblcmnaa.fnAddedAhead
open Go.ChangeShapes Go.WideShapes Go.ChangeAt Go.RowKit
open Go.ChangeMaps (open_string shut_string)
set_option linter.unusedVariables false
theorem own : ownKnob Try.prog.godebug = none := by kernel_rfl
theorem laidOut : laidOutB Try.prog = true := by kernel_rfl
set_option maxRecDepth 100000 in
theorem lifted (os : Os) (started : os.Started) (H : Type) (enc : TypeId × Value → H) :
    ReturnsInHanded {} Try.checked os 3 .any (Rows.fnAddedAheadSpec.pre6 enc Try.prog Try.f3 Rows.fnAddedAheadRow.domain false) (Rows.fnAddedAheadSpec.post enc Try.prog Try.f3 false true false false) := by
  refine returnsInHanded_of_change_sized (C := Try.checked) own started (by kernel_rfl) Try.func3
    (ChangeSpec.witness6 (enc := enc) (C := Try.checked) false ⟨#[], #[.slice none 0 0, .int .i64 0], []⟩ 8 (by kernel_rfl) (by kernel_rfl) (by kernel_rfl) (by kernel_rfl)) ?_
  intro W base args ds gs before hval0 hW hcnd hsz0 _
  have hsz : (DataW.weightsEach Try.prog (Try.f3.params.toList ++ Rows.fnAddedAheadSpec.plain.varTypes Try.prog) (ds ++ gs)).all (· ≤ reachBytes) = true := hsz0
  have hval : ∀ (j : Nat) t v, Try.f3.params[j]? = some t → args[j]? = some v → Value.okWide Try.prog W .any base t v := hval0
  have hW' := hW
  obtain ⟨p, q, hA0, hV, rfl, hfz, hnd⟩ := hW
  have hA : DataW.TrodAll enc Try.prog W 0 (fun _ => true) true Try.f3.params.toList args.toList ds p := hA0
  rw [Try.params3] at hA hval hsz
  obtain ⟨v0, vs0, d0, ds0, p0, q0, hargs, rfl, rfl, h0, r0⟩ := trodAll_cons hA
  obtain ⟨v1, vs1, d1, ds1, p1, q1, rfl, rfl, rfl, h1, r1⟩ := trodAll_cons r0
  obtain ⟨rfl, rfl, rfl⟩ := trodAll_nil r1
  obtain rfl : args = #[v0, v1] := by cases args; simp_all
  obtain ⟨rfl, rfl⟩ := trodVars_none hV
  obtain ⟨a0, len0, cap0, rfl⟩ := okWide_slice Try.underlying22 (hval 0 22 v0 rfl rfl)
  have k0 := h0
  have lt0 : ∀ x ∈ p0, x.block < W.heap.size := by obtain ⟨m, hm⟩ := k0; exact DataW.trod_lt m _ _ _ hm
  obtain ⟨l0, el0, C0, ca0, cm0, G0⟩ : ∃ xs, len0 = xs.length ∧ Go.Proofs.YtekjffooblcmnaaW.PrintWords.Kd.C Go.Proofs.YtekjffooblcmnaaW.PrintWords.Kd.string W a0 xs.length xs ∧ xs.length ≤ cap0 ∧ cap0 ≤ maxLen ∧ ∀ x ∈ xs, x.size ≤ maxLen := by
    obtain ⟨fuel, hf⟩ := h0
    have hf' : DataW.trod enc Try.prog W 0 (fun _ => true) true fuel 22 [.slice a0 len0 cap0] = some (d0, p0) := hf
    exact Go.Proofs.YtekjffooblcmnaaOpen.open_kd Try.underlying22 (by kernel_rfl) (fun n cs y h => Go.Proofs.YtekjffooblcmnaaOpen.one_string Try.underlying9 n cs y h) hf'
  subst el0
  obtain ⟨a1, rfl, rfl, rfl, w1⟩ := open_int Try.underlying3 (hval 1 3 v1 rfl rfl) h1
  clear hA0 hval0 hsz0 hsz
  obtain ⟨k, hk⟩ := Pure.FnAddedAhead l0 a1 (Nat.le_trans ca0 cm0) G0 w1
  refine (Go.Proofs.Ytekjffooblcmnaa.Q.laws_FnAddedAhead.calls k _ _ l0 a1 true W C0 ca0 hk).mono fun e W' hh => ?_
  obtain ⟨he, bel0⟩ := hh
  have bel : Below W.heap.size W W' := bel0
  subst he
  exact ⟨_, rfl, _, _, _, [], _, [], hW', trodAll_mk1 (shut_bool Try.underlying4 _), (trodAll_cons_mk (Below.trod laidOut (by kernel_rfl) (of_decide_eq_true (by kernel_rfl)) k0 bel lt0) (trodAll_cons_mk (shut_int Try.underlying3 w1) trodAll_mk0)), rfl, bel.frame _, fun h => by cases h⟩
theorem over : Rows.fnAddedAheadRow.holds Try.pinned (OpenSpec.ofChange Rows.fnAddedAheadSpec) :=
  OpenClaim.holds_of_wide 3 Try.f3 rfl rfl rfl rfl rfl rfl rfl ⟨rfl, rfl, rfl, rfl, rfl⟩ rfl rfl rfl rfl rfl (by kernel_rfl) Try.func3 (by kernel_rfl)
    (of_decide_eq_true (by kernel_rfl)) (by unfold Func.isWrapper; first | (rw [if_pos (by decide +kernel)]; kernel_rfl) | (rw [if_neg (by decide +kernel)]; exact ⟨rfl, rfl⟩))
    (fun os started H enc _ => lifted os started H enc)
theorem proved : Rows.FnAddedAheadSaid := over
#print axioms proved
end Go.Proofs.Ytekjffooblcmnaa.fnAddedAhead
namespace Go.Proofs.Ytekjffooblcmnaa
theorem fnAddedAhead_holds : Rows.FnAddedAheadSaid := fnAddedAhead.proved
end Go.Proofs.Ytekjffooblcmnaa
end
