/- FnUriParts: the law's function, called with any arguments, returns true and leaves its arguments as they were: every input, no condition. Part 9 of 9. -/
import Derived.Deep.Slices
import Derived.Test.YtbkeakeldegkeaaZFnUriParts0
import Derived.Test.YtbkeakeldegkeaaZFnUriParts7
import Derived.ChangeSame
import Derived.Test.YtbkeakeldegkeaaZFnUriParts4
import Derived.Test.YtbkeakeldegkeaaZFnUriParts2
import Derived.Test.YtbkeakeldegkeaaZFnUriParts1
import Derived.Test.YtbkeakeldegkeaaZFnUriParts5
import Derived.Deep.RegionWith
import Derived.Deep.RegionLaw
import Derived.Test.YtbkeakeldegkeaaZFnUriParts6
import Derived.Test.YtbkeakeldegkeaaZFnUriParts3
import Derived.Test.YtbkeakeldegkeaaRows
import Derived.WalkKit
import Derived.ProofKit
import Derived.OpenShut
import Derived.ShutString
import Derived.ChangeOld
import Derived.Below
import Derived.SizedLaws
section
namespace Go.Proofs.YtbkeakeldegkeaaOpen
open Go.ChangeShapes Go.WideShapes Go.Deep Go.Proofs.YtbkeakeldegkeaaW.PrintWords
theorem open_kd {H : Type} {enc : TypeId × Value → H} {P : Program} {w : World} {base : Nat} {spare : Nat → Bool} {held : Bool} {α : Type} {d : Kd α} {Good : α → Prop} {t e : TypeId} {fuel : Nat} {A : Option Addr} {len cap : Nat} {x : DataW H × List MemPlace}
    (ht : P.underlying t = some (.slice e)) (hs : P.cellsOf e = d.sz)
    (one : ∀ (n : Nat) (cs : List Value) (y : DataW H × List MemPlace), DataW.trod enc P w base spare held n e cs = some y → ∃ x, d.K w x cs ∧ Good x)
    (h : DataW.trod enc P w base spare held fuel t [.slice A len cap] = some x) :
    ∃ xs : List α, len = xs.length ∧ d.C w A xs.length xs ∧ xs.length ≤ cap ∧ cap ≤ maxLen ∧ ∀ x ∈ xs, Good x := by
  rcases open_slice ht h with ⟨h1, _⟩ | ⟨a, len', cap', m, n, D, Pl, h1, hb, hl, hm, hmm, _, hx⟩
  · simp only [List.cons.injEq, Value.slice.injEq, and_true] at h1
    obtain ⟨rfl, rfl, rfl⟩ := h1
    exact ⟨[], rfl, ⟨rfl, by simp, fun h => by simp at h⟩, Nat.le_refl _, by simp [maxLen], fun x h => by simp at h⟩
  · simp only [List.cons.injEq, Value.slice.injEq, and_true] at h1
    obtain ⟨rfl, rfl, rfl⟩ := h1
    have hlm : len ≤ m := by rw [hmm]; split <;> omega
    have each : ∀ i, i < len → ∃ z : α, (∃ c, c.length = d.sz ∧ d.K w z c ∧ ∀ j u, c[j]? = some u → w.cell? (a.add (i * d.sz + j)) = some u) ∧ Good z := by
      intro i hi
      obtain ⟨cs, hc, ht2⟩ := hx i (by omega)
      obtain ⟨z, hz, hg⟩ := one _ _ _ ht2
      obtain ⟨_, hcl, hcell⟩ := World.cells?_some hc
      refine ⟨z, ⟨cs, hcl.trans hs, hz, fun j u hj => ?_⟩, hg⟩
      have hjl : j < cs.length := (List.getElem?_eq_some_iff.1 hj).1
      have := hcell j (by omega)
      rw [hs, Go.Deep.add_add] at this
      rw [this, hj]
    by_cases hz : len = 0
    · subst hz
      exact ⟨[], rfl, ⟨rfl, by simp, fun h => by simp at h⟩, Nat.zero_le _, hm, fun x h => by simp at h⟩
    · obtain ⟨z0, _⟩ := each 0 (by omega)
      obtain ⟨f, hf⟩ : ∃ f : Nat → α, ∀ i, i < len → (∃ c, c.length = d.sz ∧ d.K w (f i) c ∧ ∀ j u, c[j]? = some u → w.cell? (a.add (i * d.sz + j)) = some u) ∧ Good (f i) := by
        haveI : Inhabited α := ⟨z0⟩
        exact choose_lt each
      have hlen : ((List.range len).map f).length = len := by simp
      refine ⟨(List.range len).map f, hlen.symm, ⟨rfl, ?_, fun _ => ⟨a, rfl, fun j p hj => ?_⟩⟩, by omega, hm, fun x h => ?_⟩
      · rw [hlen]; unfold maxLen at hm; omega
      · have hj2 := (List.getElem?_eq_some_iff.1 hj).1
        rw [hlen] at hj2
        have : p = f j := by
          simp [List.getElem?_map, List.getElem?_range hj2] at hj
          exact hj.symm
        subst this
        exact (hf j hj2).1
      · obtain ⟨j, hj, rfl⟩ := List.mem_map.1 h
        exact (hf j (List.mem_range.1 hj)).2
theorem one_string {H : Type} {enc : TypeId × Value → H} {P : Program} {w : World} {base : Nat} {spare : Nat → Bool} {held : Bool} {e : TypeId} (he : P.underlying e = some .string)
    (n : Nat) (cs : List Value) (y : DataW H × List MemPlace) (h : DataW.trod enc P w base spare held n e cs = some y) : ∃ x : ByteArray, Kd.string.K w x cs ∧ x.size ≤ maxLen := by
  obtain ⟨s, rfl, _, hw⟩ := DataW.trod_string he h
  exact ⟨s, rfl, hw⟩
end Go.Proofs.YtbkeakeldegkeaaOpen
end
section
namespace Go.Proofs.Ytbkeakeldegkeaa.StFnUriParts
open Go.RowKit Go.ChangeShapes Go.WideShapes Go.Proofs.Ytbkeakeldegkeaa.Q Go.Proofs.YtbkeakeldegkeaaW.PrintWords Go.Proofs.YtbkeakeldegkeaaW.PrintLast
set_option linter.unusedVariables false
set_option linter.unusedSimpArgs false
set_option maxRecDepth 100000
def Pure : Prop := ∀ (a0 : ByteArray) (l1 : List (ByteArray)) (a2 : ByteArray) (a3 : ByteArray), a0.size ≤ 140737488351232 → l1.length ≤ maxLen → (∀ x ∈ l1, x.size ≤ maxLen) → a2.size ≤ 140737488351232 → a3.size ≤ 140737488351232 → ∃ k, laws_FnUriParts.f k a0 l1 a2 a3 = some true
end Go.Proofs.Ytbkeakeldegkeaa.StFnUriParts
end
section
namespace Go.Proofs.Ytbkeakeldegkeaa.Q
open Go.RowKit Go.Proofs.YtbkeakeldegkeaaW.PrintWords Go.Proofs.YtbkeakeldegkeaaW.PrintLast Go.Proofs.YtbkeakeldegkeaaW.PrintMore
attribute [local go_sem] max2_int min2_int max_two min_two max_three min_three max_four min_four
set_option linter.unusedVariables false
set_option linter.unusedSimpArgs false
end Go.Proofs.Ytbkeakeldegkeaa.Q
end
section
namespace Go.Proofs.Ytbkeakeldegkeaa.SpA
open Go.RowKit Go.Proofs.Ytbkeakeldegkeaa.Q Go.Proofs.YtbkeakeldegkeaaW.PrintWords Go.Proofs.YtbkeakeldegkeaaW.PrintLast Go.Proofs.YtbkeakeldegkeaaKit
set_option linter.unusedVariables false
set_option linter.unusedSimpArgs false
theorem short_l (ys xs : List ByteArray) (hx : xs.length ≤ 9223372036854775807) : ∀ (suf pre : List ByteArray), xs = pre ++ suf → Ev (fun k => laws_short.l0 k ys xs xs.length pre.length) (suf.all (fun s => decide (s.size ≤ 2000)) && decide (ys.length ≤ 60))
  | [], pre, h => by
    refine Ev.step (f := fun _ => some (decide ((ys.length : Int) ≤ 60))) (fun k => by simp only [laws_short.l0]; rw [if_neg (ln_not h)]) (Ev.same (Ev.now _) ?_)
    rw [List.all_nil, Bool.true_and]
    exact decide_eq_decide.2 (by omega)
  | p :: t, pre, h => by
    have e : rdOf ByteArray.empty xs pre.length = p := get_mid h _
    rw [List.all_cons]
    by_cases c : p.size ≤ 2000
    · rw [decide_eq_true c, Bool.true_and]
      refine Ev.step (fun k => ?_) (short_l ys xs hx t (pre ++ [p]) (lmid_next h))
      simp only [laws_short.l0]
      rw [if_pos (ln_mid h), if_pos (by omega), if_pos (ln_mid h), e, if_neg (by omega), wrap_lmid h hx]
    · rw [decide_eq_false c, Bool.false_and, Bool.false_and]
      refine Ev.step (f := fun _ => some false) (fun k => ?_) (Ev.now _)
      simp only [laws_short.l0]
      rw [if_pos (ln_mid h), if_pos (by omega), if_pos (ln_mid h), e, if_pos (by omega)]
def isWordB (c : UInt8) : Bool := !(decide ((Go.bits .or .u8 (c.toNat : Int) 32) < 97) || decide ((Go.bits .or .u8 (c.toNat : Int) 32) > 122)) || !(decide ((c.toNat : Int) < 48) || decide ((c.toNat : Int) > 57))
end Go.Proofs.Ytbkeakeldegkeaa.SpA
end
section
namespace Go.Proofs.Ytbkeakeldegkeaa.SpA
open Go.RowKit Go.Proofs.Ytbkeakeldegkeaa.Q Go.Proofs.YtbkeakeldegkeaaW.PrintWords Go.Proofs.YtbkeakeldegkeaaW.PrintLast Go.Proofs.YtbkeakeldegkeaaKit
set_option linter.unusedVariables false
set_option linter.unusedSimpArgs false
theorem holds_l (s : ByteArray) (x : Int) (hs : s.size ≤ 140737488351232) : ∀ (suf pre : List UInt8), L s = pre ++ suf → Ev (fun k => laws_holds.l0 k s x s.size pre.length) (suf.any (fun c => decide ((c.toNat : Int) = x)))
  | [], pre, h => Ev.step (f := fun _ => some false) (fun k => by simp only [laws_holds.l0]; rw [if_neg (sz_not h)]) (Ev.now _)
  | c :: t, pre, h => by
    rw [List.any_cons]
    by_cases c1 : (c.toNat : Int) = x
    · rw [decide_eq_true c1, Bool.true_or]
      refine Ev.step (f := fun _ => some true) (fun k => ?_) (Ev.now _)
      simp only [laws_holds.l0]
      rw [if_pos (sz_mid h), if_pos (by omega), if_pos (sz_mid h), bt_mid h, if_pos c1]
    · rw [decide_eq_false c1, Bool.false_or]
      refine Ev.step (fun k => ?_) (holds_l s x hs t (pre ++ [c]) (mid_next h))
      simp only [laws_holds.l0]
      rw [if_pos (sz_mid h), if_pos (by omega), if_pos (sz_mid h), bt_mid h, if_neg c1, wrap_mid h hs]
theorem holds (s : ByteArray) (x : Int) (hs : s.size ≤ 140737488351232) : Ev (fun k => laws_holds.f k s x) ((L s).any (fun c => decide ((c.toNat : Int) = x))) := holds_l s x hs (L s) [] rfl
end Go.Proofs.Ytbkeakeldegkeaa.SpA
end
section
namespace Go.Proofs.Ytbkeakeldegkeaa.SpA
open Go.RowKit Go.Proofs.Ytbkeakeldegkeaa.Q Go.Proofs.YtbkeakeldegkeaaW.PrintWords Go.Proofs.YtbkeakeldegkeaaW.PrintLast Go.Proofs.YtbkeakeldegkeaaKit
set_option linter.unusedVariables false
set_option linter.unusedSimpArgs false
theorem word_l (s : ByteArray) (hs : s.size ≤ 140737488351232) : ∀ (suf pre : List UInt8), L s = pre ++ suf → Ev (fun k => laws_word.l0 k s s.size pre.length) (suf.all isWordB && (L s != []))
  | [], pre, h => by
    refine Ev.step (f := fun _ => some (s.toList != [])) (fun k => by simp only [laws_word.l0]; rw [if_neg (sz_not h)]) (Ev.same (Ev.now _) ?_)
    rw [List.all_nil, Bool.true_and, tl]
  | c :: t, pre, h => by
    have ih := word_l s hs t (pre ++ [c]) (mid_next h)
    rw [List.all_cons]
    have hg : ∀ k, laws_word.l0 (k + 1) s s.size pre.length = if isWordB c = true then laws_word.l0 k s s.size (pre ++ [c]).length else some false := by
      intro k
      simp only [laws_word.l0]
      rw [if_pos (sz_mid h), if_pos (by omega), if_pos (sz_mid h), bt_mid h, wrap_mid h hs]
      unfold isWordB
      generalize Go.bits BinOp.or IntKind.u8 (c.toNat : Int) 32 = z
      by_cases h1 : z < 97
      · by_cases h2 : (c.toNat : Int) < 48
        · simp [h1, h2]
        · by_cases h3 : (c.toNat : Int) > 57 <;> simp [h1, h2, h3]
      · by_cases h4 : z > 122
        · by_cases h2 : (c.toNat : Int) < 48
          · simp [h1, h2, h4]
          · by_cases h3 : (c.toNat : Int) > 57 <;> simp [h1, h2, h3, h4]
        · simp [h1, h4]
    by_cases c1 : isWordB c = true
    · rw [c1, Bool.true_and]
      exact Ev.step (fun k => by rw [hg k, if_pos c1]) ih
    · rw [Bool.eq_false_iff.2 c1, Bool.false_and, Bool.false_and]
      exact Ev.step (f := fun _ => some false) (fun k => by rw [hg k, if_neg c1]) (Ev.now _)
theorem word (s : ByteArray) (hs : s.size ≤ 140737488351232) : Ev (fun k => laws_word.f k s) ((L s).all isWordB && (L s != [])) := word_l s hs (L s) [] rfl
end Go.Proofs.Ytbkeakeldegkeaa.SpA
end
section
namespace Go.Proofs.Ytbkeakeldegkeaa.SpA
open Go.RowKit Go.Proofs.Ytbkeakeldegkeaa.Q Go.Proofs.YtbkeakeldegkeaaW.PrintWords Go.Proofs.YtbkeakeldegkeaaW.PrintLast Go.Proofs.YtbkeakeldegkeaaKit
set_option linter.unusedVariables false
set_option linter.unusedSimpArgs false
theorem norm_plain (l : List UInt8) (h : (37 : UInt8) ∉ l) : norm l = Cl.cleanK (lead l ++ l) := by rw [norm, dec_none l h]
theorem norm_slash (t : List UInt8) (h : (37 : UInt8) ∉ (47 :: t : List UInt8)) : norm (47 :: t) = Cl.cleanK (47 :: t) := by rw [norm_plain _ h, lead, if_pos rfl]; rfl
theorem calm_l1 (s : ByteArray) (hs : s.size ≤ 140737488351232) (r : Bool) (xs : List ByteArray) (n j : Int) (hr : Ev (fun k => laws_calm.l0 k xs n (wrap64 (j + 1))) r) : ∀ (suf pre : List UInt8), L s = pre ++ suf → Ev (fun k => laws_calm.l1 k s xs n j (s.size : Int) pre.length) (!(suf.any isCtl) && r) := by
  intro suf
  induction suf with
  | nil =>
    intro pre h
    refine Ev.step (fun k => ?_) (Ev.same hr (by simp))
    simp only [laws_calm.l1]
    rw [if_neg (sz_not h)]
  | cons c t ih =>
    intro pre h
    have hany : (c :: t).any isCtl = (isCtl c || t.any isCtl) := rfl
    have hbt := bt_mid h
    have ih' := ih (pre ++ [c]) (mid_next h)
    rw [hany]
    by_cases h1 : c.toNat < 32
    · rw [show isCtl c = true by simp [isCtl, h1]]
      refine Ev.step (f := fun _ => some false) (fun k => ?_) (Ev.now _)
      simp only [laws_calm.l1]
      rw [if_pos (sz_mid h), if_pos (by omega), if_pos (sz_mid h), hbt, if_pos (by omega)]
    · by_cases h2 : c = 127
      · subst h2
        refine Ev.step (f := fun _ => some false) (fun k => ?_) (Ev.now _)
        simp only [laws_calm.l1]
        rw [if_pos (sz_mid h), if_pos (by omega), if_pos (sz_mid h), hbt, if_neg (by omega), if_pos (by decide)]
      · have hc : isCtl c = false := by simp [isCtl, h1, h2]
        have h3 : ¬ (c.toNat : Int) = 127 := fun e => h2 (UInt8.toNat_inj.1 (by show c.toNat = 127; omega))
        rw [hc, Bool.false_or]
        refine Ev.step (fun k => ?_) ih'
        simp only [laws_calm.l1]
        rw [if_pos (sz_mid h), if_pos (by omega), if_pos (sz_mid h), hbt, if_neg (by omega), if_neg h3, wrap_mid h hs]
theorem calm_l0 (xs : List ByteArray) (hx : xs.length ≤ 9223372036854775807) (hz : ∀ s ∈ xs, s.size ≤ 140737488351232) : ∀ (suf pre : List ByteArray), xs = pre ++ suf → Ev (fun k => laws_calm.l0 k xs xs.length pre.length) (suf.all fun s => !((L s).any isCtl))
  | [], pre, h => by
    refine Ev.step (f := fun _ => some true) (fun k => ?_) (Ev.now _)
    simp only [laws_calm.l0]
    rw [if_neg (ln_not h)]
  | p :: t, pre, h => by
    have e : rdOf ByteArray.empty xs pre.length = p := get_mid h _
    have ih := calm_l0 xs hx hz t (pre ++ [p]) (lmid_next h)
    rw [show ((pre ++ [p]).length : Int) = wrap64 ((pre.length : Int) + 1) from (wrap_lmid h hx).symm] at ih
    rw [List.all_cons]
    refine Ev.step (fun k => ?_) (calm_l1 p (hz p (by rw [h]; simp)) _ xs xs.length pre.length ih (L p) [] rfl)
    simp only [laws_calm.l0]
    rw [if_pos (ln_mid h), if_pos (by omega), if_pos (ln_mid h), e]
    rfl
theorem word_all : ∀ c : Fin 256, (!isWordB (UInt8.ofNat c.val) || (!isCtl (UInt8.ofNat c.val) && UInt8.ofNat c.val != 47 && UInt8.ofNat c.val != 64 && UInt8.ofNat c.val != 37 && UInt8.ofNat c.val != 63 && UInt8.ofNat c.val != 35 && UInt8.ofNat c.val != 58 && UInt8.ofNat c.val != 46)) = true := by decide +kernel
theorem word_no (c : UInt8) (h : isWordB c = true) : isCtl c = false ∧ c ≠ 47 ∧ c ≠ 64 ∧ c ≠ 37 ∧ c ≠ 63 ∧ c ≠ 35 ∧ c ≠ 58 ∧ c ≠ 46 := by
  have h1 := word_all ⟨c.toNat, c.toNat_lt⟩
  simp only [show UInt8.ofNat ((⟨c.toNat, c.toNat_lt⟩ : Fin 256) : Nat) = c by simp, h, Bool.not_true, Bool.false_or, Bool.and_eq_true, bne_iff_ne, ne_eq, Bool.not_eq_true'] at h1
  obtain ⟨⟨⟨⟨⟨⟨⟨a, b⟩, c'⟩, d⟩, e⟩, f⟩, g⟩, i⟩ := h1
  exact ⟨a, b, c', d, e, f, g, i⟩
structure Wu (l : List UInt8) : Prop where
  ne : l ≠ []
  ctl : l.any isCtl = false
  at_ : (64 : UInt8) ∉ l
  slash : (47 : UInt8) ∉ l
  pct : (37 : UInt8) ∉ l
  qm : (63 : UInt8) ∉ l
  num : (35 : UInt8) ∉ l
  col : (58 : UInt8) ∉ l
  dot : (46 : UInt8) ∉ l
theorem wu_of (l : List UInt8) (h : (l.all isWordB && (l != [])) = true) : Wu l := by
  obtain ⟨h1, h2⟩ := Bool.and_eq_true_iff.1 h
  have hall : ∀ c ∈ l, isWordB c = true := fun c hc => List.all_eq_true.1 h1 c hc
  refine ⟨by simpa using h2, ?_, fun hm => ?_, fun hm => ?_, fun hm => ?_, fun hm => ?_, fun hm => ?_, fun hm => ?_, fun hm => ?_⟩
  · rw [List.any_eq_false]
    intro c hc
    rw [(word_no c (hall c hc)).1]; simp
  · exact (word_no _ (hall _ hm)).2.2.1 rfl
  · exact (word_no _ (hall _ hm)).2.1 rfl
  · exact (word_no _ (hall _ hm)).2.2.2.1 rfl
  · exact (word_no _ (hall _ hm)).2.2.2.2.1 rfl
  · exact (word_no _ (hall _ hm)).2.2.2.2.2.1 rfl
  · exact (word_no _ (hall _ hm)).2.2.2.2.2.2.1 rfl
  · exact (word_no _ (hall _ hm)).2.2.2.2.2.2.2 rfl
def H7 : List UInt8 := [104, 116, 116, 112, 58, 47, 47]
theorem upto_app {c : UInt8} : ∀ {p t : List UInt8}, c ∉ p → upto c (p ++ c :: t) = p ∧ (p ++ c :: t).dropWhile (· != c) = c :: t
  | [], t, _ => by simp [upto]
  | x :: p, t, h => by
    have hx : (x != c) = true := bne_iff_ne.2 (fun e => h (by simp [e]))
    obtain ⟨h1, h2⟩ := upto_app (c := c) (p := p) (t := t) (fun e => h (by simp [e]))
    unfold upto at *
    simp [hx, h1, h2]
theorem part_http (host t : List UInt8) (hh : (47 : UInt8) ∉ host) : partU [] (H7 ++ host ++ 47 :: t) = some (HTTP, host, 47 :: t) := by
  have e : H7 ++ host ++ 47 :: t = 104 :: 116 :: 116 :: 112 :: 58 :: 47 :: 47 :: (host ++ 47 :: t) := by simp [H7]
  rw [e]
  unfold partU
  have hs : schEnd 0 (104 :: 116 :: 116 :: 112 :: 58 :: 47 :: 47 :: (host ++ 47 :: t)) = some 4 := by simp [schEnd, isAl, isSg]
  rw [hs]
  simp only [List.drop_succ_cons, List.drop_zero, List.take_succ_cons, List.take_zero, List.length_cons]
  rw [if_neg (by omega), if_pos (by simp), (upto_app hh).1, (upto_app hh).2]
  rfl
theorem parse_http (host t : List UInt8) (hh : (47 : UInt8) ∉ host) (hc : (H7 ++ host ++ 47 :: t).any isCtl = false) : parseU [] (H7 ++ host ++ 47 :: t) = some (restU HTTP host (47 :: t)) := by
  unfold parseU
  rw [hc]
  simp only [Bool.false_eq_true, if_false]
  rw [if_pos (by simp), part_http host t hh]
  rfl
theorem uriOf_eq (a0 a1 : ByteArray) (h0 : a0.size ≤ 3000000000) (h1 : a1.size ≤ 3000000000) (hc : (L a1).any isCtl = false) (u : UR) (hp : parseU (L a0) (L a1) = some u) (ho : u.orig.length ≤ 2147483647) :
    impl_UriOf.f a0 a1 = some (⟨u.sch.toArray⟩, ⟨u.host.toArray⟩, ⟨u.path.toArray⟩, ⟨u.orig.toArray⟩, ⟨u.query.toArray⟩, ⟨u.hash.toArray⟩, ⟨u.user.toArray⟩, ⟨u.pass.toArray⟩, true) := by
  unfold impl_UriOf.f
  rw [if_pos ⟨⟨h0, h1⟩, hc⟩, hp]
  simp only
  rw [if_pos ho]
theorem parses : laws_parses.f = some true := by
  have hp : parseU (L ⟨#[]⟩) (L ⟨#[104, 116, 116, 112, 58, 47, 47, 104, 47, 97, 63, 98, 61, 99, 35, 100]⟩) = some ⟨HTTP, [104], [47, 97], [47, 97], [98, 61, 99], [100], [], []⟩ := by
    have := parse_http [104] [97, 63, 98, 61, 99, 35, 100] (by decide) (by decide)
    refine this.trans ?_
    congr 1
    unfold restU
    rw [show authU [104] = ([], [], [104]) by decide, show pathU (47 :: [97, 63, 98, 61, 99, 35, 100]) = ([47, 97], [98, 61, 99], [100]) by decide]
    simp only
    rw [norm_slash _ (by decide), show Cl.cleanK [47, 97] = [47, 97] by decide]
    rfl
  unfold laws_parses.f
  rw [uriOf_eq _ _ (by decide) (by decide) (by decide) _ hp (by decide)]
  simp only [Option.bind_some, tl]
  rfl
end Go.Proofs.Ytbkeakeldegkeaa.SpA
end
section
namespace Go.Proofs.Ytbkeakeldegkeaa.SpA
open Go.RowKit Go.Proofs.Ytbkeakeldegkeaa.Q Go.Proofs.YtbkeakeldegkeaaW.PrintWords Go.Proofs.YtbkeakeldegkeaaW.PrintLast Go.Proofs.YtbkeakeldegkeaaKit
set_option linter.unusedVariables false
set_option linter.unusedSimpArgs false
theorem um_fits1_l (xs : List ByteArray) (hx : xs.length ≤ 9223372036854775807) : ∀ (suf pre : List ByteArray), xs = pre ++ suf → Ev (fun k => laws_zzFits1.l0 k xs xs.length pre.length) (suf.all fun s => decide (s.size ≤ 2147483647))
  | [], pre, h => by
    refine Ev.step (f := fun _ => some true) (fun k => by simp only [laws_zzFits1.l0]; rw [if_neg (ln_not h)]) (Ev.now _)
  | p :: t, pre, h => by
    have e : rdOf ByteArray.empty xs pre.length = p := get_mid h _
    rw [List.all_cons]
    by_cases c : p.size ≤ 2147483647
    · rw [decide_eq_true c, Bool.true_and]
      refine Ev.step (fun k => ?_) (um_fits1_l xs hx t (pre ++ [p]) (lmid_next h))
      simp only [laws_zzFits1.l0]
      rw [if_pos (ln_mid h), if_pos (by omega), if_pos (ln_mid h), e, if_neg (by omega), wrap_lmid h hx]
    · rw [decide_eq_false c, Bool.false_and]
      refine Ev.step (f := fun _ => some false) (fun k => ?_) (Ev.now _)
      simp only [laws_zzFits1.l0]
      rw [if_pos (ln_mid h), if_pos (by omega), if_pos (ln_mid h), e, if_pos (by omega)]
theorem um_fits1 (xs : List ByteArray) (hx : xs.length ≤ 9223372036854775807) : ∃ b, Ev (fun k => laws_zzFits1.f k xs) b ∧ (b = true → xs.length ≤ 2147483647 ∧ ∀ p ∈ xs, p.size ≤ 2147483647) := by
  unfold laws_zzFits1.f
  by_cases h : (xs.length : Int) > 2147483647
  · exact ⟨false, Ev.pos h (Ev.now _), fun e => by simp at e⟩
  · refine ⟨_, Ev.neg h (um_fits1_l xs hx xs [] rfl), fun e => ⟨by omega, fun p hp => ?_⟩⟩
    have := List.all_eq_true.1 e p hp
    exact of_decide_eq_true this
structure um_Wd (l : List UInt8) : Prop where
  slash : (47 : UInt8) ∉ l
  pct : (37 : UInt8) ∉ l
  good : Cl.good l
theorem um_wd_of (l : List UInt8) (h : (l.all isWordB && (l != [])) = true) : um_Wd l := by
  have hall : ∀ c ∈ l, isWordB c = true := fun c hc => List.all_eq_true.1 (Bool.and_eq_true_iff.1 h).1 c hc
  have hne : l ≠ [] := by
    intro e
    rw [e] at h
    simp at h
  have no : ∀ c : UInt8, isWordB c = false → c ∉ l := fun c hc hm => by rw [hall c hm] at hc; cases hc
  have hdot : (46 : UInt8) ∉ l := no 46 (by decide +kernel)
  refine ⟨no 47 (by decide +kernel), no 37 (by decide +kernel), hne, fun e => hdot (by rw [e]; simp), fun e => hdot (by rw [e]; simp)⟩
theorem um_join_pct (S : List (List UInt8)) (h : ∀ q ∈ S, (37 : UInt8) ∉ q) : (37 : UInt8) ∉ Cl.joinS S := by
  unfold Cl.joinS
  intro hm
  obtain ⟨q, hq, hc⟩ := List.mem_flatMap.1 hm
  rcases List.mem_cons.1 hc with e | e
  · exact absurd e (by decide)
  · exact h q hq e
theorem um_norm_words (S : List (List UInt8)) (last : List UInt8) (hS : ∀ q ∈ S, um_Wd q) (h1 : (47 : UInt8) ∉ last) (h2 : (37 : UInt8) ∉ last) (h3 : last ≠ [46, 46]) : norm (Cl.joinS (S ++ [last])) = Cl.joinS (S ++ [last]) := by
  obtain ⟨t, ht⟩ := Cl.joinS_slash S last
  have hp : (37 : UInt8) ∉ Cl.joinS (S ++ [last]) := um_join_pct _ fun q hq => by
    rw [List.mem_append] at hq
    rcases hq with hq | hq
    · exact (hS q hq).pct
    · rw [List.mem_singleton.1 hq]; exact h2
  rw [ht] at hp ⊢
  rw [norm_slash t hp, ← ht]
  exact Cl.clean_words S last (fun q hq => ⟨(hS q hq).slash, (hS q hq).good⟩) h1 h3
def HTTPS : List UInt8 := [104, 116, 116, 112, 115]
theorem um_part (sc : List UInt8) (hsc : sc = HTTP ∨ sc = HTTPS) (host t : List UInt8) (hh : (47 : UInt8) ∉ host) : partU [] (sc ++ SEP ++ host ++ 47 :: t) = some (sc, host, 47 :: t) := by
  rcases hsc with rfl | rfl
  · exact part_http host t hh
  · have e : HTTPS ++ SEP ++ host ++ 47 :: t = 104 :: 116 :: 116 :: 112 :: 115 :: 58 :: 47 :: 47 :: (host ++ 47 :: t) := by simp [HTTPS, SEP]
    rw [e]
    unfold partU
    have hs : schEnd 0 (104 :: 116 :: 116 :: 112 :: 115 :: 58 :: 47 :: 47 :: (host ++ 47 :: t)) = some 5 := by simp [schEnd, isAl, isSg]
    rw [hs]
    simp only [List.drop_succ_cons, List.drop_zero, List.take_succ_cons, List.take_zero, List.length_cons]
    rw [if_neg (by omega), if_pos (by simp), (upto_app hh).1, (upto_app hh).2]
    rfl
theorem um_sclow (sc : List UInt8) (hsc : sc = HTTP ∨ sc = HTTPS) : sc.map lowU = sc ∧ sc ≠ [] ∧ ∀ d ∈ sc, isCtl d = false := by rcases hsc with rfl | rfl <;> decide
theorem um_rest (sc : List UInt8) (hsc : sc = HTTP ∨ sc = HTTPS) (host t : List UInt8) (hh : (47 : UInt8) ∉ host) (hc : (sc ++ SEP ++ host ++ 47 :: t).any isCtl = false) : parseU [] (sc ++ SEP ++ host ++ 47 :: t) = some (restU sc host (47 :: t)) := by
  unfold parseU
  rw [hc]
  simp only [Bool.false_eq_true, if_false]
  rw [if_pos (by simp), um_part sc hsc host t hh]
  simp only [Option.map_some]
  rw [(um_sclow sc hsc).1]
theorem um_ctl (l : List UInt8) (hw : Wu l) : ∀ d ∈ l, isCtl d = false := fun d hd => by have := List.any_eq_false.1 hw.ctl d hd; simpa using this
end Go.Proofs.Ytbkeakeldegkeaa.SpA
end
section
namespace Go.Proofs.Ytbkeakeldegkeaa.SpA
open Go.RowKit Go.Proofs.Ytbkeakeldegkeaa.Q Go.Proofs.YtbkeakeldegkeaaW.PrintWords Go.Proofs.YtbkeakeldegkeaaW.PrintLast Go.Proofs.YtbkeakeldegkeaaKit
set_option linter.unusedVariables false
set_option linter.unusedSimpArgs false
structure Pth (p : List UInt8) : Prop where
  norm : norm p = p
  head : ∃ t, p = 47 :: t
  num : (35 : UInt8) ∉ p
  qm : (63 : UInt8) ∉ p
  ctl : ∀ d ∈ p, isCtl d = false
theorem pth_join (S : List (List UInt8)) (hne : S ≠ []) (h : ∀ w ∈ S, um_Wd w ∧ Wu w) : Pth (Cl.joinS S) := by
  have hmem : ∀ d ∈ Cl.joinS S, d = 47 ∨ ∃ w ∈ S, d ∈ w := fun d hd => by
    unfold Cl.joinS at hd
    obtain ⟨q, hq, hc⟩ := List.mem_flatMap.1 hd
    rcases List.mem_cons.1 hc with e | e
    · exact .inl e
    · exact .inr ⟨q, hq, e⟩
  have hc := (List.dropLast_concat_getLast hne).symm
  have hlast := (h (S.getLast hne) (List.getLast_mem hne)).1
  refine ⟨?_, ?_, fun hm => ?_, fun hm => ?_, fun d hd => ?_⟩
  · rw [hc]
    exact um_norm_words _ _ (fun y hy => (h y (by rw [hc]; simp [hy])).1) hlast.slash hlast.pct hlast.good.2.2
  · rw [hc]; exact Cl.joinS_slash _ _
  · rcases hmem 35 hm with e | ⟨w, hw, e⟩
    · exact absurd e (by decide)
    · exact (h w hw).2.num e
  · rcases hmem 63 hm with e | ⟨w, hw, e⟩
    · exact absurd e (by decide)
    · exact (h w hw).2.qm e
  · rcases hmem d hd with e | ⟨w, hw, e⟩
    · rw [e]; decide
    · exact um_ctl w (h w hw).2 d e
theorem up_ctl {l : List UInt8} (h : ∀ d ∈ l, isCtl d = false) : l.any isCtl = false := by
  rw [List.any_eq_false]
  intro d hd
  rw [h d hd]; decide
theorem up_parse (sc : List UInt8) (hsc : sc = HTTP ∨ sc = HTTPS) (host p q h : List UInt8) (hh47 : (47 : UInt8) ∉ host) (hh64 : (64 : UInt8) ∉ host) (hhc : ∀ d ∈ host, isCtl d = false) (hp : Pth p) (hqc : ∀ d ∈ q, isCtl d = false) (hc : ∀ d ∈ h, isCtl d = false) (hq35 : (35 : UInt8) ∉ q) :
    (sc ++ SEP ++ host ++ (p ++ 63 :: q ++ 35 :: h)).any isCtl = false ∧ parseU [] (sc ++ SEP ++ host ++ (p ++ 63 :: q ++ 35 :: h)) = some ⟨sc, host.map lowU, p, p, q, h, [], []⟩ := by
  obtain ⟨t, ht⟩ := hp.head
  have e1 : p ++ 63 :: q ++ 35 :: h = 47 :: (t ++ 63 :: q ++ 35 :: h) := by rw [ht]; simp
  have hctl : (sc ++ SEP ++ host ++ (p ++ 63 :: q ++ 35 :: h)).any isCtl = false := up_ctl fun d hd => by
    rcases List.mem_append.1 hd with hd | hd
    · rcases List.mem_append.1 hd with hd | hd
      · rcases List.mem_append.1 hd with hd | hd
        · exact (um_sclow sc hsc).2.2 d hd
        · have : ∀ d ∈ SEP, isCtl d = false := by decide
          exact this d hd
      · exact hhc d hd
    · rcases List.mem_append.1 hd with hd | hd
      · rcases List.mem_append.1 hd with hd | hd
        · exact hp.ctl d hd
        · rcases List.mem_cons.1 hd with e | e
          · rw [e]; decide
          · exact hqc d e
      · rcases List.mem_cons.1 hd with e | e
        · rw [e]; decide
        · exact hc d e
  refine ⟨hctl, ?_⟩
  have h35 : (35 : UInt8) ∉ p ++ 63 :: q := fun hm => by
    rcases List.mem_append.1 hm with e | e
    · exact hp.num e
    · rcases List.mem_cons.1 e with e | e
      · exact absurd e (by decide)
      · exact hq35 e
  have c35 := upto_app (c := 35) (p := p ++ 63 :: q) (t := h) h35
  have c63 := upto_app (c := 63) (p := p) (t := q) hp.qm
  have p35 : past 35 (p ++ 63 :: q ++ 35 :: h) = h := by unfold past; rw [c35.2]; rfl
  have p63 : past 63 (p ++ 63 :: q) = q := by unfold past; rw [c63.2]; rfl
  rw [e1] at hctl ⊢
  rw [um_rest sc hsc host _ hh47 hctl]
  congr 1
  rw [← e1]
  unfold restU authU pathU
  rw [if_neg hh64, c35.1, p35, c63.1, p63, hp.norm]
theorem short4 (a b c d : ByteArray) : Ev (fun k => laws_short.f k [a, b, c, d]) (decide (a.size ≤ 2000) && (decide (b.size ≤ 2000) && (decide (c.size ≤ 2000) && decide (d.size ≤ 2000)))) :=
  Ev.same (short_l [a, b, c, d] [a, b, c, d] (by simp) [a, b, c, d] [] rfl) (by simp)
theorem calm2 (a b : ByteArray) (ha : a.size ≤ 140737488351232) (hb : b.size ≤ 140737488351232) : Ev (fun k => laws_calm.f k [a, b]) (!((L a).any isCtl) && !((L b).any isCtl)) :=
  Ev.same (calm_l0 [a, b] (by simp) (by simp; exact ⟨ha, hb⟩) [a, b] [] rfl) (by simp)
end Go.Proofs.Ytbkeakeldegkeaa.SpA
end
section
namespace Go.Proofs.Ytbkeakeldegkeaa.Pure
open Go.RowKit Go.Proofs.Ytbkeakeldegkeaa.Q Go.Proofs.YtbkeakeldegkeaaW.PrintWords Go.Proofs.YtbkeakeldegkeaaW.PrintLast Go.Proofs.YtbkeakeldegkeaaKit Go.Proofs.Ytbkeakeldegkeaa.SpA
set_option linter.unusedVariables false
set_option linter.unusedSimpArgs false
theorem up_true (a b c d : ByteArray) : Ev (fun k => laws_FnUriParts.j2 k a b c d true) true :=
  Ev.step (f := fun _ => some true) (fun k => by simp only [laws_FnUriParts.j2]; rw [if_pos trivial]) (Ev.now _)
theorem up_go (a q h p : ByteArray) (ha : a.size ≤ 2000) (hq : q.size ≤ 2000) (hh : h.size ≤ 2000) (hp : p.size ≤ 2000) (wa : Wu (L a)) (hqc : (L q).any isCtl = false) (hhc : (L h).any isCtl = false) (hq35 : (35 : UInt8) ∉ L q) (hP : Pth (L p)) : Ev (fun k => laws_FnUriParts.j2 k a q h p false) true := by
  have e1 : laws_low.f a = some ⟨((L a).map lowU).toArray⟩ := by unfold laws_low.f; rw [if_pos (by omega)]; rfl
  have hm := up_parse HTTP (.inl rfl) (L a) (L p) (L q) (L h) wa.slash wa.at_ (um_ctl _ wa) hP (fun d hd => by have := List.any_eq_false.1 hqc d hd; simpa using this) (fun d hd => by have := List.any_eq_false.1 hhc d hd; simpa using this) hq35
  have hF : L (((((((⟨#[104, 116, 116, 112, 58, 47, 47]⟩ : ByteArray) ++ a) ++ p) ++ (⟨#[63]⟩ : ByteArray)) ++ q) ++ (⟨#[35]⟩ : ByteArray)) ++ h) = HTTP ++ SEP ++ L a ++ (L p ++ 63 :: L q ++ 35 :: L h) := by
    simp only [L_append]
    simp [L, HTTP, SEP]
  have z7 : (⟨#[104, 116, 116, 112, 58, 47, 47]⟩ : ByteArray).size = 7 := rfl
  have z1 : (⟨#[63]⟩ : ByteArray).size = 1 := rfl
  have z2 : (⟨#[35]⟩ : ByteArray).size = 1 := rfl
  have hsz : (((((((⟨#[104, 116, 116, 112, 58, 47, 47]⟩ : ByteArray) ++ a) ++ p) ++ (⟨#[63]⟩ : ByteArray)) ++ q) ++ (⟨#[35]⟩ : ByteArray)) ++ h).size ≤ 3000000000 := by
    simp only [size_append, z7, z1, z2]; omega
  have e3 := uriOf_eq ⟨#[]⟩ _ (by decide) hsz (by rw [hF]; exact hm.1) _ (by rw [hF]; exact hm.2) (by show (L p).length ≤ _; rw [← size_L]; omega)
  refine Ev.step (fun k => by simp only [laws_FnUriParts.j2]; rw [if_neg (by decide)]) ?_
  refine Ev.pos (by omega) (Ev.pos (by omega) (Ev.pos (by omega) (Ev.pos (by omega) (Ev.pos (by omega) (Ev.pos (by omega) (Ev.call (Ev.some e3) (Ev.pos rfl (Ev.pos (by rw [tl]; rfl) (Ev.call (Ev.some e1) (Ev.pos ?_ (Ev.pos ?_ (Ev.pos ?_ (Ev.pos ?_ (Ev.pos ?_ (Ev.pos ?_ (Ev.some ?_))))))))))))))))
  · first | rfl | (simp only [tl]; done) | (simp only [tl]; rfl)
  · first | rfl | (simp only [tl]; done) | (simp only [tl]; rfl)
  · first | rfl | (simp only [tl]; done) | (simp only [tl]; rfl)
  · first | rfl | (simp only [tl]; done) | (simp only [tl]; rfl)
  · first | rfl | (simp only [tl]; done) | (simp only [tl]; rfl)
  · first | rfl | (simp only [tl]; done) | (simp only [tl]; rfl)
  · first | rfl | (simp only [tl]; done) | (simp only [tl]; rfl)
theorem up_l (a q hs : ByteArray) (xs : List ByteArray) (ha : a.size ≤ 2147483647) (hq : q.size ≤ 2147483647) (hh : hs.size ≤ 2147483647) (hx : xs.length ≤ 2147483647) (hz : ∀ p ∈ xs, p.size ≤ 2147483647) : ∀ (suf pre : List ByteArray) (acc : ByteArray), xs = pre ++ suf → L acc = Cl.joinS (pre.map L) → (∀ p ∈ pre, um_Wd (L p) ∧ Wu (L p)) → acc.size ≤ pre.length * 2147483648 →
    Ev (fun k => laws_FnUriParts.l0 k a q hs acc xs xs.length pre.length) true
  | [], pre, acc, h, hacc, hw, hl => by
    refine Ev.step (fun k => by simp only [laws_FnUriParts.l0]; rw [if_neg (ln_not h)]) ?_
    refine Ev.call (word a (by omega)) ?_
    by_cases h1 : ((L a).all isWordB && (L a != [])) = true
    · rw [h1]
      refine Ev.pos rfl ?_
      by_cases hn : acc.toList = ([] : List UInt8)
      · exact Ev.pos hn (up_true _ _ _ _)
      refine Ev.neg hn (Ev.call (short4 a acc q hs) ?_)
      by_cases h4 : (decide (a.size ≤ 2000) && (decide (acc.size ≤ 2000) && (decide (q.size ≤ 2000) && decide (hs.size ≤ 2000)))) = true
      · rw [h4]
        simp only [Bool.and_eq_true, decide_eq_true_eq] at h4
        refine Ev.pos rfl (Ev.call (calm2 q hs (by omega) (by omega)) ?_)
        by_cases h5 : (!((L q).any isCtl) && !((L hs).any isCtl)) = true
        · rw [h5]
          simp only [Bool.and_eq_true, Bool.not_eq_true'] at h5
          refine Ev.pos rfl (Ev.call (holds q 35 (by omega)) ?_)
          by_cases h6 : (L q).any (fun c => decide ((c.toNat : Int) = 35)) = true
          · rw [h6]; exact up_true _ _ _ _
          · have h6 : (L q).any (fun c => decide ((c.toNat : Int) = 35)) = false := by simpa using h6
            rw [h6]
            have hpre : pre.map L ≠ [] := by
              intro e
              rw [tl, hacc, e] at hn
              exact hn rfl
            have hP : Pth (L acc) := by
              rw [hacc]
              exact pth_join _ hpre fun y hy => by
                obtain ⟨p, hp, rfl⟩ := List.mem_map.1 hy
                exact hw p hp
            exact up_go a q hs acc h4.1 h4.2.2.1 h4.2.2.2 h4.2.1 (wu_of _ h1) h5.1 h5.2 (fun hm => absurd (List.any_eq_false.1 h6 35 hm) (by decide)) hP
        · rw [Bool.eq_false_iff.2 h5]; exact Ev.neg (by simp) (up_true _ _ _ _)
      · rw [Bool.eq_false_iff.2 h4]; exact Ev.neg (by simp) (up_true _ _ _ _)
    · rw [Bool.eq_false_iff.2 h1]; exact Ev.neg (by simp) (up_true _ _ _ _)
  | p :: t, pre, acc, h, hacc, hw, hl => by
    have e : rdOf ByteArray.empty xs pre.length = p := get_mid h _
    have hp := hz p (by rw [h]; simp)
    have hlen : pre.length + (t.length + 1) ≤ 2147483647 := by rw [h] at hx; simpa using hx
    have hac2 : acc.size ≤ 2147483647 * 2147483648 := Nat.le_trans hl (Nat.mul_le_mul_right _ (by omega))
    refine Ev.step (fun k => by simp only [laws_FnUriParts.l0]; rw [if_pos (ln_mid h), if_pos (by omega), if_pos (ln_mid h), e]) ?_
    refine Ev.call (word p (by omega)) ?_
    by_cases c : ((L p).all isWordB && (L p != [])) = true
    · have ih := up_l a q hs xs ha hq hh hx hz t (pre ++ [p]) (acc ++ ((⟨#[47]⟩ : ByteArray) ++ p)) (by rw [h]; simp) (by rw [L_append, L_append, hacc, List.map_append, Cl.joinS_app, List.map_cons, List.map_nil, Cl.joinS_cons, Cl.joinS_nil]; simp [L]) (fun y hy => by
        rw [List.mem_append] at hy
        rcases hy with hy | hy
        · exact hw y hy
        · rw [List.mem_singleton.1 hy]; exact ⟨um_wd_of _ c, wu_of _ c⟩) (by rw [size_append, size_append, show (⟨#[47]⟩ : ByteArray).size = 1 from rfl, List.length_append, List.length_singleton, Nat.add_mul]; omega)
      rw [show ((pre ++ [p]).length : Int) = wrap64 ((pre.length : Int) + 1) from (wrap_lmid h (by omega)).symm] at ih
      rw [c]
      exact Ev.pos rfl (Ev.pos (by omega) (Ev.pos (by omega) ih))
    · rw [Bool.eq_false_iff.2 c]
      exact Ev.neg (by simp) (Ev.now _)
theorem FnUriParts : Go.Proofs.Ytbkeakeldegkeaa.StFnUriParts.Pure := by
  intro a xs q h _ hx _ _ _
  have hx := maxLen_le hx
  have j0t : Ev (fun k => laws_FnUriParts.j0 k a xs q h true) true := Ev.step (f := fun _ => some true) (fun k => by simp only [laws_FnUriParts.j0]; rw [if_pos trivial]) (Ev.now _)
  refine Ev.rounds ?_
  unfold laws_FnUriParts.f
  by_cases h1 : (a.size : Int) > 2147483647
  · exact Ev.pos h1 j0t
  refine Ev.neg h1 ?_
  obtain ⟨b, hb, hbt⟩ := um_fits1 xs hx
  cases b with
  | false => exact Ev.call hb (Ev.neg (by simp) j0t)
  | true =>
    obtain ⟨g1, g2⟩ := hbt rfl
    refine Ev.call hb (Ev.pos rfl ?_)
    by_cases h2 : (q.size : Int) > 2147483647
    · exact Ev.pos h2 j0t
    refine Ev.neg h2 ?_
    by_cases h3 : (h.size : Int) > 2147483647
    · rw [decide_eq_true h3]; exact j0t
    rw [decide_eq_false h3]
    refine Ev.step (fun k => by simp only [laws_FnUriParts.j0]; rw [if_neg (by decide)]) ?_
    exact Ev.call (Ev.some parses) (Ev.pos rfl (up_l a q h xs (by omega) (by omega) (by omega) g1 g2 xs [] ⟨#[]⟩ rfl rfl (by simp) (by simp [ByteArray.size])))
end Go.Proofs.Ytbkeakeldegkeaa.Pure
end
section
namespace Go.Proofs.Ytbkeakeldegkeaa.fnUriParts
open Go.ChangeShapes Go.WideShapes Go.ChangeAt Go.RowKit
open Go.ChangeMaps (open_string shut_string)
set_option linter.unusedVariables false
theorem own : ownKnob Try.prog.godebug = none := by kernel_rfl
theorem laidOut : laidOutB Try.prog = true := by kernel_rfl
set_option maxRecDepth 100000 in
theorem lifted (os : Os) (started : os.Started) (H : Type) (enc : TypeId × Value → H) :
    ReturnsInHanded {} Try.checked os 4 .any (Rows.fnUriPartsSpec.pre6 enc Try.prog Try.f4 Rows.fnUriPartsRow.domain false) (Rows.fnUriPartsSpec.post enc Try.prog Try.f4 false true false false) := by
  refine returnsInHanded_of_change_sized (C := Try.checked) own started (by kernel_rfl) Try.func4
    (ChangeSpec.witness6 (enc := enc) (C := Try.checked) false ⟨#[], #[.string ByteArray.empty, .slice none 0 0, .string ByteArray.empty, .string ByteArray.empty], []⟩ 8 (by kernel_rfl) (by kernel_rfl) (by kernel_rfl) (by kernel_rfl)) ?_
  intro W base args ds gs before hval0 hW hcnd hsz0 _
  have hsz : (DataW.weightsEach Try.prog (Try.f4.params.toList ++ Rows.fnUriPartsSpec.plain.varTypes Try.prog) (ds ++ gs)).all (· ≤ reachBytes) = true := hsz0
  have hval : ∀ (j : Nat) t v, Try.f4.params[j]? = some t → args[j]? = some v → Value.okWide Try.prog W .any base t v := hval0
  have hW' := hW
  obtain ⟨p, q, hA0, hV, rfl, hfz, hnd⟩ := hW
  have hA : DataW.TrodAll enc Try.prog W 0 (fun _ => true) true Try.f4.params.toList args.toList ds p := hA0
  rw [Try.params4] at hA hval hsz
  obtain ⟨v0, vs0, d0, ds0, p0, q0, hargs, rfl, rfl, h0, r0⟩ := trodAll_cons hA
  obtain ⟨v1, vs1, d1, ds1, p1, q1, rfl, rfl, rfl, h1, r1⟩ := trodAll_cons r0
  obtain ⟨v2, vs2, d2, ds2, p2, q2, rfl, rfl, rfl, h2, r2⟩ := trodAll_cons r1
  obtain ⟨v3, vs3, d3, ds3, p3, q3, rfl, rfl, rfl, h3, r3⟩ := trodAll_cons r2
  obtain ⟨rfl, rfl, rfl⟩ := trodAll_nil r3
  obtain rfl : args = #[v0, v1, v2, v3] := by cases args; simp_all
  obtain ⟨rfl, rfl⟩ := trodVars_none hV
  obtain ⟨a0, rfl, rfl, rfl, y0⟩ := open_string Try.underlying9 (hval 0 9 v0 rfl rfl) h0
  have w0 : a0.size ≤ 140737488351232 := by
    have z := sized_string hsz (j := 0) (t := 9) rfl rfl
    rw [Array.length_toList] at z
    exact z
  obtain ⟨a1, len1, cap1, rfl⟩ := okWide_slice Try.underlying30 (hval 1 30 v1 rfl rfl)
  have k1 := h1
  have lt1 : ∀ x ∈ p1, x.block < W.heap.size := by obtain ⟨m, hm⟩ := k1; exact DataW.trod_lt m _ _ _ hm
  obtain ⟨l1, el1, C1, ca1, cm1, G1⟩ : ∃ xs, len1 = xs.length ∧ Go.Proofs.YtbkeakeldegkeaaW.PrintWords.Kd.C Go.Proofs.YtbkeakeldegkeaaW.PrintWords.Kd.string W a1 xs.length xs ∧ xs.length ≤ cap1 ∧ cap1 ≤ maxLen ∧ ∀ x ∈ xs, x.size ≤ maxLen := by
    obtain ⟨fuel, hf⟩ := h1
    have hf' : DataW.trod enc Try.prog W 0 (fun _ => true) true fuel 30 [.slice a1 len1 cap1] = some (d1, p1) := hf
    exact Go.Proofs.YtbkeakeldegkeaaOpen.open_kd Try.underlying30 (by kernel_rfl) (fun n cs y h => Go.Proofs.YtbkeakeldegkeaaOpen.one_string Try.underlying9 n cs y h) hf'
  subst el1
  obtain ⟨a2, rfl, rfl, rfl, y2⟩ := open_string Try.underlying9 (hval 2 9 v2 rfl rfl) h2
  have w2 : a2.size ≤ 140737488351232 := by
    have z := sized_string hsz (j := 2) (t := 9) rfl rfl
    rw [Array.length_toList] at z
    exact z
  obtain ⟨a3, rfl, rfl, rfl, y3⟩ := open_string Try.underlying9 (hval 3 9 v3 rfl rfl) h3
  have w3 : a3.size ≤ 140737488351232 := by
    have z := sized_string hsz (j := 3) (t := 9) rfl rfl
    rw [Array.length_toList] at z
    exact z
  clear hA0 hval0 hsz0 hsz
  obtain ⟨k, hk⟩ := Pure.FnUriParts a0 l1 a2 a3 w0 (Nat.le_trans ca1 cm1) G1 w2 w3
  refine (Go.Proofs.Ytbkeakeldegkeaa.Q.laws_FnUriParts.calls k a0 _ _ l1 a2 a3 true W C1 ca1 hk).mono fun e W' hh => ?_
  obtain ⟨he, bel0⟩ := hh
  have bel : Below W.heap.size W W' := bel0
  subst he
  exact ⟨_, rfl, _, _, _, [], _, [], hW', trodAll_mk1 (shut_bool Try.underlying4 _), (trodAll_cons_mk (shut_string Try.underlying9 y0) (trodAll_cons_mk (Below.trod laidOut (by kernel_rfl) (of_decide_eq_true (by kernel_rfl)) k1 bel lt1) (trodAll_cons_mk (shut_string Try.underlying9 y2) (trodAll_cons_mk (shut_string Try.underlying9 y3) trodAll_mk0)))), rfl, bel.frame _, fun h => by cases h⟩
theorem over : Rows.fnUriPartsRow.holds Try.pinned (OpenSpec.ofChange Rows.fnUriPartsSpec) :=
  OpenClaim.holds_of_wide 4 Try.f4 rfl rfl rfl rfl rfl rfl rfl ⟨rfl, rfl, rfl, rfl, rfl⟩ rfl rfl rfl rfl rfl (by kernel_rfl) Try.func4 (by kernel_rfl)
    (of_decide_eq_true (by kernel_rfl)) (by unfold Func.isWrapper; first | (rw [if_pos (by decide +kernel)]; kernel_rfl) | (rw [if_neg (by decide +kernel)]; exact ⟨rfl, rfl⟩))
    (fun os started H enc _ => lifted os started H enc)
theorem proved : Rows.FnUriPartsSaid := over
#print axioms proved
end Go.Proofs.Ytbkeakeldegkeaa.fnUriParts
namespace Go.Proofs.Ytbkeakeldegkeaa
theorem fnUriParts_holds : Rows.FnUriPartsSaid := fnUriParts.proved
end Go.Proofs.Ytbkeakeldegkeaa
end
