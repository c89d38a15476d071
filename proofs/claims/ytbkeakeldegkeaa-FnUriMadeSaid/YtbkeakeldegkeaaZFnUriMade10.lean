/- FnUriMade: the law's function, called with any arguments, returns true and leaves its arguments as they were: every input, no condition. Part 11 of 11. -/
import Derived.Deep.Slices
import Derived.Test.YtbkeakeldegkeaaZFnUriMade0
import Derived.Test.YtbkeakeldegkeaaZFnUriMade9
import Derived.ChangeSame
import Derived.Test.YtbkeakeldegkeaaZFnUriMade1
import Derived.Test.YtbkeakeldegkeaaZFnUriMade6
import Derived.Test.YtbkeakeldegkeaaZFnUriMade7
import Derived.Test.YtbkeakeldegkeaaZFnUriMade3
import Derived.Test.YtbkeakeldegkeaaZFnUriMade4
import Derived.Test.YtbkeakeldegkeaaZFnUriMade2
import Derived.Test.YtbkeakeldegkeaaZFnUriMade8
import Derived.Test.YtbkeakeldegkeaaRows
import Derived.WalkKit
import Derived.ProofKit
import Derived.OpenShut
import Derived.ShutString
import Derived.ChangeOld
import Derived.Below
import Derived.SizedLaws
section
namespace Go.Proofs.YtbkeakeldegkeaaOpen
open Go.ChangeShapes Go.WideShapes Go.Deep Go.Proofs.YtbkeakeldegkeaaW.PrintWords
theorem open_kd {H : Type} {enc : TypeId × Value → H} {P : Program} {w : World} {base : Nat} {spare : Nat → Bool} {held : Bool} {α : Type} {d : Kd α} {Good : α → Prop} {t e : TypeId} {fuel : Nat} {A : Option Addr} {len cap : Nat} {x : DataW H × List MemPlace}
    (ht : P.underlying t = some (.slice e)) (hs : P.cellsOf e = d.sz)
    (one : ∀ (n : Nat) (cs : List Value) (y : DataW H × List MemPlace), DataW.trod enc P w base spare held n e cs = some y → ∃ x, d.K w x cs ∧ Good x)
    (h : DataW.trod enc P w base spare held fuel t [.slice A len cap] = some x) :
    ∃ xs : List α, len = xs.length ∧ d.C w A xs.length xs ∧ xs.length ≤ cap ∧ cap ≤ maxLen ∧ ∀ x ∈ xs, Good x := by
  rcases open_slice ht h with ⟨h1, _⟩ | ⟨a, len', cap', m, n, D, Pl, h1, hb, hl, hm, hmm, _, hx⟩
  · simp only [List.cons.injEq, Value.slice.injEq, and_true] at h1
    obtain ⟨rfl, rfl, rfl⟩ := h1
    exact ⟨[], rfl, ⟨rfl, by simp, fun h => by simp at h⟩, Nat.le_refl _, by simp [maxLen], fun x h => by simp at h⟩
  · simp only [List.cons.injEq, Value.slice.injEq, and_true] at h1
    obtain ⟨rfl, rfl, rfl⟩ := h1
    have hlm : len ≤ m := by rw [hmm]; split <;> omega
    have each : ∀ i, i < len → ∃ z : α, (∃ c, c.length = d.sz ∧ d.K w z c ∧ ∀ j u, c[j]? = some u → w.cell? (a.add (i * d.sz + j)) = some u) ∧ Good z := by
      intro i hi
      obtain ⟨cs, hc, ht2⟩ := hx i (by omega)
      obtain ⟨z, hz, hg⟩ := one _ _ _ ht2
      obtain ⟨_, hcl, hcell⟩ := World.cells?_some hc
      refine ⟨z, ⟨cs, hcl.trans hs, hz, fun j u hj => ?_⟩, hg⟩
      have hjl : j < cs.length := (List.getElem?_eq_some_iff.1 hj).1
      have := hcell j (by omega)
      rw [hs, Go.Deep.add_add] at this
      rw [this, hj]
    by_cases hz : len = 0
    · subst hz
      exact ⟨[], rfl, ⟨rfl, by simp, fun h => by simp at h⟩, Nat.zero_le _, hm, fun x h => by simp at h⟩
    · obtain ⟨z0, _⟩ := each 0 (by omega)
      obtain ⟨f, hf⟩ : ∃ f : Nat → α, ∀ i, i < len → (∃ c, c.length = d.sz ∧ d.K w (f i) c ∧ ∀ j u, c[j]? = some u → w.cell? (a.add (i * d.sz + j)) = some u) ∧ Good (f i) := by
        haveI : Inhabited α := ⟨z0⟩
        exact choose_lt each
      have hlen : ((List.range len).map f).length = len := by simp
      refine ⟨(List.range len).map f, hlen.symm, ⟨rfl, ?_, fun _ => ⟨a, rfl, fun j p hj => ?_⟩⟩, by omega, hm, fun x h => ?_⟩
      · rw [hlen]; unfold maxLen at hm; omega
      · have hj2 := (List.getElem?_eq_some_iff.1 hj).1
        rw [hlen] at hj2
        have : p = f j := by
          simp [List.getElem?_map, List.getElem?_range hj2] at hj
          exact hj.symm
        subst this
        exact (hf j hj2).1
      · obtain ⟨j, hj, rfl⟩ := List.mem_map.1 h
        exact (hf j (List.mem_range.1 hj)).2
theorem one_string {H : Type} {enc : TypeId × Value → H} {P : Program} {w : World} {base : Nat} {spare : Nat → Bool} {held : Bool} {e : TypeId} (he : P.underlying e = some .string)
    (n : Nat) (cs : List Value) (y : DataW H × List MemPlace) (h : DataW.trod enc P w base spare held n e cs = some y) : ∃ x : ByteArray, Kd.string.K w x cs ∧ x.size ≤ maxLen := by
  obtain ⟨s, rfl, _, hw⟩ := DataW.trod_string he h
  exact ⟨s, rfl, hw⟩
end Go.Proofs.YtbkeakeldegkeaaOpen
end
section
namespace Go.Proofs.Ytbkeakeldegkeaa.StFnUriMade
open Go.RowKit Go.ChangeShapes Go.WideShapes Go.Proofs.Ytbkeakeldegkeaa.Q Go.Proofs.YtbkeakeldegkeaaW.PrintWords Go.Proofs.YtbkeakeldegkeaaW.PrintLast
set_option linter.unusedVariables false
set_option linter.unusedSimpArgs false
set_option maxRecDepth 100000
def Pure : Prop := ∀ (a0 : ByteArray) (l1 : List (ByteArray)) (a2 : ByteArray) (a3 : ByteArray), a0.size ≤ 140737488351232 → l1.length ≤ maxLen → (∀ x ∈ l1, x.size ≤ maxLen) → a2.size ≤ 140737488351232 → a3.size ≤ 140737488351232 → ∃ k, laws_FnUriMade.f k a0 l1 a2 a3 = some true
end Go.Proofs.Ytbkeakeldegkeaa.StFnUriMade
end
section
namespace Go.Proofs.Ytbkeakeldegkeaa.Q
open Go.RowKit Go.Proofs.YtbkeakeldegkeaaW.PrintWords Go.Proofs.YtbkeakeldegkeaaW.PrintLast Go.Proofs.YtbkeakeldegkeaaW.PrintMore
attribute [local go_sem] max2_int min2_int max_two min_two max_three min_three max_four min_four
set_option linter.unusedVariables false
set_option linter.unusedSimpArgs false
end Go.Proofs.Ytbkeakeldegkeaa.Q
namespace Go.Proofs.Ytbkeakeldegkeaa.Q
open Go.RowKit Go.Proofs.YtbkeakeldegkeaaW.PrintWords Go.Proofs.YtbkeakeldegkeaaW.PrintLast Go.Proofs.YtbkeakeldegkeaaW.PrintMore
attribute [local go_sem] max2_int min2_int max_two min_two max_three min_three max_four min_four
set_option linter.unusedVariables false
set_option linter.unusedSimpArgs false
end Go.Proofs.Ytbkeakeldegkeaa.Q
end
section
namespace Go.Proofs.Ytbkeakeldegkeaa.Q
open Go.RowKit Go.Proofs.YtbkeakeldegkeaaW.PrintWords Go.Proofs.YtbkeakeldegkeaaW.PrintLast Go.Proofs.YtbkeakeldegkeaaW.PrintMore
attribute [local go_sem] max2_int min2_int max_two min_two max_three min_three max_four min_four
set_option linter.unusedVariables false
set_option linter.unusedSimpArgs false
def laws_holds.l0 : Nat → ByteArray → Int → Int → Int → Option (Bool)
  | 0, _, _, _, _ => none
  | k + 1, x0, x1, x7, x8 => if x8 < x7 then (if 0 ≤ x8 then (if x8 < (x0.size : Int) then (if (bt x0 x8) = x1 then (some true) else (laws_holds.l0 k x0 x1 x7 (wrap64 (x8 + 1)))) else (none)) else (none)) else (some false)
def laws_holds.f (k : Nat) (a0 : ByteArray) (a1 : Int) : Option (Bool) := laws_holds.l0 k a0 a1 (a0.size : Int) 0
end Go.Proofs.Ytbkeakeldegkeaa.Q
end
section
namespace Go.Proofs.Ytbkeakeldegkeaa.Q
open Go.RowKit Go.Proofs.YtbkeakeldegkeaaW.PrintWords Go.Proofs.YtbkeakeldegkeaaW.PrintLast Go.Proofs.YtbkeakeldegkeaaW.PrintMore
attribute [local go_sem] max2_int min2_int max_two min_two max_three min_three max_four min_four
set_option linter.unusedVariables false
set_option linter.unusedSimpArgs false
end Go.Proofs.Ytbkeakeldegkeaa.Q
end
section
namespace Go.Proofs.Ytbkeakeldegkeaa.SpA
open Go.RowKit Go.Proofs.Ytbkeakeldegkeaa.Q Go.Proofs.YtbkeakeldegkeaaW.PrintWords Go.Proofs.YtbkeakeldegkeaaW.PrintLast Go.Proofs.YtbkeakeldegkeaaKit
set_option linter.unusedVariables false
set_option linter.unusedSimpArgs false
theorem short_l (ys xs : List ByteArray) (hx : xs.length ≤ 9223372036854775807) : ∀ (suf pre : List ByteArray), xs = pre ++ suf → Ev (fun k => laws_short.l0 k ys xs xs.length pre.length) (suf.all (fun s => decide (s.size ≤ 2000)) && decide (ys.length ≤ 60))
  | [], pre, h => by
    refine Ev.step (f := fun _ => some (decide ((ys.length : Int) ≤ 60))) (fun k => by simp only [laws_short.l0]; rw [if_neg (ln_not h)]) (Ev.same (Ev.now _) ?_)
    rw [List.all_nil, Bool.true_and]
    exact decide_eq_decide.2 (by omega)
  | p :: t, pre, h => by
    have e : rdOf ByteArray.empty xs pre.length = p := get_mid h _
    rw [List.all_cons]
    by_cases c : p.size ≤ 2000
    · rw [decide_eq_true c, Bool.true_and]
      refine Ev.step (fun k => ?_) (short_l ys xs hx t (pre ++ [p]) (lmid_next h))
      simp only [laws_short.l0]
      rw [if_pos (ln_mid h), if_pos (by omega), if_pos (ln_mid h), e, if_neg (by omega), wrap_lmid h hx]
    · rw [decide_eq_false c, Bool.false_and, Bool.false_and]
      refine Ev.step (f := fun _ => some false) (fun k => ?_) (Ev.now _)
      simp only [laws_short.l0]
      rw [if_pos (ln_mid h), if_pos (by omega), if_pos (ln_mid h), e, if_pos (by omega)]
def isWordB (c : UInt8) : Bool := !(decide ((Go.bits .or .u8 (c.toNat : Int) 32) < 97) || decide ((Go.bits .or .u8 (c.toNat : Int) 32) > 122)) || !(decide ((c.toNat : Int) < 48) || decide ((c.toNat : Int) > 57))
end Go.Proofs.Ytbkeakeldegkeaa.SpA
end
section
namespace Go.Proofs.Ytbkeakeldegkeaa.SpA
open Go.RowKit Go.Proofs.Ytbkeakeldegkeaa.Q Go.Proofs.YtbkeakeldegkeaaW.PrintWords Go.Proofs.YtbkeakeldegkeaaW.PrintLast Go.Proofs.YtbkeakeldegkeaaKit
set_option linter.unusedVariables false
set_option linter.unusedSimpArgs false
theorem holds_l (s : ByteArray) (x : Int) (hs : s.size ≤ 140737488351232) : ∀ (suf pre : List UInt8), L s = pre ++ suf → Ev (fun k => laws_holds.l0 k s x s.size pre.length) (suf.any (fun c => decide ((c.toNat : Int) = x)))
  | [], pre, h => Ev.step (f := fun _ => some false) (fun k => by simp only [laws_holds.l0]; rw [if_neg (sz_not h)]) (Ev.now _)
  | c :: t, pre, h => by
    rw [List.any_cons]
    by_cases c1 : (c.toNat : Int) = x
    · rw [decide_eq_true c1, Bool.true_or]
      refine Ev.step (f := fun _ => some true) (fun k => ?_) (Ev.now _)
      simp only [laws_holds.l0]
      rw [if_pos (sz_mid h), if_pos (by omega), if_pos (sz_mid h), bt_mid h, if_pos c1]
    · rw [decide_eq_false c1, Bool.false_or]
      refine Ev.step (fun k => ?_) (holds_l s x hs t (pre ++ [c]) (mid_next h))
      simp only [laws_holds.l0]
      rw [if_pos (sz_mid h), if_pos (by omega), if_pos (sz_mid h), bt_mid h, if_neg c1, wrap_mid h hs]
theorem holds (s : ByteArray) (x : Int) (hs : s.size ≤ 140737488351232) : Ev (fun k => laws_holds.f k s x) ((L s).any (fun c => decide ((c.toNat : Int) = x))) := holds_l s x hs (L s) [] rfl
end Go.Proofs.Ytbkeakeldegkeaa.SpA
end
section
namespace Go.Proofs.Ytbkeakeldegkeaa.SpA
open Go.RowKit Go.Proofs.Ytbkeakeldegkeaa.Q Go.Proofs.YtbkeakeldegkeaaW.PrintWords Go.Proofs.YtbkeakeldegkeaaW.PrintLast Go.Proofs.YtbkeakeldegkeaaKit
set_option linter.unusedVariables false
set_option linter.unusedSimpArgs false
theorem word_l (s : ByteArray) (hs : s.size ≤ 140737488351232) : ∀ (suf pre : List UInt8), L s = pre ++ suf → Ev (fun k => laws_word.l0 k s s.size pre.length) (suf.all isWordB && (L s != []))
  | [], pre, h => by
    refine Ev.step (f := fun _ => some (s.toList != [])) (fun k => by simp only [laws_word.l0]; rw [if_neg (sz_not h)]) (Ev.same (Ev.now _) ?_)
    rw [List.all_nil, Bool.true_and, tl]
  | c :: t, pre, h => by
    have ih := word_l s hs t (pre ++ [c]) (mid_next h)
    rw [List.all_cons]
    have hg : ∀ k, laws_word.l0 (k + 1) s s.size pre.length = if isWordB c = true then laws_word.l0 k s s.size (pre ++ [c]).length else some false := by
      intro k
      simp only [laws_word.l0]
      rw [if_pos (sz_mid h), if_pos (by omega), if_pos (sz_mid h), bt_mid h, wrap_mid h hs]
      unfold isWordB
      generalize Go.bits BinOp.or IntKind.u8 (c.toNat : Int) 32 = z
      by_cases h1 : z < 97
      · by_cases h2 : (c.toNat : Int) < 48
        · simp [h1, h2]
        · by_cases h3 : (c.toNat : Int) > 57 <;> simp [h1, h2, h3]
      · by_cases h4 : z > 122
        · by_cases h2 : (c.toNat : Int) < 48
          · simp [h1, h2, h4]
          · by_cases h3 : (c.toNat : Int) > 57 <;> simp [h1, h2, h3, h4]
        · simp [h1, h4]
    by_cases c1 : isWordB c = true
    · rw [c1, Bool.true_and]
      exact Ev.step (fun k => by rw [hg k, if_pos c1]) ih
    · rw [Bool.eq_false_iff.2 c1, Bool.false_and, Bool.false_and]
      exact Ev.step (f := fun _ => some false) (fun k => by rw [hg k, if_neg c1]) (Ev.now _)
theorem word (s : ByteArray) (hs : s.size ≤ 140737488351232) : Ev (fun k => laws_word.f k s) ((L s).all isWordB && (L s != [])) := word_l s hs (L s) [] rfl
end Go.Proofs.Ytbkeakeldegkeaa.SpA
end
section
namespace Go.Proofs.Ytbkeakeldegkeaa.SpA
open Go.RowKit Go.Proofs.Ytbkeakeldegkeaa.Q Go.Proofs.YtbkeakeldegkeaaW.PrintWords Go.Proofs.YtbkeakeldegkeaaW.PrintLast Go.Proofs.YtbkeakeldegkeaaKit
set_option linter.unusedVariables false
set_option linter.unusedSimpArgs false
theorem norm_plain (l : List UInt8) (h : (37 : UInt8) ∉ l) : norm l = Cl.cleanK (lead l ++ l) := by rw [norm, dec_none l h]
theorem norm_slash (t : List UInt8) (h : (37 : UInt8) ∉ (47 :: t : List UInt8)) : norm (47 :: t) = Cl.cleanK (47 :: t) := by rw [norm_plain _ h, lead, if_pos rfl]; rfl
theorem word_all : ∀ c : Fin 256, (!isWordB (UInt8.ofNat c.val) || (!isCtl (UInt8.ofNat c.val) && UInt8.ofNat c.val != 47 && UInt8.ofNat c.val != 64 && UInt8.ofNat c.val != 37 && UInt8.ofNat c.val != 63 && UInt8.ofNat c.val != 35 && UInt8.ofNat c.val != 58 && UInt8.ofNat c.val != 46)) = true := by decide +kernel
theorem word_no (c : UInt8) (h : isWordB c = true) : isCtl c = false ∧ c ≠ 47 ∧ c ≠ 64 ∧ c ≠ 37 ∧ c ≠ 63 ∧ c ≠ 35 ∧ c ≠ 58 ∧ c ≠ 46 := by
  have h1 := word_all ⟨c.toNat, c.toNat_lt⟩
  simp only [show UInt8.ofNat ((⟨c.toNat, c.toNat_lt⟩ : Fin 256) : Nat) = c by simp, h, Bool.not_true, Bool.false_or, Bool.and_eq_true, bne_iff_ne, ne_eq, Bool.not_eq_true'] at h1
  obtain ⟨⟨⟨⟨⟨⟨⟨a, b⟩, c'⟩, d⟩, e⟩, f⟩, g⟩, i⟩ := h1
  exact ⟨a, b, c', d, e, f, g, i⟩
structure Wu (l : List UInt8) : Prop where
  ne : l ≠ []
  ctl : l.any isCtl = false
  at_ : (64 : UInt8) ∉ l
  slash : (47 : UInt8) ∉ l
  pct : (37 : UInt8) ∉ l
  qm : (63 : UInt8) ∉ l
  num : (35 : UInt8) ∉ l
  col : (58 : UInt8) ∉ l
  dot : (46 : UInt8) ∉ l
theorem wu_of (l : List UInt8) (h : (l.all isWordB && (l != [])) = true) : Wu l := by
  obtain ⟨h1, h2⟩ := Bool.and_eq_true_iff.1 h
  have hall : ∀ c ∈ l, isWordB c = true := fun c hc => List.all_eq_true.1 h1 c hc
  refine ⟨by simpa using h2, ?_, fun hm => ?_, fun hm => ?_, fun hm => ?_, fun hm => ?_, fun hm => ?_, fun hm => ?_, fun hm => ?_⟩
  · rw [List.any_eq_false]
    intro c hc
    rw [(word_no c (hall c hc)).1]; simp
  · exact (word_no _ (hall _ hm)).2.2.1 rfl
  · exact (word_no _ (hall _ hm)).2.1 rfl
  · exact (word_no _ (hall _ hm)).2.2.2.1 rfl
  · exact (word_no _ (hall _ hm)).2.2.2.2.1 rfl
  · exact (word_no _ (hall _ hm)).2.2.2.2.2.1 rfl
  · exact (word_no _ (hall _ hm)).2.2.2.2.2.2.1 rfl
  · exact (word_no _ (hall _ hm)).2.2.2.2.2.2.2 rfl
def H7 : List UInt8 := [104, 116, 116, 112, 58, 47, 47]
theorem upto_app {c : UInt8} : ∀ {p t : List UInt8}, c ∉ p → upto c (p ++ c :: t) = p ∧ (p ++ c :: t).dropWhile (· != c) = c :: t
  | [], t, _ => by simp [upto]
  | x :: p, t, h => by
    have hx : (x != c) = true := bne_iff_ne.2 (fun e => h (by simp [e]))
    obtain ⟨h1, h2⟩ := upto_app (c := c) (p := p) (t := t) (fun e => h (by simp [e]))
    unfold upto at *
    simp [hx, h1, h2]
theorem part_http (host t : List UInt8) (hh : (47 : UInt8) ∉ host) : partU [] (H7 ++ host ++ 47 :: t) = some (HTTP, host, 47 :: t) := by
  have e : H7 ++ host ++ 47 :: t = 104 :: 116 :: 116 :: 112 :: 58 :: 47 :: 47 :: (host ++ 47 :: t) := by simp [H7]
  rw [e]
  unfold partU
  have hs : schEnd 0 (104 :: 116 :: 116 :: 112 :: 58 :: 47 :: 47 :: (host ++ 47 :: t)) = some 4 := by simp [schEnd, isAl, isSg]
  rw [hs]
  simp only [List.drop_succ_cons, List.drop_zero, List.take_succ_cons, List.take_zero, List.length_cons]
  rw [if_neg (by omega), if_pos (by simp), (upto_app hh).1, (upto_app hh).2]
  rfl
theorem parse_http (host t : List UInt8) (hh : (47 : UInt8) ∉ host) (hc : (H7 ++ host ++ 47 :: t).any isCtl = false) : parseU [] (H7 ++ host ++ 47 :: t) = some (restU HTTP host (47 :: t)) := by
  unfold parseU
  rw [hc]
  simp only [Bool.false_eq_true, if_false]
  rw [if_pos (by simp), part_http host t hh]
  rfl
theorem uriOf_eq (a0 a1 : ByteArray) (h0 : a0.size ≤ 3000000000) (h1 : a1.size ≤ 3000000000) (hc : (L a1).any isCtl = false) (u : UR) (hp : parseU (L a0) (L a1) = some u) (ho : u.orig.length ≤ 2147483647) :
    impl_UriOf.f a0 a1 = some (⟨u.sch.toArray⟩, ⟨u.host.toArray⟩, ⟨u.path.toArray⟩, ⟨u.orig.toArray⟩, ⟨u.query.toArray⟩, ⟨u.hash.toArray⟩, ⟨u.user.toArray⟩, ⟨u.pass.toArray⟩, true) := by
  unfold impl_UriOf.f
  rw [if_pos ⟨⟨h0, h1⟩, hc⟩, hp]
  simp only
  rw [if_pos ho]
theorem parses : laws_parses.f = some true := by
  have hp : parseU (L ⟨#[]⟩) (L ⟨#[104, 116, 116, 112, 58, 47, 47, 104, 47, 97, 63, 98, 61, 99, 35, 100]⟩) = some ⟨HTTP, [104], [47, 97], [47, 97], [98, 61, 99], [100], [], []⟩ := by
    have := parse_http [104] [97, 63, 98, 61, 99, 35, 100] (by decide) (by decide)
    refine this.trans ?_
    congr 1
    unfold restU
    rw [show authU [104] = ([], [], [104]) by decide, show pathU (47 :: [97, 63, 98, 61, 99, 35, 100]) = ([47, 97], [98, 61, 99], [100]) by decide]
    simp only
    rw [norm_slash _ (by decide), show Cl.cleanK [47, 97] = [47, 97] by decide]
    rfl
  unfold laws_parses.f
  rw [uriOf_eq _ _ (by decide) (by decide) (by decide) _ hp (by decide)]
  simp only [Option.bind_some, tl]
  rfl
end Go.Proofs.Ytbkeakeldegkeaa.SpA
end
section
namespace Go.Proofs.Ytbkeakeldegkeaa.SpA
open Go.RowKit Go.Proofs.Ytbkeakeldegkeaa.Q Go.Proofs.YtbkeakeldegkeaaW.PrintWords Go.Proofs.YtbkeakeldegkeaaW.PrintLast Go.Proofs.YtbkeakeldegkeaaKit
set_option linter.unusedVariables false
set_option linter.unusedSimpArgs false
set_option maxRecDepth 100000 in
theorem uq_esc_all : ∀ c : Fin 256, (UInt8.ofNat c.val == 47 || (escP (UInt8.ofNat c.val)).all fun d => !isCtl d && d != 63 && d != 35 && d != 47) = true := by decide +kernel
theorem uq_esc_no (c : UInt8) (h : c ≠ 47) : ∀ d ∈ escP c, isCtl d = false ∧ d ≠ 63 ∧ d ≠ 35 ∧ d ≠ 47 := by
  have := uq_esc_all ⟨c.toNat, c.toNat_lt⟩
  simp only [UInt8.ofNat_toNat] at this
  rcases Bool.or_eq_true_iff.1 this with e | e
  · exact absurd (by simpa using e) h
  · intro d hd
    have := List.all_eq_true.1 e d hd
    simp only [Bool.and_eq_true, Bool.not_eq_true', bne_iff_ne, ne_eq] at this
    exact ⟨this.1.1.1, this.1.1.2, this.1.2, this.2⟩
set_option maxRecDepth 100000 in
theorem uq_plain_all : ∀ c : Fin 256, (!(decide (bt tab2 ((UInt8.ofNat c.val).toNat : Int) = 0)) || UInt8.ofNat c.val != 37) = true := by decide +kernel
set_option maxRecDepth 100000 in
theorem uq_hex_all : ∀ c : Fin 256, (decide (hx (hexU ((UInt8.ofNat c.val).toNat / 16)) ≠ 16) && decide (hx (hexU ((UInt8.ofNat c.val).toNat % 16)) ≠ 16) && (hx2 (hexU ((UInt8.ofNat c.val).toNat / 16)) (hexU ((UInt8.ofNat c.val).toNat % 16)) == UInt8.ofNat c.val)) = true := by decide +kernel
theorem uq_dec_esc (c : UInt8) (t : List UInt8) : dec (escP c ++ t) = c :: dec t := by
  unfold escP
  by_cases h : bt tab2 (c.toNat : Int) = 0
  · rw [if_pos h]
    have := uq_plain_all ⟨c.toNat, c.toNat_lt⟩
    simp only [UInt8.ofNat_toNat] at this
    rw [decide_eq_true h] at this
    exact dec_plain c (by simpa using this) t
  · rw [if_neg h]
    have := uq_hex_all ⟨c.toNat, c.toNat_lt⟩
    simp only [UInt8.ofNat_toNat, Bool.and_eq_true, decide_eq_true_eq, beq_iff_eq] at this
    obtain ⟨⟨h1, h2⟩, h3⟩ := this
    show dec (37 :: _ :: _ :: t) = _
    rw [dec, if_pos rfl, if_neg (by rintro (e | e); exact h1 e; exact h2 e), h3]
theorem uq_dec_flat : ∀ s : List UInt8, dec (s.flatMap escP) = s
  | [] => by simp [dec]
  | c :: t => by rw [List.flatMap_cons, uq_dec_esc, uq_dec_flat t]
theorem uq_dec_quote (s : List UInt8) : dec (quoteP s) = s := by
  unfold quoteP
  split
  · rename_i h; rw [h]; simp [dec]
  · exact uq_dec_flat s
theorem uq_flat_len : ∀ p : List UInt8, (p.flatMap escP).length ≤ 3 * p.length
  | [] => by simp
  | c :: t => by
    have := escP_len c
    have := uq_flat_len t
    rw [List.flatMap_cons, List.length_append, List.length_cons]
    omega
theorem uq_quote_len (p : List UInt8) : (quoteP p).length ≤ 3 * p.length + 1 := by
  unfold quoteP
  split
  · simp
  · have := uq_flat_len p; omega
theorem uq_head (t : List UInt8) : ∃ s, quoteP (47 :: t) = 47 :: s := by
  have e : escP 47 = [47] := by decide +kernel
  unfold quoteP
  split
  · rename_i h; exact absurd (List.cons.inj h).1 (by decide)
  · exact ⟨t.flatMap escP, by rw [List.flatMap_cons, e]; rfl⟩
theorem uq_norm (x : List UInt8) : norm (quoteP (norm x)) = norm x := by
  have hx : norm x = Cl.cleanK (lead x ++ dec x) := rfl
  obtain ⟨t, ht⟩ := Cl.clean_slash (lead x ++ dec x)
  obtain ⟨s, hs⟩ := uq_head t
  have hl : lead (quoteP (norm x)) = [] := by rw [hx, ht, hs, lead, if_pos rfl]
  rw [norm, hl, List.nil_append, uq_dec_quote, hx, Cl.clean_again]
theorem uq_esc47 : ∀ d ∈ escP 47, isCtl d = false ∧ d ≠ 63 ∧ d ≠ 35 := by decide +kernel
theorem uq_all (s : List UInt8) : ∀ d ∈ quoteP s, isCtl d = false ∧ d ≠ 63 ∧ d ≠ 35 := by
  unfold quoteP
  split
  · intro d hd
    obtain rfl : d = 42 := by simpa using hd
    decide
  · intro d hd
    obtain ⟨c, hc, hd⟩ := List.mem_flatMap.1 hd
    by_cases h : c = 47
    · subst h; exact uq_esc47 d hd
    · exact ⟨(uq_esc_no c h d hd).1, (uq_esc_no c h d hd).2.1, (uq_esc_no c h d hd).2.2.1⟩
end Go.Proofs.Ytbkeakeldegkeaa.SpA
end
section
namespace Go.Proofs.Ytbkeakeldegkeaa.SpA
open Go.RowKit Go.Proofs.Ytbkeakeldegkeaa.Q Go.Proofs.YtbkeakeldegkeaaW.PrintWords Go.Proofs.YtbkeakeldegkeaaW.PrintLast Go.Proofs.YtbkeakeldegkeaaKit
set_option linter.unusedVariables false
set_option linter.unusedSimpArgs false
theorem um_fits1_l (xs : List ByteArray) (hx : xs.length ≤ 9223372036854775807) : ∀ (suf pre : List ByteArray), xs = pre ++ suf → Ev (fun k => laws_zzFits1.l0 k xs xs.length pre.length) (suf.all fun s => decide (s.size ≤ 2147483647))
  | [], pre, h => by
    refine Ev.step (f := fun _ => some true) (fun k => by simp only [laws_zzFits1.l0]; rw [if_neg (ln_not h)]) (Ev.now _)
  | p :: t, pre, h => by
    have e : rdOf ByteArray.empty xs pre.length = p := get_mid h _
    rw [List.all_cons]
    by_cases c : p.size ≤ 2147483647
    · rw [decide_eq_true c, Bool.true_and]
      refine Ev.step (fun k => ?_) (um_fits1_l xs hx t (pre ++ [p]) (lmid_next h))
      simp only [laws_zzFits1.l0]
      rw [if_pos (ln_mid h), if_pos (by omega), if_pos (ln_mid h), e, if_neg (by omega), wrap_lmid h hx]
    · rw [decide_eq_false c, Bool.false_and]
      refine Ev.step (f := fun _ => some false) (fun k => ?_) (Ev.now _)
      simp only [laws_zzFits1.l0]
      rw [if_pos (ln_mid h), if_pos (by omega), if_pos (ln_mid h), e, if_pos (by omega)]
theorem um_fits1 (xs : List ByteArray) (hx : xs.length ≤ 9223372036854775807) : ∃ b, Ev (fun k => laws_zzFits1.f k xs) b ∧ (b = true → xs.length ≤ 2147483647 ∧ ∀ p ∈ xs, p.size ≤ 2147483647) := by
  unfold laws_zzFits1.f
  by_cases h : (xs.length : Int) > 2147483647
  · exact ⟨false, Ev.pos h (Ev.now _), fun e => by simp at e⟩
  · refine ⟨_, Ev.neg h (um_fits1_l xs hx xs [] rfl), fun e => ⟨by omega, fun p hp => ?_⟩⟩
    have := List.all_eq_true.1 e p hp
    exact of_decide_eq_true this
structure um_Wd (l : List UInt8) : Prop where
  slash : (47 : UInt8) ∉ l
  pct : (37 : UInt8) ∉ l
  good : Cl.good l
theorem um_wd_of (l : List UInt8) (h : (l.all isWordB && (l != [])) = true) : um_Wd l := by
  have hall : ∀ c ∈ l, isWordB c = true := fun c hc => List.all_eq_true.1 (Bool.and_eq_true_iff.1 h).1 c hc
  have hne : l ≠ [] := by
    intro e
    rw [e] at h
    simp at h
  have no : ∀ c : UInt8, isWordB c = false → c ∉ l := fun c hc hm => by rw [hall c hm] at hc; cases hc
  have hdot : (46 : UInt8) ∉ l := no 46 (by decide +kernel)
  refine ⟨no 47 (by decide +kernel), no 37 (by decide +kernel), hne, fun e => hdot (by rw [e]; simp), fun e => hdot (by rw [e]; simp)⟩
theorem um_join_pct (S : List (List UInt8)) (h : ∀ q ∈ S, (37 : UInt8) ∉ q) : (37 : UInt8) ∉ Cl.joinS S := by
  unfold Cl.joinS
  intro hm
  obtain ⟨q, hq, hc⟩ := List.mem_flatMap.1 hm
  rcases List.mem_cons.1 hc with e | e
  · exact absurd e (by decide)
  · exact h q hq e
theorem um_norm_words (S : List (List UInt8)) (last : List UInt8) (hS : ∀ q ∈ S, um_Wd q) (h1 : (47 : UInt8) ∉ last) (h2 : (37 : UInt8) ∉ last) (h3 : last ≠ [46, 46]) : norm (Cl.joinS (S ++ [last])) = Cl.joinS (S ++ [last]) := by
  obtain ⟨t, ht⟩ := Cl.joinS_slash S last
  have hp : (37 : UInt8) ∉ Cl.joinS (S ++ [last]) := um_join_pct _ fun q hq => by
    rw [List.mem_append] at hq
    rcases hq with hq | hq
    · exact (hS q hq).pct
    · rw [List.mem_singleton.1 hq]; exact h2
  rw [ht] at hp ⊢
  rw [norm_slash t hp, ← ht]
  exact Cl.clean_words S last (fun q hq => ⟨(hS q hq).slash, (hS q hq).good⟩) h1 h3
theorem um_low_all : ∀ c : Fin 256, (isCtl (lowU (UInt8.ofNat c.val)) == isCtl (UInt8.ofNat c.val) && (lowU (UInt8.ofNat c.val) != 47 || UInt8.ofNat c.val == 47) && (lowU (UInt8.ofNat c.val) != 64 || UInt8.ofNat c.val == 64) && lowU (lowU (UInt8.ofNat c.val)) == lowU (UInt8.ofNat c.val)) = true := by decide +kernel
theorem um_low (c : UInt8) : isCtl (lowU c) = isCtl c ∧ (lowU c = 47 → c = 47) ∧ (lowU c = 64 → c = 64) ∧ lowU (lowU c) = lowU c := by
  have h := um_low_all ⟨c.toNat, c.toNat_lt⟩
  simp only [UInt8.ofNat_toNat, Bool.and_eq_true, Bool.or_eq_true, beq_iff_eq, bne_iff_ne, ne_eq] at h
  obtain ⟨⟨⟨h1, h2⟩, h3⟩, h4⟩ := h
  refine ⟨h1, fun e => ?_, fun e => ?_, h4⟩
  · rcases h2 with h2 | h2; exact absurd e h2; exact h2
  · rcases h3 with h3 | h3; exact absurd e h3; exact h3
theorem um_cut {c : UInt8} {p q : List UInt8} (hp : c ∉ p) : upto c (p ++ (if q = [] then [] else c :: q)) = p ∧ past c (p ++ (if q = [] then [] else c :: q)) = q := by
  by_cases h : q = []
  · rw [if_pos h, List.append_nil, h]
    exact ⟨(upto_none hp).1, past_none hp⟩
  · rw [if_neg h]
    obtain ⟨h1, h2⟩ := upto_app (c := c) (p := p) (t := q) hp
    refine ⟨h1, ?_⟩
    unfold past
    rw [h2]; rfl
def HTTPS : List UInt8 := [104, 116, 116, 112, 115]
theorem um_part (sc : List UInt8) (hsc : sc = HTTP ∨ sc = HTTPS) (host t : List UInt8) (hh : (47 : UInt8) ∉ host) : partU [] (sc ++ SEP ++ host ++ 47 :: t) = some (sc, host, 47 :: t) := by
  rcases hsc with rfl | rfl
  · exact part_http host t hh
  · have e : HTTPS ++ SEP ++ host ++ 47 :: t = 104 :: 116 :: 116 :: 112 :: 115 :: 58 :: 47 :: 47 :: (host ++ 47 :: t) := by simp [HTTPS, SEP]
    rw [e]
    unfold partU
    have hs : schEnd 0 (104 :: 116 :: 116 :: 112 :: 115 :: 58 :: 47 :: 47 :: (host ++ 47 :: t)) = some 5 := by simp [schEnd, isAl, isSg]
    rw [hs]
    simp only [List.drop_succ_cons, List.drop_zero, List.take_succ_cons, List.take_zero, List.length_cons]
    rw [if_neg (by omega), if_pos (by simp), (upto_app hh).1, (upto_app hh).2]
    rfl
theorem um_sclow (sc : List UInt8) (hsc : sc = HTTP ∨ sc = HTTPS) : sc.map lowU = sc ∧ sc ≠ [] ∧ ∀ d ∈ sc, isCtl d = false := by rcases hsc with rfl | rfl <;> decide
theorem um_rest (sc : List UInt8) (hsc : sc = HTTP ∨ sc = HTTPS) (host t : List UInt8) (hh : (47 : UInt8) ∉ host) (hc : (sc ++ SEP ++ host ++ 47 :: t).any isCtl = false) : parseU [] (sc ++ SEP ++ host ++ 47 :: t) = some (restU sc host (47 :: t)) := by
  unfold parseU
  rw [hc]
  simp only [Bool.false_eq_true, if_false]
  rw [if_pos (by simp), um_part sc hsc host t hh]
  simp only [Option.map_some]
  rw [(um_sclow sc hsc).1]
theorem um_parse (sc : List UInt8) (hsc : sc = HTTP ∨ sc = HTTPS) (host x q h : List UInt8) (hh47 : (47 : UInt8) ∉ host) (hh64 : (64 : UInt8) ∉ host) (hlow : host.map lowU = host) (hhc : ∀ d ∈ host, isCtl d = false) (hqc : ∀ d ∈ q, isCtl d = false) (hc : ∀ d ∈ h, isCtl d = false) (hq35 : (35 : UInt8) ∉ q) :
    (sc ++ SEP ++ host ++ (quoteP (norm x) ++ (if q = [] then [] else 63 :: q)) ++ (if h = [] then [] else 35 :: h)).any isCtl = false ∧ parseU [] (sc ++ SEP ++ host ++ (quoteP (norm x) ++ (if q = [] then [] else 63 :: q)) ++ (if h = [] then [] else 35 :: h)) = some ⟨sc, host, quoteP (norm x), norm x, q, h, [], []⟩ := by
  obtain ⟨y, hy⟩ : ∃ y, norm x = 47 :: y := Cl.clean_slash _
  obtain ⟨s, hqs⟩ := uq_head y
  rw [← hy] at hqs
  obtain ⟨R, hR⟩ : ∃ R, R = s ++ (if q = [] then [] else 63 :: q) ++ (if h = [] then [] else 35 :: h) := ⟨_, rfl⟩
  have hR2 : 47 :: R = (quoteP (norm x) ++ (if q = [] then [] else 63 :: q)) ++ (if h = [] then [] else 35 :: h) := by rw [hR, hqs]; simp
  have hfull : sc ++ SEP ++ host ++ (quoteP (norm x) ++ (if q = [] then [] else 63 :: q)) ++ (if h = [] then [] else 35 :: h) = sc ++ SEP ++ host ++ 47 :: R := by rw [hR2]; simp
  have hqa := uq_all (norm x)
  have hno35 : (35 : UInt8) ∉ quoteP (norm x) ++ (if q = [] then [] else 63 :: q) := by
    intro h
    rcases List.mem_append.1 h with h | h
    · exact (hqa 35 h).2.2 rfl
    · split at h
      · cases h
      · rcases List.mem_cons.1 h with h | h
        · exact absurd h (by decide)
        · exact hq35 h
  have hno63 : (63 : UInt8) ∉ quoteP (norm x) := fun h => (hqa 63 h).2.1 rfl
  have c35 := um_cut (c := 35) (q := h) hno35
  have c63 := um_cut (c := 63) (q := q) hno63
  rw [← hR2] at c35
  have hctl : (sc ++ SEP ++ host ++ 47 :: R).any isCtl = false := by
    rw [List.any_eq_false]
    intro d hd
    rw [hR2] at hd
    have key : isCtl d = false := by
      rcases List.mem_append.1 hd with hd | hd
      · rcases List.mem_append.1 hd with hd | hd
        · rcases List.mem_append.1 hd with hd | hd
          · exact (um_sclow sc hsc).2.2 d hd
          · have : ∀ d ∈ SEP, isCtl d = false := by decide
            exact this d hd
        · exact hhc d hd
      · rcases List.mem_append.1 hd with hd | hd
        · rcases List.mem_append.1 hd with hd | hd
          · exact (hqa d hd).1
          · split at hd
            · cases hd
            · rcases List.mem_cons.1 hd with hd | hd
              · rw [hd]; decide
              · exact hqc d hd
        · split at hd
          · cases hd
          · rcases List.mem_cons.1 hd with hd | hd
            · rw [hd]; decide
            · exact hc d hd
    rw [key]; decide
  rw [hfull]
  refine ⟨hctl, ?_⟩
  rw [um_rest sc hsc host R hh47 hctl]
  congr 1
  unfold restU authU pathU
  rw [if_neg hh64, c35.1, c35.2, c63.1, c63.2, uq_norm]
  simp only
  rw [hlow]
theorem um_wlow (l : List UInt8) (hw : Wu l) : (47 : UInt8) ∉ l.map lowU ∧ (64 : UInt8) ∉ l.map lowU ∧ (l.map lowU).map lowU = l.map lowU ∧ ∀ d ∈ l.map lowU, isCtl d = false := by
  have key : ∀ c ∈ l.map lowU, isCtl c = false ∧ c ≠ 47 ∧ c ≠ 64 ∧ lowU c = c := fun c hcm => by
    obtain ⟨d, hd, rfl⟩ := List.mem_map.1 hcm
    have h1 := um_low d
    have h2 := List.any_eq_false.1 hw.ctl d hd
    refine ⟨by rw [h1.1]; simpa using h2, fun e => hw.slash (h1.2.1 e ▸ hd), fun e => hw.at_ (h1.2.2.1 e ▸ hd), h1.2.2.2⟩
  refine ⟨fun h => (key 47 h).2.1 rfl, fun h => (key 64 h).2.2.1 rfl, ?_, fun d hd => (key d hd).1⟩
  rw [List.map_map]
  exact List.map_congr_left fun c hc => (um_low c).2.2.2
theorem um_ctl (l : List UInt8) (hw : Wu l) : ∀ d ∈ l, isCtl d = false := fun d hd => by have := List.any_eq_false.1 hw.ctl d hd; simpa using this
end Go.Proofs.Ytbkeakeldegkeaa.SpA
end
section
namespace Go.Proofs.Ytbkeakeldegkeaa.Pure
open Go.RowKit Go.Proofs.Ytbkeakeldegkeaa.Q Go.Proofs.YtbkeakeldegkeaaW.PrintWords Go.Proofs.YtbkeakeldegkeaaW.PrintLast Go.Proofs.YtbkeakeldegkeaaKit Go.Proofs.Ytbkeakeldegkeaa.SpA
set_option linter.unusedVariables false
set_option linter.unusedSimpArgs false
theorem um_short4 (a b c d : ByteArray) : Ev (fun k => laws_short.f k [a, b, c, d]) (decide (a.size ≤ 2000) && (decide (b.size ≤ 2000) && (decide (c.size ≤ 2000) && decide (d.size ≤ 2000)))) :=
  Ev.same (short_l [a, b, c, d] [a, b, c, d] (by simp) [a, b, c, d] [] rfl) (by simp)
theorem um_true (a b c d : ByteArray) : Ev (fun k => laws_FnUriMade.j2 k a b c d true) true :=
  Ev.step (f := fun _ => some true) (fun k => by simp only [laws_FnUriMade.j2]; rw [if_pos trivial]) (Ev.now _)
theorem um_go (a q h p : ByteArray) (ha : a.size ≤ 2000) (hq : q.size ≤ 2000) (hh : h.size ≤ 2000) (hp : p.size ≤ 2000) (wa : Wu (L a)) (wq : Wu (L q)) (wh : Wu (L h)) (hn : norm (L p) = L p) : Ev (fun k => laws_FnUriMade.j2 k a q h p false) true := by
  have e1 : laws_low.f a = some ⟨((L a).map lowU).toArray⟩ := by unfold laws_low.f; rw [if_pos (by omega)]; rfl
  obtain ⟨w1, w2, w3, w4⟩ := um_wlow (L a) wa
  have sa : (L a).length ≤ 2000 := by rw [← size_L]; exact ha
  have sq : (L q).length ≤ 2000 := by rw [← size_L]; exact hq
  have sh : (L h).length ≤ 2000 := by rw [← size_L]; exact hh
  have sp : (L p).length ≤ 2000 := by rw [← size_L]; exact hp
  have z1 : (⟨((L a).map lowU).toArray⟩ : ByteArray).size ≤ 1000000000 := by rw [size_L]; show ((L a).map lowU).length ≤ _; rw [List.length_map]; omega
  have hm := um_parse HTTPS (.inr rfl) ((L a).map lowU) (L p) (L q) (L h) w1 w2 w3 w4 (um_ctl _ wq) (um_ctl _ wh) wq.num
  have hfull : fullL ((L (⟨#[104, 116, 116, 112, 115]⟩ : ByteArray)).map lowU) ((L (⟨((L a).map lowU).toArray⟩ : ByteArray)).map lowU) false (L p) (norm (L p)) (L q) (L h) = HTTPS ++ SEP ++ (L a).map lowU ++ (quoteP (norm (L p)) ++ (if L q = [] then [] else 63 :: L q)) ++ (if L h = [] then [] else 35 :: L h) := by
    rw [show L (⟨((L a).map lowU).toArray⟩ : ByteArray) = (L a).map lowU from rfl, w3]
    unfold fullL reqL
    rfl
  rw [← hfull] at hm
  have e2 : impl_UriMade.f ⟨#[104, 116, 116, 112, 115]⟩ ⟨((L a).map lowU).toArray⟩ p ⟨#[]⟩ q h ⟨#[]⟩ ⟨#[]⟩ = some ⟨(fullL ((L (⟨#[104, 116, 116, 112, 115]⟩ : ByteArray)).map lowU) ((L (⟨((L a).map lowU).toArray⟩ : ByteArray)).map lowU) false (L p) (norm (L p)) (L q) (L h)).toArray⟩ := by
    unfold impl_UriMade.f
    rw [if_pos ⟨by decide, z1, by omega, by omega, by omega, by decide, by decide⟩]
  generalize hF : fullL ((L (⟨#[104, 116, 116, 112, 115]⟩ : ByteArray)).map lowU) ((L (⟨((L a).map lowU).toArray⟩ : ByteArray)).map lowU) false (L p) (norm (L p)) (L q) (L h) = F at hm e2 hfull
  have hlen : F.length ≤ 3000000000 := by
    have h1 := uq_quote_len (norm (L p))
    rw [hn] at h1
    rw [hfull, hn]
    have e5 : HTTPS.length = 5 := rfl
    have e3 : SEP.length = 3 := rfl
    simp only [List.length_append, List.length_map]
    split <;> split <;> simp only [List.length_cons, List.length_nil] <;> omega
  have e3 := uriOf_eq ⟨#[]⟩ ⟨F.toArray⟩ (by decide) (by rw [size_L]; exact hlen) hm.1 _ hm.2 (by have h1 := uq_quote_len (norm (L p)); rw [hn] at h1; show (quoteP (norm (L p))).length ≤ _; rw [hn]; omega)
  refine Ev.step (fun k => by simp only [laws_FnUriMade.j2]; rw [if_neg (by decide)]) ?_
  refine Ev.call (Ev.some e1) (Ev.call (Ev.some e2) (Ev.call (Ev.some e3) (Ev.pos rfl (Ev.pos (by rw [tl]; rfl) (Ev.pos rfl (Ev.pos ?_ (Ev.pos ?_ (Ev.some ?_))))))))
  · rw [tl, tl]; exact hn
  · first | rfl | (simp only [tl]; done) | (simp only [tl]; rfl)
  · simp only [tl]; exact congrArg some (beq_self_eq_true _)
theorem um_l (a q hs : ByteArray) (xs : List ByteArray) (ha : a.size ≤ 2147483647) (hq : q.size ≤ 2147483647) (hh : hs.size ≤ 2147483647) (hx : xs.length ≤ 2147483647) (hz : ∀ p ∈ xs, p.size ≤ 2147483647) : ∀ (suf pre : List ByteArray) (acc : ByteArray), xs = pre ++ suf → L acc = Cl.joinS (pre.map L) → (∀ p ∈ pre, um_Wd (L p)) → acc.size ≤ pre.length * 2147483648 →
    Ev (fun k => laws_FnUriMade.l0 k a q hs acc xs xs.length pre.length) true
  | [], pre, acc, h, hacc, hw, hl => by
    refine Ev.step (fun k => by simp only [laws_FnUriMade.l0]; rw [if_neg (ln_not h)]) ?_
    refine Ev.call (word a (by omega)) ?_
    by_cases h1 : ((L a).all isWordB && (L a != [])) = true
    · rw [h1]
      refine Ev.pos rfl ?_
      by_cases hn : acc.toList = ([] : List UInt8)
      · exact Ev.pos hn (um_true _ _ _ _)
      refine Ev.neg hn (Ev.call (word q (by omega)) ?_)
      by_cases h2 : ((L q).all isWordB && (L q != [])) = true
      · rw [h2]
        refine Ev.pos rfl (Ev.call (word hs (by omega)) ?_)
        by_cases h3 : ((L hs).all isWordB && (L hs != [])) = true
        · rw [h3]
          refine Ev.pos rfl (Ev.call (um_short4 a acc q hs) ?_)
          by_cases h4 : (decide (a.size ≤ 2000) && (decide (acc.size ≤ 2000) && (decide (q.size ≤ 2000) && decide (hs.size ≤ 2000)))) = true
          · rw [h4]
            simp only [Bool.and_eq_true, decide_eq_true_eq] at h4
            have hpre : pre.map L ≠ [] := by
              intro e
              rw [tl, hacc, e] at hn
              exact hn rfl
            have hc := (List.dropLast_concat_getLast hpre).symm
            have hall : ∀ y ∈ (pre.map L).dropLast ++ [(pre.map L).getLast hpre], um_Wd y := by
              rw [← hc]
              intro y hy
              obtain ⟨p, hp, rfl⟩ := List.mem_map.1 hy
              exact hw p hp
            have hlast := hall ((pre.map L).getLast hpre) (by simp)
            have hnorm : norm (L acc) = L acc := by
              rw [hacc, hc]
              exact um_norm_words _ _ (fun y hy => hall y (by simp [hy])) hlast.slash hlast.pct hlast.good.2.2
            exact um_go a q hs acc h4.1 h4.2.2.1 h4.2.2.2 h4.2.1 (wu_of _ h1) (wu_of _ h2) (wu_of _ h3) hnorm
          · rw [Bool.eq_false_iff.2 h4]; exact um_true _ _ _ _
        · rw [Bool.eq_false_iff.2 h3]; exact Ev.neg (by simp) (um_true _ _ _ _)
      · rw [Bool.eq_false_iff.2 h2]; exact Ev.neg (by simp) (um_true _ _ _ _)
    · rw [Bool.eq_false_iff.2 h1]; exact Ev.neg (by simp) (um_true _ _ _ _)
  | p :: t, pre, acc, h, hacc, hw, hl => by
    have e : rdOf ByteArray.empty xs pre.length = p := get_mid h _
    have hp := hz p (by rw [h]; simp)
    have hlen : pre.length + (t.length + 1) ≤ 2147483647 := by rw [h] at hx; simpa using hx
    have hac2 : acc.size ≤ 2147483647 * 2147483648 := Nat.le_trans hl (Nat.mul_le_mul_right _ (by omega))
    refine Ev.step (fun k => by simp only [laws_FnUriMade.l0]; rw [if_pos (ln_mid h), if_pos (by omega), if_pos (ln_mid h), e]) ?_
    refine Ev.call (word p (by omega)) ?_
    by_cases c : ((L p).all isWordB && (L p != [])) = true
    · have ih := um_l a q hs xs ha hq hh hx hz t (pre ++ [p]) (acc ++ ((⟨#[47]⟩ : ByteArray) ++ p)) (by rw [h]; simp) (by rw [L_append, L_append, hacc, List.map_append, Cl.joinS_app, List.map_cons, List.map_nil, Cl.joinS_cons, Cl.joinS_nil]; simp [L]) (fun y hy => by
        rw [List.mem_append] at hy
        rcases hy with hy | hy
        · exact hw y hy
        · rw [List.mem_singleton.1 hy]; exact um_wd_of _ c) (by rw [size_append, size_append, show (⟨#[47]⟩ : ByteArray).size = 1 from rfl, List.length_append, List.length_singleton, Nat.add_mul]; omega)
      rw [show ((pre ++ [p]).length : Int) = wrap64 ((pre.length : Int) + 1) from (wrap_lmid h (by omega)).symm] at ih
      rw [c]
      exact Ev.pos rfl (Ev.pos (by omega) (Ev.pos (by omega) ih))
    · rw [Bool.eq_false_iff.2 c]
      exact Ev.neg (by simp) (Ev.now _)
theorem FnUriMade : Go.Proofs.Ytbkeakeldegkeaa.StFnUriMade.Pure := by
  intro a xs q h _ hx _ _ _
  have hx := maxLen_le hx
  have j0t : Ev (fun k => laws_FnUriMade.j0 k a xs q h true) true := Ev.step (f := fun _ => some true) (fun k => by simp only [laws_FnUriMade.j0]; rw [if_pos trivial]) (Ev.now _)
  refine Ev.rounds ?_
  unfold laws_FnUriMade.f
  by_cases h1 : (a.size : Int) > 2147483647
  · exact Ev.pos h1 j0t
  refine Ev.neg h1 ?_
  obtain ⟨b, hb, hbt⟩ := um_fits1 xs hx
  cases b with
  | false => exact Ev.call hb (Ev.neg (by simp) j0t)
  | true =>
    obtain ⟨g1, g2⟩ := hbt rfl
    refine Ev.call hb (Ev.pos rfl ?_)
    by_cases h2 : (q.size : Int) > 2147483647
    · exact Ev.pos h2 j0t
    refine Ev.neg h2 ?_
    by_cases h3 : (h.size : Int) > 2147483647
    · rw [decide_eq_true h3]; exact j0t
    rw [decide_eq_false h3]
    refine Ev.step (fun k => by simp only [laws_FnUriMade.j0]; rw [if_neg (by decide)]) ?_
    exact Ev.call (Ev.some parses) (Ev.pos rfl (um_l a q h xs (by omega) (by omega) (by omega) g1 g2 xs [] ⟨#[]⟩ rfl rfl (by simp) (by simp [ByteArray.size])))
end Go.Proofs.Ytbkeakeldegkeaa.Pure
end
section
namespace Go.Proofs.Ytbkeakeldegkeaa.fnUriMade
open Go.ChangeShapes Go.WideShapes Go.ChangeAt Go.RowKit
open Go.ChangeMaps (open_string shut_string)
set_option linter.unusedVariables false
theorem own : ownKnob Try.prog.godebug = none := by kernel_rfl
theorem laidOut : laidOutB Try.prog = true := by kernel_rfl
set_option maxRecDepth 100000 in
theorem lifted (os : Os) (started : os.Started) (H : Type) (enc : TypeId × Value → H) :
    ReturnsInHanded {} Try.checked os 9 .any (Rows.fnUriMadeSpec.pre6 enc Try.prog Try.f9 Rows.fnUriMadeRow.domain false) (Rows.fnUriMadeSpec.post enc Try.prog Try.f9 false true false false) := by
  refine returnsInHanded_of_change_sized (C := Try.checked) own started (by kernel_rfl) Try.func9
    (ChangeSpec.witness6 (enc := enc) (C := Try.checked) false ⟨#[], #[.string ByteArray.empty, .slice none 0 0, .string ByteArray.empty, .string ByteArray.empty], []⟩ 8 (by kernel_rfl) (by kernel_rfl) (by kernel_rfl) (by kernel_rfl)) ?_
  intro W base args ds gs before hval0 hW hcnd hsz0 _
  have hsz : (DataW.weightsEach Try.prog (Try.f9.params.toList ++ Rows.fnUriMadeSpec.plain.varTypes Try.prog) (ds ++ gs)).all (· ≤ reachBytes) = true := hsz0
  have hval : ∀ (j : Nat) t v, Try.f9.params[j]? = some t → args[j]? = some v → Value.okWide Try.prog W .any base t v := hval0
  have hW' := hW
  obtain ⟨p, q, hA0, hV, rfl, hfz, hnd⟩ := hW
  have hA : DataW.TrodAll enc Try.prog W 0 (fun _ => true) true Try.f9.params.toList args.toList ds p := hA0
  rw [Try.params9] at hA hval hsz
  obtain ⟨v0, vs0, d0, ds0, p0, q0, hargs, rfl, rfl, h0, r0⟩ := trodAll_cons hA
  obtain ⟨v1, vs1, d1, ds1, p1, q1, rfl, rfl, rfl, h1, r1⟩ := trodAll_cons r0
  obtain ⟨v2, vs2, d2, ds2, p2, q2, rfl, rfl, rfl, h2, r2⟩ := trodAll_cons r1
  obtain ⟨v3, vs3, d3, ds3, p3, q3, rfl, rfl, rfl, h3, r3⟩ := trodAll_cons r2
  obtain ⟨rfl, rfl, rfl⟩ := trodAll_nil r3
  obtain rfl : args = #[v0, v1, v2, v3] := by cases args; simp_all
  obtain ⟨rfl, rfl⟩ := trodVars_none hV
  obtain ⟨a0, rfl, rfl, rfl, y0⟩ := open_string Try.underlying9 (hval 0 9 v0 rfl rfl) h0
  have w0 : a0.size ≤ 140737488351232 := by
    have z := sized_string hsz (j := 0) (t := 9) rfl rfl
    rw [Array.length_toList] at z
    exact z
  obtain ⟨a1, len1, cap1, rfl⟩ := okWide_slice Try.underlying30 (hval 1 30 v1 rfl rfl)
  have k1 := h1
  have lt1 : ∀ x ∈ p1, x.block < W.heap.size := by obtain ⟨m, hm⟩ := k1; exact DataW.trod_lt m _ _ _ hm
  obtain ⟨l1, el1, C1, ca1, cm1, G1⟩ : ∃ xs, len1 = xs.length ∧ Go.Proofs.YtbkeakeldegkeaaW.PrintWords.Kd.C Go.Proofs.YtbkeakeldegkeaaW.PrintWords.Kd.string W a1 xs.length xs ∧ xs.length ≤ cap1 ∧ cap1 ≤ maxLen ∧ ∀ x ∈ xs, x.size ≤ maxLen := by
    obtain ⟨fuel, hf⟩ := h1
    have hf' : DataW.trod enc Try.prog W 0 (fun _ => true) true fuel 30 [.slice a1 len1 cap1] = some (d1, p1) := hf
    exact Go.Proofs.YtbkeakeldegkeaaOpen.open_kd Try.underlying30 (by kernel_rfl) (fun n cs y h => Go.Proofs.YtbkeakeldegkeaaOpen.one_string Try.underlying9 n cs y h) hf'
  subst el1
  obtain ⟨a2, rfl, rfl, rfl, y2⟩ := open_string Try.underlying9 (hval 2 9 v2 rfl rfl) h2
  have w2 : a2.size ≤ 140737488351232 := by
    have z := sized_string hsz (j := 2) (t := 9) rfl rfl
    rw [Array.length_toList] at z
    exact z
  obtain ⟨a3, rfl, rfl, rfl, y3⟩ := open_string Try.underlying9 (hval 3 9 v3 rfl rfl) h3
  have w3 : a3.size ≤ 140737488351232 := by
    have z := sized_string hsz (j := 3) (t := 9) rfl rfl
    rw [Array.length_toList] at z
    exact z
  clear hA0 hval0 hsz0 hsz
  obtain ⟨k, hk⟩ := Pure.FnUriMade a0 l1 a2 a3 w0 (Nat.le_trans ca1 cm1) G1 w2 w3
  refine (Go.Proofs.Ytbkeakeldegkeaa.Q.laws_FnUriMade.calls k a0 _ _ l1 a2 a3 true W C1 ca1 hk).mono fun e W' hh => ?_
  obtain ⟨he, bel0⟩ := hh
  have bel : Below W.heap.size W W' := bel0
  subst he
  exact ⟨_, rfl, _, _, _, [], _, [], hW', trodAll_mk1 (shut_bool Try.underlying4 _), (trodAll_cons_mk (shut_string Try.underlying9 y0) (trodAll_cons_mk (Below.trod laidOut (by kernel_rfl) (of_decide_eq_true (by kernel_rfl)) k1 bel lt1) (trodAll_cons_mk (shut_string Try.underlying9 y2) (trodAll_cons_mk (shut_string Try.underlying9 y3) trodAll_mk0)))), rfl, bel.frame _, fun h => by cases h⟩
theorem over : Rows.fnUriMadeRow.holds Try.pinned (OpenSpec.ofChange Rows.fnUriMadeSpec) :=
  OpenClaim.holds_of_wide 9 Try.f9 rfl rfl rfl rfl rfl rfl rfl ⟨rfl, rfl, rfl, rfl, rfl⟩ rfl rfl rfl rfl rfl (by kernel_rfl) Try.func9 (by kernel_rfl)
    (of_decide_eq_true (by kernel_rfl)) (by unfold Func.isWrapper; first | (rw [if_pos (by decide +kernel)]; kernel_rfl) | (rw [if_neg (by decide +kernel)]; exact ⟨rfl, rfl⟩))
    (fun os started H enc _ => lifted os started H enc)
theorem proved : Rows.FnUriMadeSaid := over
#print axioms proved
end Go.Proofs.Ytbkeakeldegkeaa.fnUriMade
namespace Go.Proofs.Ytbkeakeldegkeaa
theorem fnUriMade_holds : Rows.FnUriMadeSaid := fnUriMade.proved
end Go.Proofs.Ytbkeakeldegkeaa
end
