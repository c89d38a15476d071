/- FnUriAgain: the law's function, called with any arguments, returns true and leaves its arguments as they were: every input, no condition. Part 11 of 11. -/
import Derived.Test.YtbkeakeldegkeaaZFnUriAgain1
import Derived.Test.YtbkeakeldegkeaaZFnUriAgain7
import Derived.Test.YtbkeakeldegkeaaZFnUriAgain6
import Derived.Test.YtbkeakeldegkeaaZFnUriAgain3
import Derived.Test.YtbkeakeldegkeaaZFnUriAgain4
import Derived.Test.YtbkeakeldegkeaaZFnUriAgain8
import Derived.Test.YtbkeakeldegkeaaZFnUriAgain2
import Derived.Test.YtbkeakeldegkeaaZFnUriAgain9
import Derived.Test.YtbkeakeldegkeaaRows
import Derived.WalkKit
import Derived.ProofKit
import Derived.OpenShut
import Derived.ShutString
import Derived.ChangeOld
import Derived.Below
import Derived.SizedLaws
section
namespace Go.Proofs.Ytbkeakeldegkeaa.Q
open Go.RowKit Go.Proofs.YtbkeakeldegkeaaW.PrintWords Go.Proofs.YtbkeakeldegkeaaW.PrintLast Go.Proofs.YtbkeakeldegkeaaW.PrintMore
attribute [local go_sem] max2_int min2_int max_two min_two max_three min_three max_four min_four
set_option linter.unusedVariables false
set_option linter.unusedSimpArgs false
def laws_holds.l0 : Nat → ByteArray → Int → Int → Int → Option (Bool)
  | 0, _, _, _, _ => none
  | k + 1, x0, x1, x7, x8 => if x8 < x7 then (if 0 ≤ x8 then (if x8 < (x0.size : Int) then (if (bt x0 x8) = x1 then (some true) else (laws_holds.l0 k x0 x1 x7 (wrap64 (x8 + 1)))) else (none)) else (none)) else (some false)
def laws_holds.f (k : Nat) (a0 : ByteArray) (a1 : Int) : Option (Bool) := laws_holds.l0 k a0 a1 (a0.size : Int) 0
end Go.Proofs.Ytbkeakeldegkeaa.Q
end
section
namespace Go.Proofs.Ytbkeakeldegkeaa.SpA
open Go.RowKit Go.Proofs.Ytbkeakeldegkeaa.Q Go.Proofs.YtbkeakeldegkeaaW.PrintWords Go.Proofs.YtbkeakeldegkeaaW.PrintLast Go.Proofs.YtbkeakeldegkeaaKit
set_option linter.unusedVariables false
set_option linter.unusedSimpArgs false
theorem short_l (ys xs : List ByteArray) (hx : xs.length ≤ 9223372036854775807) : ∀ (suf pre : List ByteArray), xs = pre ++ suf → Ev (fun k => laws_short.l0 k ys xs xs.length pre.length) (suf.all (fun s => decide (s.size ≤ 2000)) && decide (ys.length ≤ 60))
  | [], pre, h => by
    refine Ev.step (f := fun _ => some (decide ((ys.length : Int) ≤ 60))) (fun k => by simp only [laws_short.l0]; rw [if_neg (ln_not h)]) (Ev.same (Ev.now _) ?_)
    rw [List.all_nil, Bool.true_and]
    exact decide_eq_decide.2 (by omega)
  | p :: t, pre, h => by
    have e : rdOf ByteArray.empty xs pre.length = p := get_mid h _
    rw [List.all_cons]
    by_cases c : p.size ≤ 2000
    · rw [decide_eq_true c, Bool.true_and]
      refine Ev.step (fun k => ?_) (short_l ys xs hx t (pre ++ [p]) (lmid_next h))
      simp only [laws_short.l0]
      rw [if_pos (ln_mid h), if_pos (by omega), if_pos (ln_mid h), e, if_neg (by omega), wrap_lmid h hx]
    · rw [decide_eq_false c, Bool.false_and, Bool.false_and]
      refine Ev.step (f := fun _ => some false) (fun k => ?_) (Ev.now _)
      simp only [laws_short.l0]
      rw [if_pos (ln_mid h), if_pos (by omega), if_pos (ln_mid h), e, if_pos (by omega)]
theorem short1 (s : ByteArray) : Ev (fun k => laws_short.f k [s]) (decide (s.size ≤ 2000)) :=
  Ev.same (short_l [s] [s] (by simp) [s] [] rfl) (by simp)
def isWordB (c : UInt8) : Bool := !(decide ((Go.bits .or .u8 (c.toNat : Int) 32) < 97) || decide ((Go.bits .or .u8 (c.toNat : Int) 32) > 122)) || !(decide ((c.toNat : Int) < 48) || decide ((c.toNat : Int) > 57))
end Go.Proofs.Ytbkeakeldegkeaa.SpA
end
section
namespace Go.Proofs.Ytbkeakeldegkeaa.SpA
open Go.RowKit Go.Proofs.Ytbkeakeldegkeaa.Q Go.Proofs.YtbkeakeldegkeaaW.PrintWords Go.Proofs.YtbkeakeldegkeaaW.PrintLast Go.Proofs.YtbkeakeldegkeaaKit
set_option linter.unusedVariables false
set_option linter.unusedSimpArgs false
theorem holds_l (s : ByteArray) (x : Int) (hs : s.size ≤ 140737488351232) : ∀ (suf pre : List UInt8), L s = pre ++ suf → Ev (fun k => laws_holds.l0 k s x s.size pre.length) (suf.any (fun c => decide ((c.toNat : Int) = x)))
  | [], pre, h => Ev.step (f := fun _ => some false) (fun k => by simp only [laws_holds.l0]; rw [if_neg (sz_not h)]) (Ev.now _)
  | c :: t, pre, h => by
    rw [List.any_cons]
    by_cases c1 : (c.toNat : Int) = x
    · rw [decide_eq_true c1, Bool.true_or]
      refine Ev.step (f := fun _ => some true) (fun k => ?_) (Ev.now _)
      simp only [laws_holds.l0]
      rw [if_pos (sz_mid h), if_pos (by omega), if_pos (sz_mid h), bt_mid h, if_pos c1]
    · rw [decide_eq_false c1, Bool.false_or]
      refine Ev.step (fun k => ?_) (holds_l s x hs t (pre ++ [c]) (mid_next h))
      simp only [laws_holds.l0]
      rw [if_pos (sz_mid h), if_pos (by omega), if_pos (sz_mid h), bt_mid h, if_neg c1, wrap_mid h hs]
theorem holds (s : ByteArray) (x : Int) (hs : s.size ≤ 140737488351232) : Ev (fun k => laws_holds.f k s x) ((L s).any (fun c => decide ((c.toNat : Int) = x))) := holds_l s x hs (L s) [] rfl
end Go.Proofs.Ytbkeakeldegkeaa.SpA
end
section
namespace Go.Proofs.Ytbkeakeldegkeaa.SpA
open Go.RowKit Go.Proofs.Ytbkeakeldegkeaa.Q Go.Proofs.YtbkeakeldegkeaaW.PrintWords Go.Proofs.YtbkeakeldegkeaaW.PrintLast Go.Proofs.YtbkeakeldegkeaaKit
set_option linter.unusedVariables false
set_option linter.unusedSimpArgs false
theorem word_l (s : ByteArray) (hs : s.size ≤ 140737488351232) : ∀ (suf pre : List UInt8), L s = pre ++ suf → Ev (fun k => laws_word.l0 k s s.size pre.length) (suf.all isWordB && (L s != []))
  | [], pre, h => by
    refine Ev.step (f := fun _ => some (s.toList != [])) (fun k => by simp only [laws_word.l0]; rw [if_neg (sz_not h)]) (Ev.same (Ev.now _) ?_)
    rw [List.all_nil, Bool.true_and, tl]
  | c :: t, pre, h => by
    have ih := word_l s hs t (pre ++ [c]) (mid_next h)
    rw [List.all_cons]
    have hg : ∀ k, laws_word.l0 (k + 1) s s.size pre.length = if isWordB c = true then laws_word.l0 k s s.size (pre ++ [c]).length else some false := by
      intro k
      simp only [laws_word.l0]
      rw [if_pos (sz_mid h), if_pos (by omega), if_pos (sz_mid h), bt_mid h, wrap_mid h hs]
      unfold isWordB
      generalize Go.bits BinOp.or IntKind.u8 (c.toNat : Int) 32 = z
      by_cases h1 : z < 97
      · by_cases h2 : (c.toNat : Int) < 48
        · simp [h1, h2]
        · by_cases h3 : (c.toNat : Int) > 57 <;> simp [h1, h2, h3]
      · by_cases h4 : z > 122
        · by_cases h2 : (c.toNat : Int) < 48
          · simp [h1, h2, h4]
          · by_cases h3 : (c.toNat : Int) > 57 <;> simp [h1, h2, h3, h4]
        · simp [h1, h4]
    by_cases c1 : isWordB c = true
    · rw [c1, Bool.true_and]
      exact Ev.step (fun k => by rw [hg k, if_pos c1]) ih
    · rw [Bool.eq_false_iff.2 c1, Bool.false_and, Bool.false_and]
      exact Ev.step (f := fun _ => some false) (fun k => by rw [hg k, if_neg c1]) (Ev.now _)
theorem word (s : ByteArray) (hs : s.size ≤ 140737488351232) : Ev (fun k => laws_word.f k s) ((L s).all isWordB && (L s != [])) := word_l s hs (L s) [] rfl
end Go.Proofs.Ytbkeakeldegkeaa.SpA
end
section
namespace Go.Proofs.Ytbkeakeldegkeaa.SpA
open Go.RowKit Go.Proofs.Ytbkeakeldegkeaa.Q Go.Proofs.YtbkeakeldegkeaaW.PrintWords Go.Proofs.YtbkeakeldegkeaaW.PrintLast Go.Proofs.YtbkeakeldegkeaaKit
set_option linter.unusedVariables false
set_option linter.unusedSimpArgs false
theorem norm_plain (l : List UInt8) (h : (37 : UInt8) ∉ l) : norm l = Cl.cleanK (lead l ++ l) := by rw [norm, dec_none l h]
theorem norm_slash (t : List UInt8) (h : (37 : UInt8) ∉ (47 :: t : List UInt8)) : norm (47 :: t) = Cl.cleanK (47 :: t) := by rw [norm_plain _ h, lead, if_pos rfl]; rfl
theorem begins_eq (a b : ByteArray) : laws_begins.f a b = some (decide (b.size ≤ a.size) && ((L a).take b.size == L b)) := by
  unfold laws_begins.f
  by_cases h : b.size ≤ a.size
  · rw [if_pos (by omega), if_pos (by omega), decide_eq_true h, Bool.true_and, tl, tl, L_extract]
    simp
  · rw [if_neg (by omega), decide_eq_false h, Bool.false_and]
theorem begins_pre (a b : ByteArray) : laws_begins.f a b = some ((L b).isPrefixOf (L a)) := by
  rw [begins_eq]
  congr 1
  rw [Bool.eq_iff_iff]
  simp only [Bool.and_eq_true, decide_eq_true_eq, beq_iff_eq, List.isPrefixOf_iff_prefix]
  rw [List.prefix_iff_eq_take, size_L b, size_L a]
  exact ⟨fun h => h.2.symm, fun h => ⟨by have := congrArg List.length h; rw [List.length_take] at this; omega, h.symm⟩⟩
theorem stands_ev_l (a b : ByteArray) (hs : a.size ≤ 140737488351232) (hb : L b ≠ []) : ∀ (suf pre : List UInt8), L a = pre ++ suf → Ev (fun k => laws_stands.l0 k a b ((a.size : Int) + 1) pre.length) (decide (0 ≤ ix (L b) suf 0)) := by
  intro suf
  induction suf with
  | nil =>
    intro pre h
    have hsz : a.size = pre.length := by rw [size_L, h]; simp
    have hx : laws_begins.f (a.extract (pre.length : Int).toNat a.size) b = some false := by
      rw [begins_pre, L_extract, Int.toNat_natCast, h, List.append_nil, List.drop_length, List.take_nil]
      cases hl : L b with
      | nil => exact absurd hl hb
      | cons x t => rfl
    have hz : decide (0 ≤ ix (L b) [] 0) = false := by rw [ix, if_neg hb]; rfl
    rw [hz]
    refine Ev.step (f := fun k => laws_stands.l0 k a b ((a.size : Int) + 1) ((pre.length : Int) + 1)) (fun k => ?_) (Ev.step (f := fun _ => some false) (fun k => ?_) (Ev.now _))
    · simp only [laws_stands.l0]
      rw [if_pos (by omega), if_pos (by omega), if_pos (by omega), hx, wrap_id (by omega) (by omega)]
      simp
    · simp only [laws_stands.l0]
      rw [if_neg (by omega)]
  | cons c t ih =>
    intro pre h
    have hsz : a.size = pre.length + (t.length + 1) := by rw [size_L, h]; simp
    have hx : laws_begins.f (a.extract (pre.length : Int).toNat a.size) b = some ((L b).isPrefixOf (c :: t)) := by
      rw [begins_pre, L_extract, Int.toNat_natCast, h, List.drop_left, List.take_of_length_le (by simp; omega)]
    by_cases hp : (L b).isPrefixOf (c :: t) = true
    · have hz : decide (0 ≤ ix (L b) (c :: t) 0) = true := by rw [ix, if_pos hp]; rfl
      rw [hz]
      refine Ev.step (f := fun _ => some true) (fun k => ?_) (Ev.now _)
      simp only [laws_stands.l0]
      rw [if_pos (by omega), if_pos (by omega), if_pos (by omega), hx, hp]
      simp
    · have hz : decide (0 ≤ ix (L b) (c :: t) 0) = decide (0 ≤ ix (L b) t 0) := by
        rw [ix, if_neg hp]
        rcases ix_cases_from (L b) hb t 1 with ⟨e1, e2⟩ | ⟨x, y, e1, e2, e3⟩
        · rcases ix_cases (L b) hb t with ⟨f1, f2⟩ | ⟨x, y, f1, f2, f3⟩
          · rw [e1, f1]
          · exact absurd f1 (e2 x y)
        · rcases ix_cases (L b) hb t with ⟨f1, f2⟩ | ⟨x', y', f1, f2, f3⟩
          · exact absurd e1 (f2 x y)
          · rw [e2, f2, decide_eq_true (by omega), decide_eq_true (by omega)]
      rw [hz]
      have ih' := ih (pre ++ [c]) (mid_next h)
      rw [show ((pre ++ [c]).length : Int) = (pre.length : Int) + 1 by simp] at ih'
      refine Ev.step (fun k => ?_) ih'
      simp only [laws_stands.l0]
      rw [if_pos (by omega), if_pos (by omega), if_pos (by omega), hx, wrap_id (by omega) (by omega)]
      simp [hp]
theorem stands_ev (a b : ByteArray) (hs : a.size ≤ 140737488351232) (hb : L b ≠ []) : Ev (fun k => laws_stands.f k a b) (decide (0 ≤ ix (L b) (L a) 0)) := by
  have := stands_ev_l a b hs hb (L a) [] rfl
  unfold laws_stands.f
  rw [wrap_id (by omega) (by omega)]
  exact this
theorem calm_l1 (s : ByteArray) (hs : s.size ≤ 140737488351232) (r : Bool) (xs : List ByteArray) (n j : Int) (hr : Ev (fun k => laws_calm.l0 k xs n (wrap64 (j + 1))) r) : ∀ (suf pre : List UInt8), L s = pre ++ suf → Ev (fun k => laws_calm.l1 k s xs n j (s.size : Int) pre.length) (!(suf.any isCtl) && r) := by
  intro suf
  induction suf with
  | nil =>
    intro pre h
    refine Ev.step (fun k => ?_) (Ev.same hr (by simp))
    simp only [laws_calm.l1]
    rw [if_neg (sz_not h)]
  | cons c t ih =>
    intro pre h
    have hany : (c :: t).any isCtl = (isCtl c || t.any isCtl) := rfl
    have hbt := bt_mid h
    have ih' := ih (pre ++ [c]) (mid_next h)
    rw [hany]
    by_cases h1 : c.toNat < 32
    · rw [show isCtl c = true by simp [isCtl, h1]]
      refine Ev.step (f := fun _ => some false) (fun k => ?_) (Ev.now _)
      simp only [laws_calm.l1]
      rw [if_pos (sz_mid h), if_pos (by omega), if_pos (sz_mid h), hbt, if_pos (by omega)]
    · by_cases h2 : c = 127
      · subst h2
        refine Ev.step (f := fun _ => some false) (fun k => ?_) (Ev.now _)
        simp only [laws_calm.l1]
        rw [if_pos (sz_mid h), if_pos (by omega), if_pos (sz_mid h), hbt, if_neg (by omega), if_pos (by decide)]
      · have hc : isCtl c = false := by simp [isCtl, h1, h2]
        have h3 : ¬ (c.toNat : Int) = 127 := fun e => h2 (UInt8.toNat_inj.1 (by show c.toNat = 127; omega))
        rw [hc, Bool.false_or]
        refine Ev.step (fun k => ?_) ih'
        simp only [laws_calm.l1]
        rw [if_pos (sz_mid h), if_pos (by omega), if_pos (sz_mid h), hbt, if_neg (by omega), if_neg h3, wrap_mid h hs]
theorem calm_l0 (xs : List ByteArray) (hx : xs.length ≤ 9223372036854775807) (hz : ∀ s ∈ xs, s.size ≤ 140737488351232) : ∀ (suf pre : List ByteArray), xs = pre ++ suf → Ev (fun k => laws_calm.l0 k xs xs.length pre.length) (suf.all fun s => !((L s).any isCtl))
  | [], pre, h => by
    refine Ev.step (f := fun _ => some true) (fun k => ?_) (Ev.now _)
    simp only [laws_calm.l0]
    rw [if_neg (ln_not h)]
  | p :: t, pre, h => by
    have e : rdOf ByteArray.empty xs pre.length = p := get_mid h _
    have ih := calm_l0 xs hx hz t (pre ++ [p]) (lmid_next h)
    rw [show ((pre ++ [p]).length : Int) = wrap64 ((pre.length : Int) + 1) from (wrap_lmid h hx).symm] at ih
    rw [List.all_cons]
    refine Ev.step (fun k => ?_) (calm_l1 p (hz p (by rw [h]; simp)) _ xs xs.length pre.length ih (L p) [] rfl)
    simp only [laws_calm.l0]
    rw [if_pos (ln_mid h), if_pos (by omega), if_pos (ln_mid h), e]
    rfl
theorem calm1 (s : ByteArray) (hs : s.size ≤ 140737488351232) : Ev (fun k => laws_calm.f k [s]) (!((L s).any isCtl)) :=
  Ev.same (calm_l0 [s] (by simp) (by simpa using hs) [s] [] rfl) (by simp)
theorem word_all : ∀ c : Fin 256, (!isWordB (UInt8.ofNat c.val) || (!isCtl (UInt8.ofNat c.val) && UInt8.ofNat c.val != 47 && UInt8.ofNat c.val != 64 && UInt8.ofNat c.val != 37 && UInt8.ofNat c.val != 63 && UInt8.ofNat c.val != 35 && UInt8.ofNat c.val != 58 && UInt8.ofNat c.val != 46)) = true := by decide +kernel
theorem word_no (c : UInt8) (h : isWordB c = true) : isCtl c = false ∧ c ≠ 47 ∧ c ≠ 64 ∧ c ≠ 37 ∧ c ≠ 63 ∧ c ≠ 35 ∧ c ≠ 58 ∧ c ≠ 46 := by
  have h1 := word_all ⟨c.toNat, c.toNat_lt⟩
  simp only [show UInt8.ofNat ((⟨c.toNat, c.toNat_lt⟩ : Fin 256) : Nat) = c by simp, h, Bool.not_true, Bool.false_or, Bool.and_eq_true, bne_iff_ne, ne_eq, Bool.not_eq_true'] at h1
  obtain ⟨⟨⟨⟨⟨⟨⟨a, b⟩, c'⟩, d⟩, e⟩, f⟩, g⟩, i⟩ := h1
  exact ⟨a, b, c', d, e, f, g, i⟩
structure Wu (l : List UInt8) : Prop where
  ne : l ≠ []
  ctl : l.any isCtl = false
  at_ : (64 : UInt8) ∉ l
  slash : (47 : UInt8) ∉ l
  pct : (37 : UInt8) ∉ l
  qm : (63 : UInt8) ∉ l
  num : (35 : UInt8) ∉ l
  col : (58 : UInt8) ∉ l
  dot : (46 : UInt8) ∉ l
theorem wu_of (l : List UInt8) (h : (l.all isWordB && (l != [])) = true) : Wu l := by
  obtain ⟨h1, h2⟩ := Bool.and_eq_true_iff.1 h
  have hall : ∀ c ∈ l, isWordB c = true := fun c hc => List.all_eq_true.1 h1 c hc
  refine ⟨by simpa using h2, ?_, fun hm => ?_, fun hm => ?_, fun hm => ?_, fun hm => ?_, fun hm => ?_, fun hm => ?_, fun hm => ?_⟩
  · rw [List.any_eq_false]
    intro c hc
    rw [(word_no c (hall c hc)).1]; simp
  · exact (word_no _ (hall _ hm)).2.2.1 rfl
  · exact (word_no _ (hall _ hm)).2.1 rfl
  · exact (word_no _ (hall _ hm)).2.2.2.1 rfl
  · exact (word_no _ (hall _ hm)).2.2.2.2.1 rfl
  · exact (word_no _ (hall _ hm)).2.2.2.2.2.1 rfl
  · exact (word_no _ (hall _ hm)).2.2.2.2.2.2.1 rfl
  · exact (word_no _ (hall _ hm)).2.2.2.2.2.2.2 rfl
def H7 : List UInt8 := [104, 116, 116, 112, 58, 47, 47]
theorem upto_app {c : UInt8} : ∀ {p t : List UInt8}, c ∉ p → upto c (p ++ c :: t) = p ∧ (p ++ c :: t).dropWhile (· != c) = c :: t
  | [], t, _ => by simp [upto]
  | x :: p, t, h => by
    have hx : (x != c) = true := bne_iff_ne.2 (fun e => h (by simp [e]))
    obtain ⟨h1, h2⟩ := upto_app (c := c) (p := p) (t := t) (fun e => h (by simp [e]))
    unfold upto at *
    simp [hx, h1, h2]
theorem part_http (host t : List UInt8) (hh : (47 : UInt8) ∉ host) : partU [] (H7 ++ host ++ 47 :: t) = some (HTTP, host, 47 :: t) := by
  have e : H7 ++ host ++ 47 :: t = 104 :: 116 :: 116 :: 112 :: 58 :: 47 :: 47 :: (host ++ 47 :: t) := by simp [H7]
  rw [e]
  unfold partU
  have hs : schEnd 0 (104 :: 116 :: 116 :: 112 :: 58 :: 47 :: 47 :: (host ++ 47 :: t)) = some 4 := by simp [schEnd, isAl, isSg]
  rw [hs]
  simp only [List.drop_succ_cons, List.drop_zero, List.take_succ_cons, List.take_zero, List.length_cons]
  rw [if_neg (by omega), if_pos (by simp), (upto_app hh).1, (upto_app hh).2]
  rfl
theorem parse_http (host t : List UInt8) (hh : (47 : UInt8) ∉ host) (hc : (H7 ++ host ++ 47 :: t).any isCtl = false) : parseU [] (H7 ++ host ++ 47 :: t) = some (restU HTTP host (47 :: t)) := by
  unfold parseU
  rw [hc]
  simp only [Bool.false_eq_true, if_false]
  rw [if_pos (by simp), part_http host t hh]
  rfl
theorem parse_rel (host u : List UInt8) (hh : host ≠ []) (hs : ix SEP u 0 < 0) (hc : u.any isCtl = false) : parseU host u = some (restU [] host u) := by
  unfold parseU
  rw [hc]
  simp only [Bool.false_eq_true, if_false]
  rw [if_neg (by rintro (e | e); exact hh e; omega)]
theorem uriOf_eq (a0 a1 : ByteArray) (h0 : a0.size ≤ 3000000000) (h1 : a1.size ≤ 3000000000) (hc : (L a1).any isCtl = false) (u : UR) (hp : parseU (L a0) (L a1) = some u) (ho : u.orig.length ≤ 2147483647) :
    impl_UriOf.f a0 a1 = some (⟨u.sch.toArray⟩, ⟨u.host.toArray⟩, ⟨u.path.toArray⟩, ⟨u.orig.toArray⟩, ⟨u.query.toArray⟩, ⟨u.hash.toArray⟩, ⟨u.user.toArray⟩, ⟨u.pass.toArray⟩, true) := by
  unfold impl_UriOf.f
  rw [if_pos ⟨⟨h0, h1⟩, hc⟩, hp]
  simp only
  rw [if_pos ho]
theorem upto_len (c : UInt8) (l : List UInt8) : (upto c l).length ≤ l.length := (List.takeWhile_sublist _).length_le
theorem restU_orig_len (s h u : List UInt8) : (restU s h u).orig.length ≤ u.length := by
  show (upto 63 (upto 35 u)).length ≤ _
  have h1 := upto_len 63 (upto 35 u)
  have h2 := upto_len 35 u
  omega
theorem parses : laws_parses.f = some true := by
  have hp : parseU (L ⟨#[]⟩) (L ⟨#[104, 116, 116, 112, 58, 47, 47, 104, 47, 97, 63, 98, 61, 99, 35, 100]⟩) = some ⟨HTTP, [104], [47, 97], [47, 97], [98, 61, 99], [100], [], []⟩ := by
    have := parse_http [104] [97, 63, 98, 61, 99, 35, 100] (by decide) (by decide)
    refine this.trans ?_
    congr 1
    unfold restU
    rw [show authU [104] = ([], [], [104]) by decide, show pathU (47 :: [97, 63, 98, 61, 99, 35, 100]) = ([47, 97], [98, 61, 99], [100]) by decide]
    simp only
    rw [norm_slash _ (by decide), show Cl.cleanK [47, 97] = [47, 97] by decide]
    rfl
  unfold laws_parses.f
  rw [uriOf_eq _ _ (by decide) (by decide) (by decide) _ hp (by decide)]
  simp only [Option.bind_some, tl]
  rfl
end Go.Proofs.Ytbkeakeldegkeaa.SpA
end
section
namespace Go.Proofs.Ytbkeakeldegkeaa.SpA
open Go.RowKit Go.Proofs.Ytbkeakeldegkeaa.Q Go.Proofs.YtbkeakeldegkeaaW.PrintWords Go.Proofs.YtbkeakeldegkeaaW.PrintLast Go.Proofs.YtbkeakeldegkeaaKit
set_option linter.unusedVariables false
set_option linter.unusedSimpArgs false
set_option maxRecDepth 100000 in
theorem uq_esc_all : ∀ c : Fin 256, (UInt8.ofNat c.val == 47 || (escP (UInt8.ofNat c.val)).all fun d => !isCtl d && d != 63 && d != 35 && d != 47) = true := by decide +kernel
theorem uq_esc_no (c : UInt8) (h : c ≠ 47) : ∀ d ∈ escP c, isCtl d = false ∧ d ≠ 63 ∧ d ≠ 35 ∧ d ≠ 47 := by
  have := uq_esc_all ⟨c.toNat, c.toNat_lt⟩
  simp only [UInt8.ofNat_toNat] at this
  rcases Bool.or_eq_true_iff.1 this with e | e
  · exact absurd (by simpa using e) h
  · intro d hd
    have := List.all_eq_true.1 e d hd
    simp only [Bool.and_eq_true, Bool.not_eq_true', bne_iff_ne, ne_eq] at this
    exact ⟨this.1.1.1, this.1.1.2, this.1.2, this.2⟩
set_option maxRecDepth 100000 in
theorem uq_plain_all : ∀ c : Fin 256, (!(decide (bt tab2 ((UInt8.ofNat c.val).toNat : Int) = 0)) || UInt8.ofNat c.val != 37) = true := by decide +kernel
set_option maxRecDepth 100000 in
theorem uq_hex_all : ∀ c : Fin 256, (decide (hx (hexU ((UInt8.ofNat c.val).toNat / 16)) ≠ 16) && decide (hx (hexU ((UInt8.ofNat c.val).toNat % 16)) ≠ 16) && (hx2 (hexU ((UInt8.ofNat c.val).toNat / 16)) (hexU ((UInt8.ofNat c.val).toNat % 16)) == UInt8.ofNat c.val)) = true := by decide +kernel
theorem uq_dec_esc (c : UInt8) (t : List UInt8) : dec (escP c ++ t) = c :: dec t := by
  unfold escP
  by_cases h : bt tab2 (c.toNat : Int) = 0
  · rw [if_pos h]
    have := uq_plain_all ⟨c.toNat, c.toNat_lt⟩
    simp only [UInt8.ofNat_toNat] at this
    rw [decide_eq_true h] at this
    exact dec_plain c (by simpa using this) t
  · rw [if_neg h]
    have := uq_hex_all ⟨c.toNat, c.toNat_lt⟩
    simp only [UInt8.ofNat_toNat, Bool.and_eq_true, decide_eq_true_eq, beq_iff_eq] at this
    obtain ⟨⟨h1, h2⟩, h3⟩ := this
    show dec (37 :: _ :: _ :: t) = _
    rw [dec, if_pos rfl, if_neg (by rintro (e | e); exact h1 e; exact h2 e), h3]
theorem uq_dec_flat : ∀ s : List UInt8, dec (s.flatMap escP) = s
  | [] => by simp [dec]
  | c :: t => by rw [List.flatMap_cons, uq_dec_esc, uq_dec_flat t]
theorem uq_dec_quote (s : List UInt8) : dec (quoteP s) = s := by
  unfold quoteP
  split
  · rename_i h; rw [h]; simp [dec]
  · exact uq_dec_flat s
theorem uq_flat_len : ∀ p : List UInt8, (p.flatMap escP).length ≤ 3 * p.length
  | [] => by simp
  | c :: t => by
    have := escP_len c
    have := uq_flat_len t
    rw [List.flatMap_cons, List.length_append, List.length_cons]
    omega
theorem uq_quote_len (p : List UInt8) : (quoteP p).length ≤ 3 * p.length + 1 := by
  unfold quoteP
  split
  · simp
  · have := uq_flat_len p; omega
theorem uq_head (t : List UInt8) : ∃ s, quoteP (47 :: t) = 47 :: s := by
  have e : escP 47 = [47] := by decide +kernel
  unfold quoteP
  split
  · rename_i h; exact absurd (List.cons.inj h).1 (by decide)
  · exact ⟨t.flatMap escP, by rw [List.flatMap_cons, e]; rfl⟩
theorem uq_norm (x : List UInt8) : norm (quoteP (norm x)) = norm x := by
  have hx : norm x = Cl.cleanK (lead x ++ dec x) := rfl
  obtain ⟨t, ht⟩ := Cl.clean_slash (lead x ++ dec x)
  obtain ⟨s, hs⟩ := uq_head t
  have hl : lead (quoteP (norm x)) = [] := by rw [hx, ht, hs, lead, if_pos rfl]
  rw [norm, hl, List.nil_append, uq_dec_quote, hx, Cl.clean_again]
theorem uq_esc47 : ∀ d ∈ escP 47, isCtl d = false ∧ d ≠ 63 ∧ d ≠ 35 := by decide +kernel
theorem uq_all (s : List UInt8) : ∀ d ∈ quoteP s, isCtl d = false ∧ d ≠ 63 ∧ d ≠ 35 := by
  unfold quoteP
  split
  · intro d hd
    obtain rfl : d = 42 := by simpa using hd
    decide
  · intro d hd
    obtain ⟨c, hc, hd⟩ := List.mem_flatMap.1 hd
    by_cases h : c = 47
    · subst h; exact uq_esc47 d hd
    · exact ⟨(uq_esc_no c h d hd).1, (uq_esc_no c h d hd).2.1, (uq_esc_no c h d hd).2.2.1⟩
theorem uriText_eq (a0 a1 : ByteArray) (raw : Bool) (h0 : a0.size ≤ 3000000000) (h1 : a1.size ≤ 3000000000) (hc : (L a1).any isCtl = false) (u : UR) (hp : parseU (L a0) (L a1) = some u) (ho : u.orig.length ≤ 2147483647) :
    impl_UriText.f a0 a1 raw = some (⟨(u.full raw).toArray⟩, ⟨(u.req raw).toArray⟩, ⟨(lastU u.path).toArray⟩, true) := by
  unfold impl_UriText.f
  rw [if_pos ⟨⟨h0, h1⟩, hc⟩, hp]
  simp only
  rw [if_pos ho]
theorem uri_guards (a b : ByteArray) (ha : a.size ≤ 2147483647) (hb : b.size ≤ 2147483647) (j1 : Nat → Bool → Option Bool) (ht : Ev (fun k => j1 k true) true)
    (hgo : b.size ≤ 2000 → Wu (L a) → (L b).any isCtl = false → ∀ t, L b = 47 :: t → ix SEP (L b) 0 < 0 → Ev (fun k => j1 k false) true) :
    Ev (fun k => ((laws_parses.f).bind fun t468 => (if t468 = true then ((laws_word.f k a).bind fun t469 => (if t469 = true then ((laws_short.f k (([b] : List ByteArray))).bind fun t473 => (if t473 = true then ((laws_calm.f k (([b] : List ByteArray))).bind fun t477 => (if t477 = true then ((laws_begins.f b (⟨#[47]⟩ : ByteArray)).bind fun t478 => (if t478 = true then ((laws_begins.f b (⟨#[47, 47]⟩ : ByteArray)).bind fun t479 => (if t479 = true then (j1 k true) else ((laws_stands.f k b (⟨#[58, 47, 47]⟩ : ByteArray)).bind fun t480 => (j1 k t480)))) else (j1 k true))) else (j1 k true))) else (j1 k true))) else (j1 k true))) else (some false)))) true := by
  refine Ev.call (Ev.some parses) (Ev.pos rfl (Ev.call (word a (by omega)) ?_))
  by_cases h1 : ((L a).all isWordB && (L a != [])) = true
  · rw [h1]
    refine Ev.pos rfl (Ev.call (short1 b) ?_)
    by_cases h2 : b.size ≤ 2000
    · rw [decide_eq_true h2]
      refine Ev.pos rfl (Ev.call (calm1 b (by omega)) ?_)
      by_cases h3 : (L b).any isCtl = true
      · rw [h3]; exact Ev.neg (by simp) ht
      · have h3 : (L b).any isCtl = false := by simpa using h3
        rw [h3]
        refine Ev.pos rfl (Ev.call (Ev.some (begins_pre b ⟨#[47]⟩)) ?_)
        by_cases h4 : ((L (⟨#[47]⟩ : ByteArray)).isPrefixOf (L b)) = true
        · rw [h4]
          refine Ev.pos rfl (Ev.call (Ev.some (begins_pre b ⟨#[47, 47]⟩)) ?_)
          by_cases h5 : ((L (⟨#[47, 47]⟩ : ByteArray)).isPrefixOf (L b)) = true
          · rw [h5]; exact Ev.pos rfl ht
          · rw [Bool.eq_false_iff.2 h5]
            refine Ev.neg (by simp) (Ev.call (stands_ev b ⟨#[58, 47, 47]⟩ (by omega) (by decide)) ?_)
            by_cases h6 : 0 ≤ ix (L (⟨#[58, 47, 47]⟩ : ByteArray)) (L b) 0
            · rw [decide_eq_true h6]; exact ht
            · rw [decide_eq_false h6]
              obtain ⟨t, ht'⟩ := List.isPrefixOf_iff_prefix.1 h4
              exact hgo h2 (wu_of _ h1) h3 t ht'.symm (by show ix SEP (L b) 0 < 0; have : ¬ 0 ≤ ix SEP (L b) 0 := h6; omega)
        · rw [Bool.eq_false_iff.2 h4]; exact Ev.neg (by simp) ht
    · rw [decide_eq_false h2]; exact Ev.neg (by simp) ht
  · rw [Bool.eq_false_iff.2 h1]; exact Ev.neg (by simp) ht
end Go.Proofs.Ytbkeakeldegkeaa.SpA
end
section
namespace Go.Proofs.Ytbkeakeldegkeaa.Pure
open Go.RowKit Go.Proofs.Ytbkeakeldegkeaa.Q Go.Proofs.YtbkeakeldegkeaaW.PrintWords Go.Proofs.YtbkeakeldegkeaaW.PrintLast Go.Proofs.YtbkeakeldegkeaaKit Go.Proofs.Ytbkeakeldegkeaa.SpA
set_option linter.unusedVariables false
set_option linter.unusedSimpArgs false
theorem ua_low_all : ∀ c : Fin 256, (isCtl (lowU (UInt8.ofNat c.val)) == isCtl (UInt8.ofNat c.val) && (lowU (UInt8.ofNat c.val) != 47 || UInt8.ofNat c.val == 47) && (lowU (UInt8.ofNat c.val) != 64 || UInt8.ofNat c.val == 64) && lowU (lowU (UInt8.ofNat c.val)) == lowU (UInt8.ofNat c.val)) = true := by decide +kernel
theorem ua_low (c : UInt8) : isCtl (lowU c) = isCtl c ∧ (lowU c = 47 → c = 47) ∧ (lowU c = 64 → c = 64) ∧ lowU (lowU c) = lowU c := by
  have h := ua_low_all ⟨c.toNat, c.toNat_lt⟩
  simp only [UInt8.ofNat_toNat, Bool.and_eq_true, Bool.or_eq_true, beq_iff_eq, bne_iff_ne, ne_eq] at h
  obtain ⟨⟨⟨h1, h2⟩, h3⟩, h4⟩ := h
  refine ⟨h1, fun e => ?_, fun e => ?_, h4⟩
  · rcases h2 with h2 | h2; exact absurd e h2; exact h2
  · rcases h3 with h3 | h3; exact absurd e h3; exact h3
theorem ua_upto_no (c : UInt8) : ∀ l : List UInt8, c ∉ upto c l
  | [] => by simp [upto]
  | x :: t => by
    have ih := ua_upto_no c t
    unfold upto at *
    by_cases h : x = c
    · subst h; simp
    · have hx : (x != c) = true := bne_iff_ne.2 h
      rw [List.takeWhile_cons, if_pos hx]
      simp only [List.mem_cons, not_or]
      exact ⟨fun e => h e.symm, ih⟩
theorem ua_upto_sub {c x : UInt8} {l : List UInt8} (h : x ∈ upto c l) : x ∈ l := (List.takeWhile_sublist _).mem h
theorem ua_past_sub {c x : UInt8} {l : List UInt8} (h : x ∈ past c l) : x ∈ l := (List.dropWhile_sublist _).mem (List.mem_of_mem_drop h)
theorem ua_cut {c : UInt8} {p q : List UInt8} (hp : c ∉ p) : upto c (p ++ (if q = [] then [] else c :: q)) = p ∧ past c (p ++ (if q = [] then [] else c :: q)) = q := by
  by_cases h : q = []
  · rw [if_pos h, List.append_nil, h]
    exact ⟨(upto_none hp).1, past_none hp⟩
  · rw [if_neg h]
    obtain ⟨h1, h2⟩ := upto_app (c := c) (p := p) (t := q) hp
    refine ⟨h1, ?_⟩
    unfold past
    rw [h2]; rfl
theorem ua_true (a b : ByteArray) : Ev (fun k => laws_FnUriAgain.j1 k a b true) true :=
  Ev.step (f := fun _ => some true) (fun k => by simp only [laws_FnUriAgain.j1]; rw [if_pos trivial]) (Ev.now _)
theorem ua_go (a b : ByteArray) (ha : a.size ≤ 2147483647) (hb : b.size ≤ 2000) (hw : Wu (L a)) (hc : (L b).any isCtl = false) (t : List UInt8) (ht : L b = 47 :: t) (hs : ix SEP (L b) 0 < 0) : Ev (fun k => laws_FnUriAgain.j1 k a b false) true := by
  have hbl : (L b).length ≤ 2000 := by rw [← size_L]; exact hb
  have hal : (L a).length ≤ 2147483647 := by rw [← size_L]; exact ha
  have hp := parse_rel (L a) (L b) hw.ne hs hc
  have ho : (restU [] (L a) (L b)).orig.length ≤ 2147483647 := by have := restU_orig_len [] (L a) (L b); omega
  have e1 := uriOf_eq a b (by omega) (by omega) hc _ hp ho
  have e2 := uriText_eq a b false (by omega) (by omega) hc _ hp ho
  have hrt := restU_total [] (L a) (L b)
  have hpath := parse_path hp hc
  obtain ⟨x, hx⟩ : ∃ x, (restU [] (L a) (L b)).path = norm x := ⟨_, rfl⟩
  have hhost : (restU [] (L a) (L b)).host = (L a).map lowU := by
    show (authU (L a)).2.2.map lowU = _
    unfold authU
    rw [if_neg hw.at_]
  have hsch : (restU [] (L a) (L b)).scheme = [] := rfl
  have hq35 : (35 : UInt8) ∉ (restU [] (L a) (L b)).query := fun h => ua_upto_no 35 (L b) (ua_past_sub h)
  have hqc : ∀ d ∈ (restU [] (L a) (L b)).query, isCtl d = false := fun d hd => by
    have := List.any_eq_false.1 hc d (ua_upto_sub (ua_past_sub hd)); simpa using this
  have hhc : ∀ d ∈ (restU [] (L a) (L b)).hash, isCtl d = false := fun d hd => by
    have := List.any_eq_false.1 hc d (ua_past_sub hd); simpa using this
  generalize restU [] (L a) (L b) = u at hp ho e1 e2 hrt hpath hx hhost hsch hq35 hqc hhc
  obtain ⟨y, hy⟩ : ∃ y, u.path = 47 :: y := by rw [hx]; exact Cl.clean_slash _
  obtain ⟨s, hqs⟩ := uq_head y
  rw [← hy] at hqs
  have hlow : ∀ c ∈ (L a).map lowU, isCtl c = false ∧ c ≠ 47 ∧ c ≠ 64 ∧ lowU c = c := fun c hcm => by
    obtain ⟨d, hd, rfl⟩ := List.mem_map.1 hcm
    have h1 := ua_low d
    have h2 := List.any_eq_false.1 hw.ctl d hd
    refine ⟨by rw [h1.1]; simpa using h2, fun e => hw.slash (h1.2.1 e ▸ hd), fun e => hw.at_ (h1.2.2.1 e ▸ hd), h1.2.2.2⟩
  have hh47 : (47 : UInt8) ∉ (L a).map lowU := fun h => (hlow 47 h).2.1 rfl
  have hh64 : (64 : UInt8) ∉ (L a).map lowU := fun h => (hlow 64 h).2.2.1 rfl
  have hpth : u.pth = u.path := by unfold UR.pth; rw [if_neg hpath]
  obtain ⟨R, hR⟩ : ∃ R, R = s ++ (if u.query = [] then [] else 63 :: u.query) ++ (if u.hash = [] then [] else 35 :: u.hash) := ⟨_, rfl⟩
  have hR2 : 47 :: R = (quoteP u.path ++ (if u.query = [] then [] else 63 :: u.query)) ++ (if u.hash = [] then [] else 35 :: u.hash) := by rw [hR, hqs]; simp
  have hfull : u.full false = H7 ++ (L a).map lowU ++ 47 :: R := by
    unfold UR.full UR.req UR.sch
    rw [if_pos hsch, hhost, hpth, hR2]
    simp [H7, HTTP, SEP]
  have hqa := uq_all u.path
  have hno35 : (35 : UInt8) ∉ quoteP u.path ++ (if u.query = [] then [] else 63 :: u.query) := by
    intro h
    rcases List.mem_append.1 h with h | h
    · exact (hqa 35 h).2.2 rfl
    · split at h
      · cases h
      · rcases List.mem_cons.1 h with h | h
        · exact absurd h (by decide)
        · exact hq35 h
  have hno63 : (63 : UInt8) ∉ quoteP u.path := fun h => (hqa 63 h).2.1 rfl
  have c35 := ua_cut (c := 35) (q := u.hash) hno35
  have c63 := ua_cut (c := 63) (q := u.query) hno63
  rw [← hR2] at c35
  have hctl : (H7 ++ (L a).map lowU ++ 47 :: R).any isCtl = false := by
    rw [List.any_eq_false]
    intro d hd
    rw [hR2] at hd
    have key : isCtl d = false := by
      rcases List.mem_append.1 hd with hd | hd
      · rcases List.mem_append.1 hd with hd | hd
        · have : ∀ d ∈ H7, isCtl d = false := by decide
          exact this d hd
        · exact (hlow d hd).1
      · rcases List.mem_append.1 hd with hd | hd
        · rcases List.mem_append.1 hd with hd | hd
          · exact (hqa d hd).1
          · split at hd
            · cases hd
            · rcases List.mem_cons.1 hd with hd | hd
              · rw [hd]; decide
              · exact hqc d hd
        · split at hd
          · cases hd
          · rcases List.mem_cons.1 hd with hd | hd
            · rw [hd]; decide
            · exact hhc d hd
    rw [key]; decide
  have hlen : (u.full false).length ≤ 3000000000 := by
    have h1 := uq_quote_len u.path
    have h2 : (47 :: R).length ≤ (quoteP u.path).length + u.query.length + u.hash.length + 2 := by
      rw [hR2, List.length_append, List.length_append]
      split <;> split <;> simp <;> omega
    rw [hfull, List.length_append, List.length_append, List.length_map]
    have : H7.length = 7 := rfl
    omega
  have hp2 := parse_http ((L a).map lowU) R hh47 hctl
  rw [← hfull] at hp2
  have hv : restU HTTP ((L a).map lowU) (47 :: R) = ⟨HTTP, u.host, quoteP u.path, u.path, u.query, u.hash, [], []⟩ := by
    unfold restU authU pathU
    rw [if_neg hh64, c35.1, c35.2, c63.1, c63.2, hx, uq_norm, ← hx, hhost]
    simp only
    congr 1
    rw [List.map_map]
    exact List.map_congr_left fun c hc => (ua_low c).2.2.2
  rw [hv] at hp2
  have hz : (⟨(u.full false).toArray⟩ : ByteArray).size ≤ 3000000000 := by rw [size_L]; exact hlen
  have ho2 : (quoteP u.path).length ≤ 2147483647 := by have := uq_quote_len u.path; omega
  have hcF : (L (⟨(u.full false).toArray⟩ : ByteArray)).any isCtl = false := by show (u.full false).any isCtl = false; rw [hfull]; exact hctl
  have f1 := uriOf_eq ⟨#[]⟩ ⟨(u.full false).toArray⟩ (by decide) hz hcF _ hp2 ho2
  have f2 := uriText_eq ⟨#[]⟩ ⟨(u.full false).toArray⟩ false (by decide) hz hcF _ hp2 ho2
  have hs1 : UR.sch ⟨HTTP, u.host, quoteP u.path, u.path, u.query, u.hash, [], []⟩ = u.sch := by unfold UR.sch; rw [if_pos hsch, if_neg (show ¬ HTTP = [] by decide)]
  have hfu : UR.full ⟨HTTP, u.host, quoteP u.path, u.path, u.query, u.hash, [], []⟩ false = u.full false := by
    unfold UR.full
    rw [hs1]
    unfold UR.req
    rw [hpth, show UR.pth ⟨HTTP, u.host, quoteP u.path, u.path, u.query, u.hash, [], []⟩ = u.path by unfold UR.pth; rw [if_neg hpath]]
    rfl
  rw [hs1] at f1
  rw [hfu] at f2
  refine Ev.step (fun k => by simp only [laws_FnUriAgain.j1]; rw [if_neg (by decide)]) ?_
  refine Ev.call (Ev.some e1) (Ev.call (Ev.some e2) (Ev.pos rfl (Ev.step (fun k => by simp only [laws_FnUriAgain.j2]; rw [if_neg (by decide)]) ?_)))
  refine Ev.call (Ev.some f1) (Ev.call (Ev.some f2) (Ev.pos rfl (Ev.pos rfl (Ev.pos rfl (Ev.pos rfl (Ev.pos rfl (Ev.pos rfl (Ev.pos rfl (Ev.some ?_)))))))))
  exact congrArg some (beq_self_eq_true _)
theorem FnUriAgain : laws_FnUriAgain.Pure := by
  intro a b _ _
  have j0t : Ev (fun k => laws_FnUriAgain.j0 k a b true) true := Ev.step (f := fun _ => some true) (fun k => by simp only [laws_FnUriAgain.j0]; rw [if_pos trivial]) (Ev.now _)
  refine Ev.rounds ?_
  unfold laws_FnUriAgain.f
  by_cases h : (a.size : Int) > 2147483647
  · exact Ev.pos h j0t
  refine Ev.neg h ?_
  by_cases h2 : (b.size : Int) > 2147483647
  · rw [decide_eq_true h2]; exact j0t
  · rw [decide_eq_false h2]
    refine Ev.step (fun k => by simp only [laws_FnUriAgain.j0]; rw [if_neg (by decide)]) ?_
    exact uri_guards a b (by omega) (by omega) (fun k x => laws_FnUriAgain.j1 k a b x) (ua_true a b) (fun h1 h2 h3 t h4 h5 => ua_go a b (by omega) h1 h2 h3 t h4 h5)
end Go.Proofs.Ytbkeakeldegkeaa.Pure
end
section
namespace Go.Proofs.Ytbkeakeldegkeaa.fnUriAgain
open Go.ChangeShapes Go.WideShapes Go.ChangeAt Go.RowKit
open Go.ChangeMaps (open_string shut_string)
set_option linter.unusedVariables false
theorem own : ownKnob Try.prog.godebug = none := by kernel_rfl
set_option maxRecDepth 100000 in
theorem lifted (os : Os) (started : os.Started) (H : Type) (enc : TypeId × Value → H) :
    ReturnsInHanded {} Try.checked os 6 .any (Rows.fnUriAgainSpec.pre6 enc Try.prog Try.f6 Rows.fnUriAgainRow.domain false) (Rows.fnUriAgainSpec.post enc Try.prog Try.f6 false true false false) := by
  refine returnsInHanded_of_change_sized (C := Try.checked) own started (by kernel_rfl) Try.func6
    (ChangeSpec.witness6 (enc := enc) (C := Try.checked) false ⟨#[], #[.string ByteArray.empty, .string ByteArray.empty], []⟩ 8 (by kernel_rfl) (by kernel_rfl) (by kernel_rfl) (by kernel_rfl)) ?_
  intro W base args ds gs before hval0 hW hcnd hsz0 _
  have hsz : (DataW.weightsEach Try.prog (Try.f6.params.toList ++ Rows.fnUriAgainSpec.plain.varTypes Try.prog) (ds ++ gs)).all (· ≤ reachBytes) = true := hsz0
  have hval : ∀ (j : Nat) t v, Try.f6.params[j]? = some t → args[j]? = some v → Value.okWide Try.prog W .any base t v := hval0
  have hW' := hW
  obtain ⟨p, q, hA0, hV, rfl, hfz, hnd⟩ := hW
  have hA : DataW.TrodAll enc Try.prog W 0 (fun _ => true) true Try.f6.params.toList args.toList ds p := hA0
  rw [Try.params6] at hA hval hsz
  obtain ⟨v0, vs0, d0, ds0, p0, q0, hargs, rfl, rfl, h0, r0⟩ := trodAll_cons hA
  obtain ⟨v1, vs1, d1, ds1, p1, q1, rfl, rfl, rfl, h1, r1⟩ := trodAll_cons r0
  obtain ⟨rfl, rfl, rfl⟩ := trodAll_nil r1
  obtain rfl : args = #[v0, v1] := by cases args; simp_all
  obtain ⟨rfl, rfl⟩ := trodVars_none hV
  obtain ⟨a0, rfl, rfl, rfl, y0⟩ := open_string Try.underlying9 (hval 0 9 v0 rfl rfl) h0
  have w0 : a0.size ≤ 140737488351232 := by
    have z := sized_string hsz (j := 0) (t := 9) rfl rfl
    rw [Array.length_toList] at z
    exact z
  obtain ⟨a1, rfl, rfl, rfl, y1⟩ := open_string Try.underlying9 (hval 1 9 v1 rfl rfl) h1
  have w1 : a1.size ≤ 140737488351232 := by
    have z := sized_string hsz (j := 1) (t := 9) rfl rfl
    rw [Array.length_toList] at z
    exact z
  clear hA0 hval0 hsz0 hsz
  refine (Q.laws_FnUriAgain.walk Pure.FnUriAgain a0 a1 W w0 w1).mono fun e W' ⟨he, bel⟩ => ?_
  subst he
  exact ⟨_, rfl, _, _, _, [], _, [], hW', trodAll_mk1 (shut_bool Try.underlying4 _), (trodAll_cons_mk (shut_string Try.underlying9 y0) (trodAll_cons_mk (shut_string Try.underlying9 y1) trodAll_mk0)), rfl, bel.frame _, fun h => by cases h⟩
theorem over : Rows.fnUriAgainRow.holds Try.pinned (OpenSpec.ofChange Rows.fnUriAgainSpec) :=
  OpenClaim.holds_of_wide 6 Try.f6 rfl rfl rfl rfl rfl rfl rfl ⟨rfl, rfl, rfl, rfl, rfl⟩ rfl rfl rfl rfl rfl (by kernel_rfl) Try.func6 (by kernel_rfl)
    (of_decide_eq_true (by kernel_rfl)) (by unfold Func.isWrapper; first | (rw [if_pos (by decide +kernel)]; kernel_rfl) | (rw [if_neg (by decide +kernel)]; exact ⟨rfl, rfl⟩))
    (fun os started H enc _ => lifted os started H enc)
theorem proved : Rows.FnUriAgainSaid := over
#print axioms proved
end Go.Proofs.Ytbkeakeldegkeaa.fnUriAgain
namespace Go.Proofs.Ytbkeakeldegkeaa
theorem fnUriAgain_holds : Rows.FnUriAgainSaid := fnUriAgain.proved
end Go.Proofs.Ytbkeakeldegkeaa
end
