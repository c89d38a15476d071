/- FnUriLast: the law's function, called with any arguments, returns true and leaves its arguments as they were: every input, no condition. Part 11 of 11. -/
import Derived.Test.YtbkeakeldegkeaaZFnUriLast1
import Derived.Test.YtbkeakeldegkeaaZFnUriLast7
import Derived.Test.YtbkeakeldegkeaaZFnUriLast6
import Derived.Test.YtbkeakeldegkeaaZFnUriLast3
import Derived.Test.YtbkeakeldegkeaaZFnUriLast4
import Derived.Test.YtbkeakeldegkeaaZFnUriLast8
import Derived.Test.YtbkeakeldegkeaaZFnUriLast2
import Derived.Test.YtbkeakeldegkeaaZFnUriLast9
import Derived.Test.YtbkeakeldegkeaaRows
import Derived.WalkKit
import Derived.ProofKit
import Derived.OpenShut
import Derived.ShutString
import Derived.ChangeOld
import Derived.Below
import Derived.SizedLaws
section
namespace Go.Proofs.Ytbkeakeldegkeaa.Q
open Go.RowKit Go.Proofs.YtbkeakeldegkeaaW.PrintWords Go.Proofs.YtbkeakeldegkeaaW.PrintLast Go.Proofs.YtbkeakeldegkeaaW.PrintMore
attribute [local go_sem] max2_int min2_int max_two min_two max_three min_three max_four min_four
set_option linter.unusedVariables false
set_option linter.unusedSimpArgs false
def laws_holds.l0 : Nat → ByteArray → Int → Int → Int → Option (Bool)
  | 0, _, _, _, _ => none
  | k + 1, x0, x1, x7, x8 => if x8 < x7 then (if 0 ≤ x8 then (if x8 < (x0.size : Int) then (if (bt x0 x8) = x1 then (some true) else (laws_holds.l0 k x0 x1 x7 (wrap64 (x8 + 1)))) else (none)) else (none)) else (some false)
def laws_holds.f (k : Nat) (a0 : ByteArray) (a1 : Int) : Option (Bool) := laws_holds.l0 k a0 a1 (a0.size : Int) 0
end Go.Proofs.Ytbkeakeldegkeaa.Q
end
section
namespace Go.Proofs.Ytbkeakeldegkeaa.SpA
open Go.RowKit Go.Proofs.Ytbkeakeldegkeaa.Q Go.Proofs.YtbkeakeldegkeaaW.PrintWords Go.Proofs.YtbkeakeldegkeaaW.PrintLast Go.Proofs.YtbkeakeldegkeaaKit
set_option linter.unusedVariables false
set_option linter.unusedSimpArgs false
theorem short_l (ys xs : List ByteArray) (hx : xs.length ≤ 9223372036854775807) : ∀ (suf pre : List ByteArray), xs = pre ++ suf → Ev (fun k => laws_short.l0 k ys xs xs.length pre.length) (suf.all (fun s => decide (s.size ≤ 2000)) && decide (ys.length ≤ 60))
  | [], pre, h => by
    refine Ev.step (f := fun _ => some (decide ((ys.length : Int) ≤ 60))) (fun k => by simp only [laws_short.l0]; rw [if_neg (ln_not h)]) (Ev.same (Ev.now _) ?_)
    rw [List.all_nil, Bool.true_and]
    exact decide_eq_decide.2 (by omega)
  | p :: t, pre, h => by
    have e : rdOf ByteArray.empty xs pre.length = p := get_mid h _
    rw [List.all_cons]
    by_cases c : p.size ≤ 2000
    · rw [decide_eq_true c, Bool.true_and]
      refine Ev.step (fun k => ?_) (short_l ys xs hx t (pre ++ [p]) (lmid_next h))
      simp only [laws_short.l0]
      rw [if_pos (ln_mid h), if_pos (by omega), if_pos (ln_mid h), e, if_neg (by omega), wrap_lmid h hx]
    · rw [decide_eq_false c, Bool.false_and, Bool.false_and]
      refine Ev.step (f := fun _ => some false) (fun k => ?_) (Ev.now _)
      simp only [laws_short.l0]
      rw [if_pos (ln_mid h), if_pos (by omega), if_pos (ln_mid h), e, if_pos (by omega)]
theorem short1 (s : ByteArray) : Ev (fun k => laws_short.f k [s]) (decide (s.size ≤ 2000)) :=
  Ev.same (short_l [s] [s] (by simp) [s] [] rfl) (by simp)
def isWordB (c : UInt8) : Bool := !(decide ((Go.bits .or .u8 (c.toNat : Int) 32) < 97) || decide ((Go.bits .or .u8 (c.toNat : Int) 32) > 122)) || !(decide ((c.toNat : Int) < 48) || decide ((c.toNat : Int) > 57))
end Go.Proofs.Ytbkeakeldegkeaa.SpA
end
section
namespace Go.Proofs.Ytbkeakeldegkeaa.SpA
open Go.RowKit Go.Proofs.Ytbkeakeldegkeaa.Q Go.Proofs.YtbkeakeldegkeaaW.PrintWords Go.Proofs.YtbkeakeldegkeaaW.PrintLast Go.Proofs.YtbkeakeldegkeaaKit
set_option linter.unusedVariables false
set_option linter.unusedSimpArgs false
theorem holds_l (s : ByteArray) (x : Int) (hs : s.size ≤ 140737488351232) : ∀ (suf pre : List UInt8), L s = pre ++ suf → Ev (fun k => laws_holds.l0 k s x s.size pre.length) (suf.any (fun c => decide ((c.toNat : Int) = x)))
  | [], pre, h => Ev.step (f := fun _ => some false) (fun k => by simp only [laws_holds.l0]; rw [if_neg (sz_not h)]) (Ev.now _)
  | c :: t, pre, h => by
    rw [List.any_cons]
    by_cases c1 : (c.toNat : Int) = x
    · rw [decide_eq_true c1, Bool.true_or]
      refine Ev.step (f := fun _ => some true) (fun k => ?_) (Ev.now _)
      simp only [laws_holds.l0]
      rw [if_pos (sz_mid h), if_pos (by omega), if_pos (sz_mid h), bt_mid h, if_pos c1]
    · rw [decide_eq_false c1, Bool.false_or]
      refine Ev.step (fun k => ?_) (holds_l s x hs t (pre ++ [c]) (mid_next h))
      simp only [laws_holds.l0]
      rw [if_pos (sz_mid h), if_pos (by omega), if_pos (sz_mid h), bt_mid h, if_neg c1, wrap_mid h hs]
theorem holds (s : ByteArray) (x : Int) (hs : s.size ≤ 140737488351232) : Ev (fun k => laws_holds.f k s x) ((L s).any (fun c => decide ((c.toNat : Int) = x))) := holds_l s x hs (L s) [] rfl
end Go.Proofs.Ytbkeakeldegkeaa.SpA
end
section
namespace Go.Proofs.Ytbkeakeldegkeaa.SpA
open Go.RowKit Go.Proofs.Ytbkeakeldegkeaa.Q Go.Proofs.YtbkeakeldegkeaaW.PrintWords Go.Proofs.YtbkeakeldegkeaaW.PrintLast Go.Proofs.YtbkeakeldegkeaaKit
set_option linter.unusedVariables false
set_option linter.unusedSimpArgs false
theorem word_l (s : ByteArray) (hs : s.size ≤ 140737488351232) : ∀ (suf pre : List UInt8), L s = pre ++ suf → Ev (fun k => laws_word.l0 k s s.size pre.length) (suf.all isWordB && (L s != []))
  | [], pre, h => by
    refine Ev.step (f := fun _ => some (s.toList != [])) (fun k => by simp only [laws_word.l0]; rw [if_neg (sz_not h)]) (Ev.same (Ev.now _) ?_)
    rw [List.all_nil, Bool.true_and, tl]
  | c :: t, pre, h => by
    have ih := word_l s hs t (pre ++ [c]) (mid_next h)
    rw [List.all_cons]
    have hg : ∀ k, laws_word.l0 (k + 1) s s.size pre.length = if isWordB c = true then laws_word.l0 k s s.size (pre ++ [c]).length else some false := by
      intro k
      simp only [laws_word.l0]
      rw [if_pos (sz_mid h), if_pos (by omega), if_pos (sz_mid h), bt_mid h, wrap_mid h hs]
      unfold isWordB
      generalize Go.bits BinOp.or IntKind.u8 (c.toNat : Int) 32 = z
      by_cases h1 : z < 97
      · by_cases h2 : (c.toNat : Int) < 48
        · simp [h1, h2]
        · by_cases h3 : (c.toNat : Int) > 57 <;> simp [h1, h2, h3]
      · by_cases h4 : z > 122
        · by_cases h2 : (c.toNat : Int) < 48
          · simp [h1, h2, h4]
          · by_cases h3 : (c.toNat : Int) > 57 <;> simp [h1, h2, h3, h4]
        · simp [h1, h4]
    by_cases c1 : isWordB c = true
    · rw [c1, Bool.true_and]
      exact Ev.step (fun k => by rw [hg k, if_pos c1]) ih
    · rw [Bool.eq_false_iff.2 c1, Bool.false_and, Bool.false_and]
      exact Ev.step (f := fun _ => some false) (fun k => by rw [hg k, if_neg c1]) (Ev.now _)
theorem word (s : ByteArray) (hs : s.size ≤ 140737488351232) : Ev (fun k => laws_word.f k s) ((L s).all isWordB && (L s != [])) := word_l s hs (L s) [] rfl
end Go.Proofs.Ytbkeakeldegkeaa.SpA
end
section
namespace Go.Proofs.Ytbkeakeldegkeaa.SpA
open Go.RowKit Go.Proofs.Ytbkeakeldegkeaa.Q Go.Proofs.YtbkeakeldegkeaaW.PrintWords Go.Proofs.YtbkeakeldegkeaaW.PrintLast Go.Proofs.YtbkeakeldegkeaaKit
set_option linter.unusedVariables false
set_option linter.unusedSimpArgs false
theorem norm_plain (l : List UInt8) (h : (37 : UInt8) ∉ l) : norm l = Cl.cleanK (lead l ++ l) := by rw [norm, dec_none l h]
theorem norm_slash (t : List UInt8) (h : (37 : UInt8) ∉ (47 :: t : List UInt8)) : norm (47 :: t) = Cl.cleanK (47 :: t) := by rw [norm_plain _ h, lead, if_pos rfl]; rfl
theorem begins_eq (a b : ByteArray) : laws_begins.f a b = some (decide (b.size ≤ a.size) && ((L a).take b.size == L b)) := by
  unfold laws_begins.f
  by_cases h : b.size ≤ a.size
  · rw [if_pos (by omega), if_pos (by omega), decide_eq_true h, Bool.true_and, tl, tl, L_extract]
    simp
  · rw [if_neg (by omega), decide_eq_false h, Bool.false_and]
theorem begins_pre (a b : ByteArray) : laws_begins.f a b = some ((L b).isPrefixOf (L a)) := by
  rw [begins_eq]
  congr 1
  rw [Bool.eq_iff_iff]
  simp only [Bool.and_eq_true, decide_eq_true_eq, beq_iff_eq, List.isPrefixOf_iff_prefix]
  rw [List.prefix_iff_eq_take, size_L b, size_L a]
  exact ⟨fun h => h.2.symm, fun h => ⟨by have := congrArg List.length h; rw [List.length_take] at this; omega, h.symm⟩⟩
theorem stands_ev_l (a b : ByteArray) (hs : a.size ≤ 140737488351232) (hb : L b ≠ []) : ∀ (suf pre : List UInt8), L a = pre ++ suf → Ev (fun k => laws_stands.l0 k a b ((a.size : Int) + 1) pre.length) (decide (0 ≤ ix (L b) suf 0)) := by
  intro suf
  induction suf with
  | nil =>
    intro pre h
    have hsz : a.size = pre.length := by rw [size_L, h]; simp
    have hx : laws_begins.f (a.extract (pre.length : Int).toNat a.size) b = some false := by
      rw [begins_pre, L_extract, Int.toNat_natCast, h, List.append_nil, List.drop_length, List.take_nil]
      cases hl : L b with
      | nil => exact absurd hl hb
      | cons x t => rfl
    have hz : decide (0 ≤ ix (L b) [] 0) = false := by rw [ix, if_neg hb]; rfl
    rw [hz]
    refine Ev.step (f := fun k => laws_stands.l0 k a b ((a.size : Int) + 1) ((pre.length : Int) + 1)) (fun k => ?_) (Ev.step (f := fun _ => some false) (fun k => ?_) (Ev.now _))
    · simp only [laws_stands.l0]
      rw [if_pos (by omega), if_pos (by omega), if_pos (by omega), hx, wrap_id (by omega) (by omega)]
      simp
    · simp only [laws_stands.l0]
      rw [if_neg (by omega)]
  | cons c t ih =>
    intro pre h
    have hsz : a.size = pre.length + (t.length + 1) := by rw [size_L, h]; simp
    have hx : laws_begins.f (a.extract (pre.length : Int).toNat a.size) b = some ((L b).isPrefixOf (c :: t)) := by
      rw [begins_pre, L_extract, Int.toNat_natCast, h, List.drop_left, List.take_of_length_le (by simp; omega)]
    by_cases hp : (L b).isPrefixOf (c :: t) = true
    · have hz : decide (0 ≤ ix (L b) (c :: t) 0) = true := by rw [ix, if_pos hp]; rfl
      rw [hz]
      refine Ev.step (f := fun _ => some true) (fun k => ?_) (Ev.now _)
      simp only [laws_stands.l0]
      rw [if_pos (by omega), if_pos (by omega), if_pos (by omega), hx, hp]
      simp
    · have hz : decide (0 ≤ ix (L b) (c :: t) 0) = decide (0 ≤ ix (L b) t 0) := by
        rw [ix, if_neg hp]
        rcases ix_cases_from (L b) hb t 1 with ⟨e1, e2⟩ | ⟨x, y, e1, e2, e3⟩
        · rcases ix_cases (L b) hb t with ⟨f1, f2⟩ | ⟨x, y, f1, f2, f3⟩
          · rw [e1, f1]
          · exact absurd f1 (e2 x y)
        · rcases ix_cases (L b) hb t with ⟨f1, f2⟩ | ⟨x', y', f1, f2, f3⟩
          · exact absurd e1 (f2 x y)
          · rw [e2, f2, decide_eq_true (by omega), decide_eq_true (by omega)]
      rw [hz]
      have ih' := ih (pre ++ [c]) (mid_next h)
      rw [show ((pre ++ [c]).length : Int) = (pre.length : Int) + 1 by simp] at ih'
      refine Ev.step (fun k => ?_) ih'
      simp only [laws_stands.l0]
      rw [if_pos (by omega), if_pos (by omega), if_pos (by omega), hx, wrap_id (by omega) (by omega)]
      simp [hp]
theorem stands_ev (a b : ByteArray) (hs : a.size ≤ 140737488351232) (hb : L b ≠ []) : Ev (fun k => laws_stands.f k a b) (decide (0 ≤ ix (L b) (L a) 0)) := by
  have := stands_ev_l a b hs hb (L a) [] rfl
  unfold laws_stands.f
  rw [wrap_id (by omega) (by omega)]
  exact this
theorem calm_l1 (s : ByteArray) (hs : s.size ≤ 140737488351232) (r : Bool) (xs : List ByteArray) (n j : Int) (hr : Ev (fun k => laws_calm.l0 k xs n (wrap64 (j + 1))) r) : ∀ (suf pre : List UInt8), L s = pre ++ suf → Ev (fun k => laws_calm.l1 k s xs n j (s.size : Int) pre.length) (!(suf.any isCtl) && r) := by
  intro suf
  induction suf with
  | nil =>
    intro pre h
    refine Ev.step (fun k => ?_) (Ev.same hr (by simp))
    simp only [laws_calm.l1]
    rw [if_neg (sz_not h)]
  | cons c t ih =>
    intro pre h
    have hany : (c :: t).any isCtl = (isCtl c || t.any isCtl) := rfl
    have hbt := bt_mid h
    have ih' := ih (pre ++ [c]) (mid_next h)
    rw [hany]
    by_cases h1 : c.toNat < 32
    · rw [show isCtl c = true by simp [isCtl, h1]]
      refine Ev.step (f := fun _ => some false) (fun k => ?_) (Ev.now _)
      simp only [laws_calm.l1]
      rw [if_pos (sz_mid h), if_pos (by omega), if_pos (sz_mid h), hbt, if_pos (by omega)]
    · by_cases h2 : c = 127
      · subst h2
        refine Ev.step (f := fun _ => some false) (fun k => ?_) (Ev.now _)
        simp only [laws_calm.l1]
        rw [if_pos (sz_mid h), if_pos (by omega), if_pos (sz_mid h), hbt, if_neg (by omega), if_pos (by decide)]
      · have hc : isCtl c = false := by simp [isCtl, h1, h2]
        have h3 : ¬ (c.toNat : Int) = 127 := fun e => h2 (UInt8.toNat_inj.1 (by show c.toNat = 127; omega))
        rw [hc, Bool.false_or]
        refine Ev.step (fun k => ?_) ih'
        simp only [laws_calm.l1]
        rw [if_pos (sz_mid h), if_pos (by omega), if_pos (sz_mid h), hbt, if_neg (by omega), if_neg h3, wrap_mid h hs]
theorem calm_l0 (xs : List ByteArray) (hx : xs.length ≤ 9223372036854775807) (hz : ∀ s ∈ xs, s.size ≤ 140737488351232) : ∀ (suf pre : List ByteArray), xs = pre ++ suf → Ev (fun k => laws_calm.l0 k xs xs.length pre.length) (suf.all fun s => !((L s).any isCtl))
  | [], pre, h => by
    refine Ev.step (f := fun _ => some true) (fun k => ?_) (Ev.now _)
    simp only [laws_calm.l0]
    rw [if_neg (ln_not h)]
  | p :: t, pre, h => by
    have e : rdOf ByteArray.empty xs pre.length = p := get_mid h _
    have ih := calm_l0 xs hx hz t (pre ++ [p]) (lmid_next h)
    rw [show ((pre ++ [p]).length : Int) = wrap64 ((pre.length : Int) + 1) from (wrap_lmid h hx).symm] at ih
    rw [List.all_cons]
    refine Ev.step (fun k => ?_) (calm_l1 p (hz p (by rw [h]; simp)) _ xs xs.length pre.length ih (L p) [] rfl)
    simp only [laws_calm.l0]
    rw [if_pos (ln_mid h), if_pos (by omega), if_pos (ln_mid h), e]
    rfl
theorem calm1 (s : ByteArray) (hs : s.size ≤ 140737488351232) : Ev (fun k => laws_calm.f k [s]) (!((L s).any isCtl)) :=
  Ev.same (calm_l0 [s] (by simp) (by simpa using hs) [s] [] rfl) (by simp)
theorem word_all : ∀ c : Fin 256, (!isWordB (UInt8.ofNat c.val) || (!isCtl (UInt8.ofNat c.val) && UInt8.ofNat c.val != 47 && UInt8.ofNat c.val != 64 && UInt8.ofNat c.val != 37 && UInt8.ofNat c.val != 63 && UInt8.ofNat c.val != 35 && UInt8.ofNat c.val != 58 && UInt8.ofNat c.val != 46)) = true := by decide +kernel
theorem word_no (c : UInt8) (h : isWordB c = true) : isCtl c = false ∧ c ≠ 47 ∧ c ≠ 64 ∧ c ≠ 37 ∧ c ≠ 63 ∧ c ≠ 35 ∧ c ≠ 58 ∧ c ≠ 46 := by
  have h1 := word_all ⟨c.toNat, c.toNat_lt⟩
  simp only [show UInt8.ofNat ((⟨c.toNat, c.toNat_lt⟩ : Fin 256) : Nat) = c by simp, h, Bool.not_true, Bool.false_or, Bool.and_eq_true, bne_iff_ne, ne_eq, Bool.not_eq_true'] at h1
  obtain ⟨⟨⟨⟨⟨⟨⟨a, b⟩, c'⟩, d⟩, e⟩, f⟩, g⟩, i⟩ := h1
  exact ⟨a, b, c', d, e, f, g, i⟩
structure Wu (l : List UInt8) : Prop where
  ne : l ≠ []
  ctl : l.any isCtl = false
  at_ : (64 : UInt8) ∉ l
  slash : (47 : UInt8) ∉ l
  pct : (37 : UInt8) ∉ l
  qm : (63 : UInt8) ∉ l
  num : (35 : UInt8) ∉ l
  col : (58 : UInt8) ∉ l
  dot : (46 : UInt8) ∉ l
theorem wu_of (l : List UInt8) (h : (l.all isWordB && (l != [])) = true) : Wu l := by
  obtain ⟨h1, h2⟩ := Bool.and_eq_true_iff.1 h
  have hall : ∀ c ∈ l, isWordB c = true := fun c hc => List.all_eq_true.1 h1 c hc
  refine ⟨by simpa using h2, ?_, fun hm => ?_, fun hm => ?_, fun hm => ?_, fun hm => ?_, fun hm => ?_, fun hm => ?_, fun hm => ?_⟩
  · rw [List.any_eq_false]
    intro c hc
    rw [(word_no c (hall c hc)).1]; simp
  · exact (word_no _ (hall _ hm)).2.2.1 rfl
  · exact (word_no _ (hall _ hm)).2.1 rfl
  · exact (word_no _ (hall _ hm)).2.2.2.1 rfl
  · exact (word_no _ (hall _ hm)).2.2.2.2.1 rfl
  · exact (word_no _ (hall _ hm)).2.2.2.2.2.1 rfl
  · exact (word_no _ (hall _ hm)).2.2.2.2.2.2.1 rfl
  · exact (word_no _ (hall _ hm)).2.2.2.2.2.2.2 rfl
def H7 : List UInt8 := [104, 116, 116, 112, 58, 47, 47]
theorem upto_app {c : UInt8} : ∀ {p t : List UInt8}, c ∉ p → upto c (p ++ c :: t) = p ∧ (p ++ c :: t).dropWhile (· != c) = c :: t
  | [], t, _ => by simp [upto]
  | x :: p, t, h => by
    have hx : (x != c) = true := bne_iff_ne.2 (fun e => h (by simp [e]))
    obtain ⟨h1, h2⟩ := upto_app (c := c) (p := p) (t := t) (fun e => h (by simp [e]))
    unfold upto at *
    simp [hx, h1, h2]
theorem part_http (host t : List UInt8) (hh : (47 : UInt8) ∉ host) : partU [] (H7 ++ host ++ 47 :: t) = some (HTTP, host, 47 :: t) := by
  have e : H7 ++ host ++ 47 :: t = 104 :: 116 :: 116 :: 112 :: 58 :: 47 :: 47 :: (host ++ 47 :: t) := by simp [H7]
  rw [e]
  unfold partU
  have hs : schEnd 0 (104 :: 116 :: 116 :: 112 :: 58 :: 47 :: 47 :: (host ++ 47 :: t)) = some 4 := by simp [schEnd, isAl, isSg]
  rw [hs]
  simp only [List.drop_succ_cons, List.drop_zero, List.take_succ_cons, List.take_zero, List.length_cons]
  rw [if_neg (by omega), if_pos (by simp), (upto_app hh).1, (upto_app hh).2]
  rfl
theorem parse_http (host t : List UInt8) (hh : (47 : UInt8) ∉ host) (hc : (H7 ++ host ++ 47 :: t).any isCtl = false) : parseU [] (H7 ++ host ++ 47 :: t) = some (restU HTTP host (47 :: t)) := by
  unfold parseU
  rw [hc]
  simp only [Bool.false_eq_true, if_false]
  rw [if_pos (by simp), part_http host t hh]
  rfl
theorem parse_rel (host u : List UInt8) (hh : host ≠ []) (hs : ix SEP u 0 < 0) (hc : u.any isCtl = false) : parseU host u = some (restU [] host u) := by
  unfold parseU
  rw [hc]
  simp only [Bool.false_eq_true, if_false]
  rw [if_neg (by rintro (e | e); exact hh e; omega)]
theorem uriOf_eq (a0 a1 : ByteArray) (h0 : a0.size ≤ 3000000000) (h1 : a1.size ≤ 3000000000) (hc : (L a1).any isCtl = false) (u : UR) (hp : parseU (L a0) (L a1) = some u) (ho : u.orig.length ≤ 2147483647) :
    impl_UriOf.f a0 a1 = some (⟨u.sch.toArray⟩, ⟨u.host.toArray⟩, ⟨u.path.toArray⟩, ⟨u.orig.toArray⟩, ⟨u.query.toArray⟩, ⟨u.hash.toArray⟩, ⟨u.user.toArray⟩, ⟨u.pass.toArray⟩, true) := by
  unfold impl_UriOf.f
  rw [if_pos ⟨⟨h0, h1⟩, hc⟩, hp]
  simp only
  rw [if_pos ho]
theorem upto_len (c : UInt8) (l : List UInt8) : (upto c l).length ≤ l.length := (List.takeWhile_sublist _).length_le
theorem restU_orig_len (s h u : List UInt8) : (restU s h u).orig.length ≤ u.length := by
  show (upto 63 (upto 35 u)).length ≤ _
  have h1 := upto_len 63 (upto 35 u)
  have h2 := upto_len 35 u
  omega
theorem parses : laws_parses.f = some true := by
  have hp : parseU (L ⟨#[]⟩) (L ⟨#[104, 116, 116, 112, 58, 47, 47, 104, 47, 97, 63, 98, 61, 99, 35, 100]⟩) = some ⟨HTTP, [104], [47, 97], [47, 97], [98, 61, 99], [100], [], []⟩ := by
    have := parse_http [104] [97, 63, 98, 61, 99, 35, 100] (by decide) (by decide)
    refine this.trans ?_
    congr 1
    unfold restU
    rw [show authU [104] = ([], [], [104]) by decide, show pathU (47 :: [97, 63, 98, 61, 99, 35, 100]) = ([47, 97], [98, 61, 99], [100]) by decide]
    simp only
    rw [norm_slash _ (by decide), show Cl.cleanK [47, 97] = [47, 97] by decide]
    rfl
  unfold laws_parses.f
  rw [uriOf_eq _ _ (by decide) (by decide) (by decide) _ hp (by decide)]
  simp only [Option.bind_some, tl]
  rfl
end Go.Proofs.Ytbkeakeldegkeaa.SpA
end
section
namespace Go.Proofs.Ytbkeakeldegkeaa.SpA
open Go.RowKit Go.Proofs.Ytbkeakeldegkeaa.Q Go.Proofs.YtbkeakeldegkeaaW.PrintWords Go.Proofs.YtbkeakeldegkeaaW.PrintLast Go.Proofs.YtbkeakeldegkeaaKit
set_option linter.unusedVariables false
set_option linter.unusedSimpArgs false
theorem uq_conv (s : ByteArray) (h : s.size ≤ 140737488351232) : conv49.f s = some (toI (L s)) := by
  unfold conv49.f
  rw [if_pos (by omega), bytesOf_toI]
theorem uq_path (s : ByteArray) (h : s.size ≤ 1000000) : Ev (fun k => impl_QuotedPath.f k s) ⟨(quoteP (L s)).toArray⟩ := by
  have g := path_ev (L s) [] (by rw [← size_L]; omega) (by rw [← size_L]; simp; omega)
  unfold impl_QuotedPath.f
  rw [uq_conv s (by omega)]
  simp only [Option.bind_some]
  exact Ev.call g (Ev.some (by congr 1; exact ext (by rw [L_strOf]; rfl)))
theorem uq_flat_len : ∀ p : List UInt8, (p.flatMap escP).length ≤ 3 * p.length
  | [] => by simp
  | c :: t => by
    have := escP_len c
    have := uq_flat_len t
    rw [List.flatMap_cons, List.length_append, List.length_cons]
    omega
theorem uq_quote_len (p : List UInt8) : (quoteP p).length ≤ 3 * p.length + 1 := by
  unfold quoteP
  split
  · simp
  · have := uq_flat_len p; omega
theorem uriText_eq (a0 a1 : ByteArray) (raw : Bool) (h0 : a0.size ≤ 3000000000) (h1 : a1.size ≤ 3000000000) (hc : (L a1).any isCtl = false) (u : UR) (hp : parseU (L a0) (L a1) = some u) (ho : u.orig.length ≤ 2147483647) :
    impl_UriText.f a0 a1 raw = some (⟨(u.full raw).toArray⟩, ⟨(u.req raw).toArray⟩, ⟨(lastU u.path).toArray⟩, true) := by
  unfold impl_UriText.f
  rw [if_pos ⟨⟨h0, h1⟩, hc⟩, hp]
  simp only
  rw [if_pos ho]
theorem uri_guards (a b : ByteArray) (ha : a.size ≤ 2147483647) (hb : b.size ≤ 2147483647) (j1 : Nat → Bool → Option Bool) (ht : Ev (fun k => j1 k true) true)
    (hgo : b.size ≤ 2000 → Wu (L a) → (L b).any isCtl = false → ∀ t, L b = 47 :: t → ix SEP (L b) 0 < 0 → Ev (fun k => j1 k false) true) :
    Ev (fun k => ((laws_parses.f).bind fun t468 => (if t468 = true then ((laws_word.f k a).bind fun t469 => (if t469 = true then ((laws_short.f k (([b] : List ByteArray))).bind fun t473 => (if t473 = true then ((laws_calm.f k (([b] : List ByteArray))).bind fun t477 => (if t477 = true then ((laws_begins.f b (⟨#[47]⟩ : ByteArray)).bind fun t478 => (if t478 = true then ((laws_begins.f b (⟨#[47, 47]⟩ : ByteArray)).bind fun t479 => (if t479 = true then (j1 k true) else ((laws_stands.f k b (⟨#[58, 47, 47]⟩ : ByteArray)).bind fun t480 => (j1 k t480)))) else (j1 k true))) else (j1 k true))) else (j1 k true))) else (j1 k true))) else (some false)))) true := by
  refine Ev.call (Ev.some parses) (Ev.pos rfl (Ev.call (word a (by omega)) ?_))
  by_cases h1 : ((L a).all isWordB && (L a != [])) = true
  · rw [h1]
    refine Ev.pos rfl (Ev.call (short1 b) ?_)
    by_cases h2 : b.size ≤ 2000
    · rw [decide_eq_true h2]
      refine Ev.pos rfl (Ev.call (calm1 b (by omega)) ?_)
      by_cases h3 : (L b).any isCtl = true
      · rw [h3]; exact Ev.neg (by simp) ht
      · have h3 : (L b).any isCtl = false := by simpa using h3
        rw [h3]
        refine Ev.pos rfl (Ev.call (Ev.some (begins_pre b ⟨#[47]⟩)) ?_)
        by_cases h4 : ((L (⟨#[47]⟩ : ByteArray)).isPrefixOf (L b)) = true
        · rw [h4]
          refine Ev.pos rfl (Ev.call (Ev.some (begins_pre b ⟨#[47, 47]⟩)) ?_)
          by_cases h5 : ((L (⟨#[47, 47]⟩ : ByteArray)).isPrefixOf (L b)) = true
          · rw [h5]; exact Ev.pos rfl ht
          · rw [Bool.eq_false_iff.2 h5]
            refine Ev.neg (by simp) (Ev.call (stands_ev b ⟨#[58, 47, 47]⟩ (by omega) (by decide)) ?_)
            by_cases h6 : 0 ≤ ix (L (⟨#[58, 47, 47]⟩ : ByteArray)) (L b) 0
            · rw [decide_eq_true h6]; exact ht
            · rw [decide_eq_false h6]
              obtain ⟨t, ht'⟩ := List.isPrefixOf_iff_prefix.1 h4
              exact hgo h2 (wu_of _ h1) h3 t ht'.symm (by show ix SEP (L b) 0 < 0; have : ¬ 0 ≤ ix SEP (L b) 0 := h6; omega)
        · rw [Bool.eq_false_iff.2 h4]; exact Ev.neg (by simp) ht
    · rw [decide_eq_false h2]; exact Ev.neg (by simp) ht
  · rw [Bool.eq_false_iff.2 h1]; exact Ev.neg (by simp) ht
end Go.Proofs.Ytbkeakeldegkeaa.SpA
end
section
namespace Go.Proofs.Ytbkeakeldegkeaa.Pure
open Go.RowKit Go.Proofs.Ytbkeakeldegkeaa.Q Go.Proofs.YtbkeakeldegkeaaW.PrintWords Go.Proofs.YtbkeakeldegkeaaW.PrintLast Go.Proofs.YtbkeakeldegkeaaKit Go.Proofs.Ytbkeakeldegkeaa.SpA
set_option linter.unusedVariables false
set_option linter.unusedSimpArgs false
theorem ul_last {p s : List UInt8} (h : (47 : UInt8) ∉ s) (hp : p = [] ∨ ∃ q, p = q ++ [47]) : lastU (p ++ s) = s := by
  have key : ∀ m r : List UInt8, (47 : UInt8) ∉ m → (m ++ 47 :: r).takeWhile (· != 47) = m := fun m r => by
    induction m with
    | nil => simp
    | cons a t ih => intro hm; simp only [List.mem_cons, not_or] at hm; simp [Ne.symm hm.1, ih hm.2]
  have key0 : ∀ m : List UInt8, (47 : UInt8) ∉ m → m.takeWhile (· != 47) = m := fun m => by
    induction m with
    | nil => simp
    | cons a t ih => intro hm; simp only [List.mem_cons, not_or] at hm; simp [Ne.symm hm.1, ih hm.2]
  unfold lastU
  rcases hp with rfl | ⟨q, rfl⟩
  · rw [List.nil_append, key0 _ (by simpa using h), List.reverse_reverse]
  · rw [List.reverse_append, List.reverse_append, List.reverse_singleton, List.singleton_append, key _ _ (by simpa using h), List.reverse_reverse]
theorem req_pre (u : UR) (raw : Bool) : ((if raw then u.orig else quoteP u.pth).isPrefixOf (u.req raw)) = true := by
  rw [List.isPrefixOf_iff_prefix]
  exact ⟨_, rfl⟩
section
variable (u : UR) (raw : Bool) (hpth : u.path ≠ []) (hz : u.path.length ≤ 1000000) (hsz : u.sch.length + u.host.length + (u.req raw).length + u.hash.length ≤ 9223372036854775000)
include hpth hz hsz
theorem ul_j5 (p s : List UInt8) (hps : u.path = p ++ s) (hs : (47 : UInt8) ∉ s) (hp : p = [] ∨ ∃ q, p = q ++ [47]) (hash : ByteArray) (hh : L hash = if u.hash = [] then [] else 35 :: u.hash) (x4 x6 x7 : ByteArray) (x5 : ByteArray) :
    Ev (fun k => laws_FnUriLast.j5 k raw ⟨(u.full raw).toArray⟩ ⟨(u.req raw).toArray⟩ ⟨(lastU u.path).toArray⟩ (p.length : Int) hash ⟨u.sch.toArray⟩ ⟨u.host.toArray⟩ ⟨u.path.toArray⟩ ⟨u.orig.toArray⟩ x4 x5 x6 x7) true := by
  have hq := uq_path ⟨u.path.toArray⟩ (by rw [size_L]; exact hz)
  have e1 : (⟨u.path.toArray⟩ : ByteArray).size = u.path.length := by rw [size_L]
  have e2 : (⟨u.sch.toArray⟩ : ByteArray).size = u.sch.length := by rw [size_L]
  have e3 : (⟨u.host.toArray⟩ : ByteArray).size = u.host.length := by rw [size_L]
  have e4 : (⟨(u.req raw).toArray⟩ : ByteArray).size = (u.req raw).length := by rw [size_L]
  have e5 : hash.size ≤ u.hash.length + 1 := by rw [size_L, hh]; split <;> simp
  have hlast : (⟨(lastU u.path).toArray⟩ : ByteArray).toList = ((⟨u.path.toArray⟩ : ByteArray).extract ((p.length : Int)).toNat (⟨u.path.toArray⟩ : ByteArray).size).toList := by
    rw [tl, tl, L_extract, e1, Int.toNat_natCast]
    show lastU u.path = ((u.path.drop p.length).take (u.path.length - p.length))
    rw [hps, ul_last hs hp, List.drop_left, List.take_of_length_le (by simp)]
  have hfull : (⟨(u.full raw).toArray⟩ : ByteArray).toList = (((((⟨u.sch.toArray⟩ : ByteArray) ++ (⟨#[58, 47, 47]⟩ : ByteArray)) ++ (⟨u.host.toArray⟩ : ByteArray)) ++ (⟨(u.req raw).toArray⟩ : ByteArray)) ++ hash).toList := by
    rw [tl, tl, L_append, L_append, L_append, L_append, hh]
    rfl
  have hpl : (p.length : Int) ≤ (u.path.length : Int) := by have := congrArg List.length hps; rw [List.length_append] at this; omega
  refine Ev.step (fun k => by simp only [laws_FnUriLast.j5]; rfl) ?_
  refine Ev.call hq ?_
  have hpu : u.pth = u.path := by unfold UR.pth; rw [if_neg hpth]
  have hb := req_pre u raw
  rw [hpu] at hb
  cases raw with
  | true =>
    refine Ev.pos rfl (Ev.pos (by omega) (Ev.pos (by omega) (Ev.pos hlast (Ev.pos (by omega) (Ev.pos (by omega) (Ev.pos (by omega) (Ev.pos (by omega) (Ev.pos hfull (Ev.call (Ev.some (begins_pre _ _)) (Ev.some ?_))))))))))
    exact congrArg some hb
  | false =>
    refine Ev.neg (by decide) (Ev.pos (by omega) (Ev.pos (by omega) (Ev.pos hlast (Ev.pos (by omega) (Ev.pos (by omega) (Ev.pos (by omega) (Ev.pos (by omega) (Ev.pos hfull (Ev.call (Ev.some (begins_pre _ _)) (Ev.some ?_))))))))))
    exact congrArg some hb
theorem ul_j4 (p s : List UInt8) (hps : u.path = p ++ s) (hs : (47 : UInt8) ∉ s) (hp : p = [] ∨ ∃ q, p = q ++ [47]) (x4 x6 x7 : ByteArray) :
    Ev (fun k => laws_FnUriLast.j4 k raw ⟨(u.full raw).toArray⟩ ⟨(u.req raw).toArray⟩ ⟨(lastU u.path).toArray⟩ (p.length : Int) ⟨u.sch.toArray⟩ ⟨u.host.toArray⟩ ⟨u.path.toArray⟩ ⟨u.orig.toArray⟩ x4 ⟨u.hash.toArray⟩ x6 x7) true := by
  have e1 : (⟨u.hash.toArray⟩ : ByteArray).size = u.hash.length := by rw [size_L]
  have e2 : L (⟨u.hash.toArray⟩ : ByteArray) = u.hash := rfl
  refine Ev.step (fun k => by simp only [laws_FnUriLast.j4]; rfl) ?_
  by_cases hh : u.hash = []
  · exact Ev.pos (by rw [tl]; exact hh) (ul_j5 u raw hpth hz hsz p s hps hs hp ⟨#[]⟩ (by rw [if_pos hh]) x4 x6 x7 _)
  · exact Ev.neg (by rw [tl]; exact hh) (Ev.pos (by omega) (ul_j5 u raw hpth hz hsz p s hps hs hp (⟨#[35]⟩ ++ ⟨u.hash.toArray⟩) (by rw [if_neg hh]; exact L_append _ _) x4 x6 x7 _))
theorem ul_l0 (x4 x6 x7 : ByteArray) : ∀ (n : Nat) (p s : List UInt8), p.length = n → u.path = p ++ s → (47 : UInt8) ∉ s →
    Ev (fun k => laws_FnUriLast.l0 k raw ⟨(u.full raw).toArray⟩ ⟨(u.req raw).toArray⟩ ⟨(lastU u.path).toArray⟩ (p.length : Int) ⟨u.sch.toArray⟩ ⟨u.host.toArray⟩ ⟨u.path.toArray⟩ ⟨u.orig.toArray⟩ x4 ⟨u.hash.toArray⟩ x6 x7) true := by
  intro n
  induction n with
  | zero =>
    intro p s hn hps hs
    obtain rfl : p = [] := List.length_eq_zero_iff.1 hn
    refine Ev.step (fun k => ?_) (ul_j4 u raw hpth hz hsz [] s hps hs (.inl rfl) x4 x6 x7)
    simp only [laws_FnUriLast.l0]
    rw [if_neg (by simp)]
  | succ n ih =>
    intro p s hn hps hs
    obtain ⟨q, c, rfl⟩ : ∃ q c, p = q ++ [c] := by
      rcases List.eq_nil_or_concat p with h | ⟨q, c, h⟩
      · rw [h] at hn; cases hn
      · exact ⟨q, c, by rw [h]; simp⟩
    have hq : q.length = n := by simpa using hn
    have hL : L (⟨u.path.toArray⟩ : ByteArray) = q ++ c :: s := by show u.path = _; rw [hps]; simp
    have hw : wrap64 (((q ++ [c]).length : Int) - 1) = (q.length : Int) := by
      have : u.path.length = q.length + 1 + s.length := by rw [hps]; simp; try omega
      rw [List.length_append, List.length_singleton, wrap_id (by omega) (by omega)]; omega
    have hbt := bt_mid hL
    by_cases hc : c = 47
    · subst hc
      refine Ev.step (fun k => ?_) (ul_j4 u raw hpth hz hsz (q ++ [47]) s hps hs (.inr ⟨q, rfl⟩) x4 x6 x7)
      simp only [laws_FnUriLast.l0]
      rw [if_pos (by simp), hw, if_pos (by omega), if_pos (sz_mid hL), hbt, if_pos (by decide)]
    · refine Ev.step (fun k => ?_) (ih q (c :: s) hq (by rw [hps]; simp) (by simp only [List.mem_cons, not_or]; exact ⟨fun e => hc e.symm, hs⟩))
      simp only [laws_FnUriLast.l0]
      rw [if_pos (by simp), hw, if_pos (by omega), if_pos (sz_mid hL), hbt, if_neg (fun e => hc (UInt8.toNat_inj.1 (by show c.toNat = 47; omega)))]
end
theorem ul_true (a b : ByteArray) (raw : Bool) : Ev (fun k => laws_FnUriLast.j1 k a b raw true) true :=
  Ev.step (f := fun _ => some true) (fun k => by simp only [laws_FnUriLast.j1]; rw [if_pos trivial]) (Ev.now _)
theorem ul_go (a b : ByteArray) (raw : Bool) (ha : a.size ≤ 2147483647) (hb : b.size ≤ 2000) (hw : Wu (L a)) (hc : (L b).any isCtl = false) (t : List UInt8) (ht : L b = 47 :: t) (hs : ix SEP (L b) 0 < 0) : Ev (fun k => laws_FnUriLast.j1 k a b raw false) true := by
  have hbl : (L b).length ≤ 2000 := by rw [← size_L]; exact hb
  have hp := parse_rel (L a) (L b) hw.ne hs hc
  have ho : (restU [] (L a) (L b)).orig.length ≤ 2147483647 := by have := restU_orig_len [] (L a) (L b); omega
  have e1 := uriOf_eq a b (by omega) (by omega) hc _ hp ho
  have e2 := uriText_eq a b raw (by omega) (by omega) hc _ hp ho
  refine Ev.step (fun k => by simp only [laws_FnUriLast.j1]; rw [if_neg (by decide)]) ?_
  have htot := parse_total hp
  have hrt := restU_total [] (L a) (L b)
  have hpath := parse_path hp hc
  have hall : (L a).length ≤ 2147483647 := by rw [← size_L]; exact ha
  generalize restU [] (L a) (L b) = u at htot hpath ho e1 e2 hrt
  have hq := uq_quote_len u.pth
  have hsch : u.sch.length ≤ u.scheme.length + 4 := by unfold UR.sch; split <;> simp [HTTP]
  have hpth : u.pth = u.path := by unfold UR.pth; rw [if_neg hpath]
  have hreq : (u.req raw).length ≤ u.orig.length + (3 * u.path.length + 1) + u.query.length + 1 := by
    unfold UR.req
    rw [hpth] at hq ⊢
    cases raw <;> by_cases hqq : u.query = [] <;> simp [hqq] <;> omega
  refine Ev.call (Ev.some e1) (Ev.call (Ev.some e2) (Ev.pos rfl (Ev.step (fun k => by simp only [laws_FnUriLast.j2]; rw [if_neg (by decide)]) ?_)))
  have := ul_l0 u raw hpath (by omega) (by omega) ⟨u.query.toArray⟩ ⟨u.user.toArray⟩ ⟨u.pass.toArray⟩ u.path.length u.path [] rfl (by simp) (by simp)
  rw [show ((⟨u.path.toArray⟩ : ByteArray).size : Int) = (u.path.length : Int) by rw [size_L]]
  exact this
theorem FnUriLast : laws_FnUriLast.Pure := by
  intro a b raw _ _
  have j0t : Ev (fun k => laws_FnUriLast.j0 k a b raw true) true := Ev.step (f := fun _ => some true) (fun k => by simp only [laws_FnUriLast.j0]; rw [if_pos trivial]) (Ev.now _)
  refine Ev.rounds ?_
  unfold laws_FnUriLast.f
  by_cases h : (a.size : Int) > 2147483647
  · exact Ev.pos h j0t
  refine Ev.neg h ?_
  by_cases h2 : (b.size : Int) > 2147483647
  · rw [decide_eq_true h2]; exact j0t
  · rw [decide_eq_false h2]
    refine Ev.step (fun k => by simp only [laws_FnUriLast.j0]; rw [if_neg (by decide)]) ?_
    exact uri_guards a b (by omega) (by omega) (fun k x => laws_FnUriLast.j1 k a b raw x) (ul_true a b raw) (fun h1 h2 h3 t h4 h5 => ul_go a b raw (by omega) h1 h2 h3 t h4 h5)
end Go.Proofs.Ytbkeakeldegkeaa.Pure
end
section
namespace Go.Proofs.Ytbkeakeldegkeaa.fnUriLast
open Go.ChangeShapes Go.WideShapes Go.ChangeAt Go.RowKit
open Go.ChangeMaps (open_string shut_string)
set_option linter.unusedVariables false
theorem own : ownKnob Try.prog.godebug = none := by kernel_rfl
set_option maxRecDepth 100000 in
theorem lifted (os : Os) (started : os.Started) (H : Type) (enc : TypeId × Value → H) :
    ReturnsInHanded {} Try.checked os 8 .any (Rows.fnUriLastSpec.pre6 enc Try.prog Try.f8 Rows.fnUriLastRow.domain false) (Rows.fnUriLastSpec.post enc Try.prog Try.f8 false true false false) := by
  refine returnsInHanded_of_change_sized (C := Try.checked) own started (by kernel_rfl) Try.func8
    (ChangeSpec.witness6 (enc := enc) (C := Try.checked) false ⟨#[], #[.string ByteArray.empty, .string ByteArray.empty, .bool false], []⟩ 8 (by kernel_rfl) (by kernel_rfl) (by kernel_rfl) (by kernel_rfl)) ?_
  intro W base args ds gs before hval0 hW hcnd hsz0 _
  have hsz : (DataW.weightsEach Try.prog (Try.f8.params.toList ++ Rows.fnUriLastSpec.plain.varTypes Try.prog) (ds ++ gs)).all (· ≤ reachBytes) = true := hsz0
  have hval : ∀ (j : Nat) t v, Try.f8.params[j]? = some t → args[j]? = some v → Value.okWide Try.prog W .any base t v := hval0
  have hW' := hW
  obtain ⟨p, q, hA0, hV, rfl, hfz, hnd⟩ := hW
  have hA : DataW.TrodAll enc Try.prog W 0 (fun _ => true) true Try.f8.params.toList args.toList ds p := hA0
  rw [Try.params8] at hA hval hsz
  obtain ⟨v0, vs0, d0, ds0, p0, q0, hargs, rfl, rfl, h0, r0⟩ := trodAll_cons hA
  obtain ⟨v1, vs1, d1, ds1, p1, q1, rfl, rfl, rfl, h1, r1⟩ := trodAll_cons r0
  obtain ⟨v2, vs2, d2, ds2, p2, q2, rfl, rfl, rfl, h2, r2⟩ := trodAll_cons r1
  obtain ⟨rfl, rfl, rfl⟩ := trodAll_nil r2
  obtain rfl : args = #[v0, v1, v2] := by cases args; simp_all
  obtain ⟨rfl, rfl⟩ := trodVars_none hV
  obtain ⟨a0, rfl, rfl, rfl, y0⟩ := open_string Try.underlying9 (hval 0 9 v0 rfl rfl) h0
  have w0 : a0.size ≤ 140737488351232 := by
    have z := sized_string hsz (j := 0) (t := 9) rfl rfl
    rw [Array.length_toList] at z
    exact z
  obtain ⟨a1, rfl, rfl, rfl, y1⟩ := open_string Try.underlying9 (hval 1 9 v1 rfl rfl) h1
  have w1 : a1.size ≤ 140737488351232 := by
    have z := sized_string hsz (j := 1) (t := 9) rfl rfl
    rw [Array.length_toList] at z
    exact z
  obtain ⟨a2, rfl, rfl, rfl⟩ := open_bool Try.underlying4 (hval 2 4 v2 rfl rfl) h2
  clear hA0 hval0 hsz0 hsz
  refine (Q.laws_FnUriLast.walk Pure.FnUriLast a0 a1 a2 W w0 w1).mono fun e W' ⟨he, bel⟩ => ?_
  subst he
  exact ⟨_, rfl, _, _, _, [], _, [], hW', trodAll_mk1 (shut_bool Try.underlying4 _), (trodAll_cons_mk (shut_string Try.underlying9 y0) (trodAll_cons_mk (shut_string Try.underlying9 y1) (trodAll_cons_mk (shut_bool Try.underlying4 _) trodAll_mk0))), rfl, bel.frame _, fun h => by cases h⟩
theorem over : Rows.fnUriLastRow.holds Try.pinned (OpenSpec.ofChange Rows.fnUriLastSpec) :=
  OpenClaim.holds_of_wide 8 Try.f8 rfl rfl rfl rfl rfl rfl rfl ⟨rfl, rfl, rfl, rfl, rfl⟩ rfl rfl rfl rfl rfl (by kernel_rfl) Try.func8 (by kernel_rfl)
    (of_decide_eq_true (by kernel_rfl)) (by unfold Func.isWrapper; first | (rw [if_pos (by decide +kernel)]; kernel_rfl) | (rw [if_neg (by decide +kernel)]; exact ⟨rfl, rfl⟩))
    (fun os started H enc _ => lifted os started H enc)
theorem proved : Rows.FnUriLastSaid := over
#print axioms proved
end Go.Proofs.Ytbkeakeldegkeaa.fnUriLast
namespace Go.Proofs.Ytbkeakeldegkeaa
theorem fnUriLast_holds : Rows.FnUriLastSaid := fnUriLast.proved
end Go.Proofs.Ytbkeakeldegkeaa
end
