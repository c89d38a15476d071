/- FnAddedSays: the law's function, called with any arguments, returns true and leaves its arguments as they were: every input, no condition. Part 8 of 8. -/
import Derived.Test.YtekjffooblcmnaaZFnAddedSays5
import Derived.Test.YtekjffooblcmnaaZFnAddedSays0
import Derived.Test.YtekjffooblcmnaaZFnAddedSays6
import Derived.Test.YtekjffooblcmnaaRows
import Derived.WalkKit
import Derived.ProofKit
import Derived.OpenShut
import Derived.ShutString
import Derived.ChangeOld
import Derived.Below
import Derived.SizedLaws
set_option linter.unusedVariables false
set_option linter.unusedSimpArgs false
set_option linter.unusedSectionVars false
section
namespace Go.Proofs.Ytekjffooblcmnaa.SpA
open Go.RowKit Go.Proofs.Ytekjffooblcmnaa.Q Go.Proofs.YtekjffooblcmnaaW.PrintWords Go.Proofs.YtekjffooblcmnaaW.PrintLast Go.Proofs.YtekjffooblcmnaaKit
set_option linter.unusedVariables false
set_option linter.unusedSimpArgs false
theorem short_l (ys xs : List ByteArray) (hx : xs.length ≤ 9223372036854775807) : ∀ (suf pre : List ByteArray), xs = pre ++ suf → Ev (fun k => laws_short.l0 k ys xs xs.length pre.length) (suf.all (fun s => decide (s.size ≤ 2000)) && decide (ys.length ≤ 60))
  | [], pre, h => by
    refine Ev.step (f := fun _ => some (decide ((ys.length : Int) ≤ 60))) (fun k => by simp only [laws_short.l0]; rw [if_neg (ln_not h)]) (Ev.same (Ev.now _) ?_)
    rw [List.all_nil, Bool.true_and]
    exact decide_eq_decide.2 (by omega)
  | p :: t, pre, h => by
    have e : rdOf ByteArray.empty xs pre.length = p := get_mid h _
    rw [List.all_cons]
    by_cases c : p.size ≤ 2000
    · rw [decide_eq_true c, Bool.true_and]
      refine Ev.step (fun k => ?_) (short_l ys xs hx t (pre ++ [p]) (lmid_next h))
      simp only [laws_short.l0]
      rw [if_pos (ln_mid h), if_pos (by omega), if_pos (ln_mid h), e, if_neg (by omega), wrap_lmid h hx]
    · rw [decide_eq_false c, Bool.false_and, Bool.false_and]
      refine Ev.step (f := fun _ => some false) (fun k => ?_) (Ev.now _)
      simp only [laws_short.l0]
      rw [if_pos (ln_mid h), if_pos (by omega), if_pos (ln_mid h), e, if_pos (by omega)]
end Go.Proofs.Ytekjffooblcmnaa.SpA
end
section
namespace Go.Proofs.Ytekjffooblcmnaa.SpA
open Go.RowKit Go.Proofs.Ytekjffooblcmnaa.Q Go.Proofs.YtekjffooblcmnaaW.PrintWords Go.Proofs.YtekjffooblcmnaaW.PrintLast Go.Proofs.YtekjffooblcmnaaKit
set_option linter.unusedVariables false
set_option linter.unusedSimpArgs false
theorem um_fits1_l (xs : List ByteArray) (hx : xs.length ≤ 9223372036854775807) : ∀ (suf pre : List ByteArray), xs = pre ++ suf → Ev (fun k => laws_zzFits1.l0 k xs xs.length pre.length) (suf.all fun s => decide (s.size ≤ 2147483647))
  | [], pre, h => by
    refine Ev.step (f := fun _ => some true) (fun k => by simp only [laws_zzFits1.l0]; rw [if_neg (ln_not h)]) (Ev.now _)
  | p :: t, pre, h => by
    have e : rdOf ByteArray.empty xs pre.length = p := get_mid h _
    rw [List.all_cons]
    by_cases c : p.size ≤ 2147483647
    · rw [decide_eq_true c, Bool.true_and]
      refine Ev.step (fun k => ?_) (um_fits1_l xs hx t (pre ++ [p]) (lmid_next h))
      simp only [laws_zzFits1.l0]
      rw [if_pos (ln_mid h), if_pos (by omega), if_pos (ln_mid h), e, if_neg (by omega), wrap_lmid h hx]
    · rw [decide_eq_false c, Bool.false_and]
      refine Ev.step (f := fun _ => some false) (fun k => ?_) (Ev.now _)
      simp only [laws_zzFits1.l0]
      rw [if_pos (ln_mid h), if_pos (by omega), if_pos (ln_mid h), e, if_pos (by omega)]
theorem um_fits1 (xs : List ByteArray) (hx : xs.length ≤ 9223372036854775807) : ∃ b, Ev (fun k => laws_zzFits1.f k xs) b ∧ (b = true → xs.length ≤ 2147483647 ∧ ∀ p ∈ xs, p.size ≤ 2147483647) := by
  unfold laws_zzFits1.f
  by_cases h : (xs.length : Int) > 2147483647
  · exact ⟨false, Ev.pos h (Ev.now _), fun e => by simp at e⟩
  · refine ⟨_, Ev.neg h (um_fits1_l xs hx xs [] rfl), fun e => ⟨by omega, fun p hp => ?_⟩⟩
    have := List.all_eq_true.1 e p hp
    exact of_decide_eq_true this
theorem short_all (xs : List ByteArray) (hx : xs.length ≤ 9223372036854775807) : Ev (fun k => laws_short.f k xs) (xs.all (fun s => decide (s.size ≤ 2000)) && decide (xs.length ≤ 60)) := short_l xs xs hx xs [] rfl
theorem added_len : ∀ (l S : List (List UInt8)), (addedB S l).length = l.length
  | [], S => rfl
  | s :: r, S => congrArg (· + 1) (added_len r _)
end Go.Proofs.Ytekjffooblcmnaa.SpA
end
section
namespace Go.Proofs.Ytekjffooblcmnaa.SpA
open Go.RowKit Go.Proofs.Ytekjffooblcmnaa.Q Go.Proofs.YtekjffooblcmnaaW.PrintWords Go.Proofs.YtekjffooblcmnaaW.PrintLast Go.Proofs.YtekjffooblcmnaaKit
open Go.Proofs.Ytekjffooblcmnaa.Rt (sp)
set_option linter.unusedVariables false
set_option linter.unusedSimpArgs false
theorem okr_47 (p : UInt8) (r : St) : okr p (47 :: r) = okr 47 r := by
  show ((if (47 : UInt8) = 58 then _ else if (47 : UInt8) = 42 then _ else true) && okr 47 r) = _
  rw [if_neg (by decide), if_neg (by decide), Bool.true_and]
theorem segV_cons (d : UInt8) (t : St) : segV (d :: t) = if d = 47 then [] else d :: segV t := by
  unfold segV
  rw [List.takeWhile_cons]
  by_cases h : d = 47
  · simp [h]
  · simp [h]
theorem drop_cons (d : UInt8) (t : St) : (d :: t).dropWhile (· != 47) = if d = 47 then d :: t else t.dropWhile (· != 47) := by
  rw [List.dropWhile_cons]
  by_cases h : d = 47
  · simp [h]
  · simp [h]
theorem sp_f {d : UInt8} (h1 : d ≠ 58) (h2 : d ≠ 42) : sp d = false := by
  unfold Go.Proofs.Ytekjffooblcmnaa.Rt.sp
  rw [beq_eq_false_iff_ne.2 h1, beq_eq_false_iff_ne.2 h2]; rfl
theorem okr_seg : ∀ (t : St) (p : UInt8), (segV t).all (fun x => !sp x) = true → okr p t = okr 0 (t.dropWhile (· != 47))
  | [], p, h => rfl
  | d :: t, p, h => by
    rw [segV_cons] at h
    rw [drop_cons]
    by_cases d47 : d = 47
    · rw [if_pos d47, d47, okr_47, okr_47]
    · rw [if_neg d47] at h ⊢
      rw [List.all_cons, Bool.and_eq_true] at h
      have hd : sp d = false := by simpa using h.1
      have h58 : d ≠ 58 := fun e => by rw [e] at hd; cases hd
      have h42 : d ≠ 42 := fun e => by rw [e] at hd; cases hd
      have e : okr p (d :: t) = okr d t := by
        show ((if d = 58 then _ else if d = 42 then _ else true) && okr d t) = _
        rw [if_neg h58, if_neg h42, Bool.true_and]
      rw [e]
      exact okr_seg t d h.2
theorem scn_none (b : Bool) : ∀ (t : St), scn b t = none → (segV t).all (fun x => !sp x) = true
  | [], h => rfl
  | d :: t, h => by
    rw [segV_cons]
    by_cases d47 : d = 47
    · rw [if_pos d47]; rfl
    · rw [if_neg d47]
      unfold scn at h
      rw [if_neg d47] at h
      split at h
      · cases h
      · split at h
        · cases h
        · next h58 =>
          split at h
          · cases h
          · next h42 =>
            rw [List.all_cons, sp_f h58 h42]
            exact scn_none b t h
theorem scn_false : ∀ (t : St) (v : Int), scn false t = some v → v = 0 ∧ (segV t).all (fun x => !sp x) = false
  | [], v, h => by cases h
  | d :: t, v, h => by
    rw [segV_cons]
    unfold scn at h
    by_cases d47 : d = 47
    · rw [if_pos d47] at h; cases h
    · rw [if_neg d47] at h ⊢
      rw [if_neg (by simp)] at h
      rw [List.all_cons]
      by_cases h58 : d = 58
      · rw [if_pos h58] at h; cases h
        rw [h58]; exact ⟨rfl, rfl⟩
      · rw [if_neg h58] at h
        by_cases h42 : d = 42
        · rw [if_pos h42] at h; cases h
          rw [h42]; exact ⟨rfl, rfl⟩
        · rw [if_neg h42] at h
          obtain ⟨h1, h2⟩ := scn_false t v h
          exact ⟨h1, by rw [h2, Bool.and_false]⟩
theorem scn_star : ∀ (t : St) (p : UInt8), p ≠ 47 → scn true t = some 0 → okr p t = false
  | [], p, hp, h => by cases h
  | d :: t, p, hp, h => by
    unfold scn at h
    by_cases d47 : d = 47
    · rw [if_pos d47] at h; cases h
    · rw [if_neg d47] at h
      by_cases h58 : d = 58
      · rw [if_pos (by rw [h58]; rfl)] at h; cases h
      · rw [if_neg (by simpa using h58), if_neg h58] at h
        by_cases h42 : d = 42
        · show ((if d = 58 then _ else if d = 42 then !t.isEmpty && p == 47 && t.all (· != 47) else true) && okr d t) = false
          rw [if_neg h58, if_pos h42, beq_eq_false_iff_ne.2 hp]
          simp
        · rw [if_neg h42] at h
          show ((if d = 58 then _ else if d = 42 then _ else true) && okr d t) = false
          rw [if_neg h58, if_neg h42, Bool.true_and]
          exact scn_star t d d47 h
theorem drop_nil : ∀ (t : St), t.dropWhile (· != 47) = [] ↔ t.all (· != 47) = true
  | [] => ⟨fun _ => rfl, fun _ => rfl⟩
  | d :: t => by
    rw [drop_cons, List.all_cons]
    by_cases h : d = 47
    · rw [if_pos h, h]
      simp
    · rw [if_neg h, show (d != 47) = true by simpa using h, Bool.true_and]
      exact drop_nil t
theorem all47 {t : St} (h : t.all (· != 47) = true) : t.dropWhile (· != 47) = [] := (drop_nil t).2 h
theorem sy_okr : ∀ (f : Nat) (t : St) (p : UInt8), t.length < f → (sy f p t = 1 → okr p t = true) ∧ (sy f p t = 0 → okr p t = false)
  | 0, t, p, h => absurd h (Nat.not_lt_zero _)
  | f + 1, [], p, h => ⟨fun _ => rfl, fun e => by cases e⟩
  | f + 1, c :: t, p, h => by
    have hf : t.length < f := Nat.lt_of_succ_lt_succ h
    have hdl : (t.dropWhile (· != 47)).length < f := Nat.lt_of_le_of_lt (drop_len t) hf
    by_cases hc : c = 58 ∨ c = 42
    rotate_left
    · have c58 : c ≠ 58 := fun e => hc (.inl e)
      have c42 : c ≠ 42 := fun e => hc (.inr e)
      have e1 : sy (f + 1) p (c :: t) = sy f c t := by
        show (if c = 58 ∨ c = 42 then _ else sy f c t) = _
        rw [if_neg hc]
      have e2 : okr p (c :: t) = okr c t := by
        show ((if c = 58 then _ else if c = 42 then _ else true) && okr c t) = _
        rw [if_neg c58, if_neg c42, Bool.true_and]
      rw [e1, e2]
      exact sy_okr f t c hf
    by_cases c58 : c = 58
    · subst c58
      have e2 : okr p (58 :: t) = ((!(segV t).isEmpty && (segV t).all (fun x => !sp x)) && okr 58 t) := rfl
      rw [e2]
      cases hq : scn false t with
      | some v =>
        have eS : sy (f + 1) p (58 :: t) = v := sy_some (.inl rfl) hq
        obtain ⟨h1, h2⟩ := scn_false t v hq
        rw [eS, h1, h2]
        exact ⟨fun e => (by cases e), fun _ => by simp⟩
      | none =>
        have eS := sy_none (f := f) (p := p) (c := 58) (.inl rfl) hq
        have hall := scn_none false t hq
        rw [if_neg (show ¬ ((58 : UInt8) = 42 ∧ _) from fun e => by cases e.1)] at eS
        by_cases hs0 : segV t = []
        · rw [if_pos hs0] at eS
          rw [eS, hs0]
          exact ⟨fun e => (by cases e), fun _ => rfl⟩
        · rw [if_neg hs0] at eS
          have he : (segV t).isEmpty = false := by simpa using hs0
          rw [eS, hall, he, okr_seg t 58 hall]
          exact sy_okr f _ 0 hdl
    · have c42 : c = 42 := hc.resolve_left c58
      subst c42
      have e2 : okr p (42 :: t) = ((!t.isEmpty && p == 47 && t.all (· != 47)) && okr 42 t) := rfl
      rw [e2]
      cases hq : scn true t with
      | some v =>
        have eS : sy (f + 1) p (42 :: t) = v := sy_some (.inr rfl) hq
        rw [eS]
        rcases scn_v _ _ _ hq with h0 | h0
        · rw [h0]
          rw [h0] at hq
          rw [scn_star t 42 (by decide) hq, Bool.and_false]
          exact ⟨fun e => (by cases e), fun _ => rfl⟩
        · rw [h0]
          exact ⟨fun e => (by cases e), fun e => by cases e⟩
      | none =>
        have eS := sy_none (f := f) (p := p) (c := 42) (.inr rfl) hq
        have hall := scn_none true t hq
        by_cases hs0 : segV t = []
        · rw [if_pos hs0] at eS
          rw [eS]
          refine ⟨fun e => (by cases e), fun _ => ?_⟩
          cases t with
          | nil => rfl
          | cons d t' =>
            have : d = 47 := by
              apply Decidable.byContradiction
              intro e
              rw [segV_cons, if_neg e] at hs0
              cases hs0
            rw [this]
            simp
        · rw [if_neg hs0] at eS
          by_cases hbad : t.dropWhile (· != 47) ≠ [] ∨ p ≠ 47
          · rw [if_pos ⟨rfl, hbad⟩] at eS
            rw [eS]
            refine ⟨fun e => (by cases e), fun _ => ?_⟩
            rcases hbad with hbad | hbad
            · have : t.all (· != 47) = false := by
                cases hz : t.all (· != 47) with
                | false => rfl
                | true => exact absurd (all47 hz) hbad
              rw [this]
              simp
            · rw [beq_eq_false_iff_ne.2 hbad]
              simp
          · rw [if_neg (fun e => hbad e.2)] at eS
            have hd : t.dropWhile (· != 47) = [] := by
              apply Decidable.byContradiction
              intro e
              exact hbad (.inl e)
            have hp : p = 47 := by
              apply Decidable.byContradiction
              intro e
              exact hbad (.inr e)
            have ht : t.all (· != 47) = true := (drop_nil t).1 hd
            have hne : t.isEmpty = false := by
              cases t with
              | nil => exact absurd rfl hs0
              | cons a b => rfl
            have e3 : okr 42 t = true := by rw [okr_seg t 42 hall, hd]; rfl
            rw [eS, hd, ht, hne, hp, e3]
            refine ⟨fun _ => rfl, fun e => ?_⟩
            cases f with
            | zero => exact absurd hf (Nat.not_lt_zero _)
            | succ f => cases e
def kb (c : UInt8) : Int × Int := if c = 58 then (1, 0) else if c = 42 then (2, 0) else (0, (c.toNat : Int))
theorem kb_inj {a b : UInt8} (h : kb a = kb b) : a = b := by
  unfold kb at h
  by_cases a58 : a = 58
  · rw [if_pos a58] at h
    by_cases b58 : b = 58
    · rw [a58, b58]
    · rw [if_neg b58] at h
      split at h <;> (have := (Prod.mk.inj h).1; omega)
  · rw [if_neg a58] at h
    by_cases a42 : a = 42
    · rw [if_pos a42] at h
      by_cases b58 : b = 58
      · rw [if_pos b58] at h
        have := (Prod.mk.inj h).1
        omega
      · rw [if_neg b58] at h
        by_cases b42 : b = 42
        · rw [a42, b42]
        · rw [if_neg b42] at h
          have := (Prod.mk.inj h).1
          omega
    · rw [if_neg a42] at h
      split at h
      · have := (Prod.mk.inj h).1; omega
      · split at h
        · have := (Prod.mk.inj h).1; omega
        · have := (Prod.mk.inj h).2
          exact UInt8.toNat_inj.1 (Int.ofNat_inj.1 this)
theorem kb_map : ∀ {a b : St}, a.map kb = b.map kb → a = b
  | [], [], _ => rfl
  | [], _ :: _, h => by cases h
  | _ :: _, [], h => by cases h
  | x :: a, y :: b, h => by
    rw [List.map_cons, List.map_cons] at h
    obtain ⟨h1, h2⟩ := List.cons.inj h
    rw [kb_inj h1, kb_map h2]
theorem ky_shape : ∀ (n : Nat) (t : St), t.length ≤ n → ∀ f f', t.length < f → t.length < f' → ky f t = (Go.Proofs.Ytekjffooblcmnaa.Rt.shape f' t).map kb := by
  intro n
  induction n using Nat.strongRecOn with
  | _ n ih =>
    intro t hn f f' hf hf'
    cases f with
    | zero => exact absurd hf (Nat.not_lt_zero _)
    | succ f =>
    cases f' with
    | zero => exact absurd hf' (Nat.not_lt_zero _)
    | succ f' =>
    cases t with
    | nil => rfl
    | cons c t =>
      have hl : t.length < n := hn
      have h1 : t.length < f := Nat.lt_of_succ_lt_succ hf
      have h2 : t.length < f' := Nat.lt_of_succ_lt_succ hf'
      by_cases c58 : c = 58
      · subst c58
        have e1 : ky (f + 1) (58 :: t) = (1, 0) :: ky f (t.dropWhile (· != 47)) := rfl
        have e2 : Go.Proofs.Ytekjffooblcmnaa.Rt.shape (f' + 1) (58 :: t) = 58 :: (match t.dropWhile (· != 47) with
          | [] => []
          | x :: r => x :: Go.Proofs.Ytekjffooblcmnaa.Rt.shape f' r) := rfl
        rw [e1, e2]
        have hdl := drop_len t
        rcases drop_head t with e | ⟨r, e⟩
        · rw [e]
          cases f <;> rfl
        · rw [e] at hdl ⊢
          cases f with
          | zero => exact absurd h1 (Nat.not_lt_zero _)
          | succ f =>
            have hrl : r.length < t.length := hdl
            have := ih r.length (by omega) r (Nat.le_refl _) f f' (by omega) (by omega)
            show (1, 0) :: (0, ((47 : UInt8).toNat : Int)) :: ky f r = _
            rw [this]
            rfl
      · by_cases c42 : c = 42
        · subst c42; rfl
        · have e1 : ky (f + 1) (c :: t) = (0, (c.toNat : Int)) :: ky f t := by
            show (if c = 58 then _ else if c = 42 then _ else _) = _
            rw [if_neg c58, if_neg c42]
          have e2 : Go.Proofs.Ytekjffooblcmnaa.Rt.shape (f' + 1) (c :: t) = c :: Go.Proofs.Ytekjffooblcmnaa.Rt.shape f' t := by
            show (if c = 58 then _ else if c = 42 then _ else _) = _
            rw [if_neg c58, if_neg c42]
          rw [e1, e2, List.map_cons, ih t.length hl t (Nat.le_refl _) f f' h1 h2]
          unfold kb
          rw [if_neg c58, if_neg c42]
end Go.Proofs.Ytekjffooblcmnaa.SpA
end
section
namespace Go.Proofs.Ytekjffooblcmnaa.SpA
open Go.RowKit Go.Proofs.Ytekjffooblcmnaa.Q Go.Proofs.YtekjffooblcmnaaW.PrintWords Go.Proofs.YtekjffooblcmnaaW.PrintLast Go.Proofs.YtekjffooblcmnaaKit
set_option linter.unusedVariables false
set_option linter.unusedSimpArgs false
theorem wrap_next (n : Nat) (hn : n ≤ 2000) : wrap64 ((n : Int) + 1) = ((n + 1 : Nat) : Int) := by unfold wrap64; omega
theorem wrap_pred (n m : Nat) (h : n = m + 1) (hn : n ≤ 2000) : wrap64 ((n : Int) - 1) = (m : Int) := by unfold wrap64; omega
section
variable (s : ByteArray) (hs : s.size ≤ 2000)
include hs
theorem pz_main : ∀ (f : Nat) (suf pre : St) (acc : List PS), suf.length < f → L s = pre ++ suf → (pre = [] → suf.head? ≠ some 42) → acc.length ≤ pre.length → ∃ q : List PS, Ev (fun k => spec_pieces.l0 k s acc (pre.length : Int)) (if sy f (lastB pre) suf = 1 then (acc ++ q, 1) else ([], sy f (lastB pre) suf)) ∧ (sy f (lastB pre) suf = 1 → q.map key = ky f suf) ∧ q.length ≤ suf.length
  | 0, suf, pre, acc, hf, h, hp, ha => absurd hf (Nat.not_lt_zero _)
  | f + 1, [], pre, acc, hf, h, hp, ha => by
    refine ⟨[], ?_, fun _ => rfl, Nat.le_refl _⟩
    rw [if_pos (show sy (f + 1) (lastB pre) [] = 1 from rfl), List.append_nil]
    refine Ev.step (f := fun _ => some (acc, 1)) (fun k => ?_) (Ev.now _)
    simp only [spec_pieces.l0]
    rw [if_neg (sz_not h)]
  | f + 1, c :: t, pre, acc, hf, h, hp, ha => by
    have hf2 : t.length < f := Nat.lt_of_succ_lt_succ hf
    have hpl : pre.length < s.size := nz_mid h
    by_cases hc : c = 58 ∨ c = 42
    rotate_left
    · have c58 : c ≠ 58 := fun e => hc (.inl e)
      have c42 : c ≠ 42 := fun e => hc (.inr e)
      have e1 : sy (f + 1) (lastB pre) (c :: t) = sy f (lastB (pre ++ [c])) t := by
        rw [lastB_app]
        show (if c = 58 ∨ c = 42 then _ else sy f c t) = _
        rw [if_neg hc]
      have e2 : ky (f + 1) (c :: t) = (0, (c.toNat : Int)) :: ky f t := by
        show (if c = 58 then _ else if c = 42 then _ else _) = _
        rw [if_neg c58, if_neg c42]
      obtain ⟨q, h1, h2, h3⟩ := pz_main f t (pre ++ [c]) (acc ++ [(⟨0, (c.toNat : Int), ⟨#[]⟩⟩ : PS)]) hf2 (mid_next h) (fun e => by simp at e) (by simp; omega)
      refine ⟨⟨0, (c.toNat : Int), ⟨#[]⟩⟩ :: q, ?_, fun e => ?_, by simp; omega⟩
      · rw [e1]
        rw [List.append_assoc, List.singleton_append] at h1
        refine Ev.step (f := fun k => spec_pieces.j2 k s acc (pre.length : Int) (c.toNat : Int) true) (fun k => ?_) (Ev.step (fun k => ?_) h1)
        · have b42 : ((c.toNat : Int) != 42) = true := bne_iff_ne.2 (n42 c42)
          simp only [spec_pieces.l0]
          rw [if_pos (sz_mid h), if_pos (by omega), bt_mid h, if_neg (n58 c58), b42]
        · simp only [spec_pieces.j2]
          rw [if_pos trivial, if_pos (by omega), wrap_mid h (by omega)]
      · rw [e1] at e
        rw [e2, List.map_cons, h2 e]
        rfl
    have head : ∀ {R}, Ev (fun k => spec_pieces.l1 k s acc (pre.length : Int) (c.toNat : Int) ((pre ++ [c]).length : Int)) R → Ev (fun k => spec_pieces.l0 k s acc (pre.length : Int)) R := fun {R} hR => by
      refine Ev.step (f := fun k => spec_pieces.j2 k s acc (pre.length : Int) (c.toNat : Int) false) (fun k => ?_) (Ev.step (fun k => ?_) hR)
      · simp only [spec_pieces.l0]
        rw [if_pos (sz_mid h), if_pos (by omega), bt_mid h]
        rcases hc with hc | hc
        · rw [hc, if_pos p58]
        · rw [hc, if_neg n4258]
          rfl
      · simp only [spec_pieces.j2]
        rw [if_neg (by decide), wrap_mid h (by omega)]
    have hsc := pz_scan s hs acc (pre.length : Int) c t (pre ++ [c]) (mid_next h)
    cases hq : scn (c == 42) t with
    | some v =>
      have eS : sy (f + 1) (lastB pre) (c :: t) = v := sy_some hc hq
      have hv := scn_v _ _ _ hq
      rw [eS]
      refine ⟨[], ?_, fun e => by omega, Nat.zero_le _⟩
      rw [if_neg (by omega)]
      exact head (hsc.1 v hq)
    | none =>
      have eS := sy_none (f := f) (p := lastB pre) hc hq
      have hj := hsc.2 hq
      obtain ⟨tl, htl⟩ : ∃ x, x = t.dropWhile (· != 47) := ⟨_, rfl⟩
      have hsd : t = segV t ++ tl := by rw [htl]; exact seg_drop t
      rw [← htl] at eS
      have hel : ((pre ++ [c]) ++ segV t).length = pre.length + 1 + (segV t).length := by rw [List.length_append, List.length_append]; rfl
      have hsl : s.size = pre.length + 1 + (segV t).length + tl.length := by
        rw [size_L, h, List.length_append, List.length_cons]
        have := congrArg List.length hsd
        rw [List.length_append] at this
        omega
      have WZ : Aside0 (wrap64 ((pre.length : Int) + 1) = ((pre.length + 1 : Nat) : Int)) := ⟨wrap_next _ (Nat.le_trans (Nat.le_of_lt hpl) hs)⟩
      by_cases hs0 : segV t = []
      · rw [if_pos hs0] at eS
        rw [eS]
        refine ⟨[], ?_, fun e => by omega, Nat.zero_le _⟩
        rw [if_neg (by omega)]
        refine head (hj _ (Ev.step (f := fun _ => some ([], 0)) (fun k => ?_) (Ev.now _)))
        simp only [spec_pieces.j4]
        rw [if_neg (by decide), if_pos (by rw [hel, hs0, WZ.out]; simp)]
      · rw [if_neg hs0] at eS
        have hspos : 0 < (segV t).length := by
          cases hz : segV t with
          | nil => exact absurd hz hs0
          | cons a b => simp
        have HNE : Aside0 (¬ ((((pre ++ [c]) ++ segV t).length : Nat) : Int) = wrap64 ((pre.length : Int) + 1)) := ⟨by rw [hel, WZ.out]; omega⟩
        have j4s : ∀ {b R}, (c = 42 → Ev (fun k => spec_pieces.j6 k s acc (pre.length : Int) (c.toNat : Int) ((((pre ++ [c]) ++ segV t).length : Nat) : Int) b) R) → (c ≠ 42 → Ev (fun k => spec_pieces.j6 k s acc (pre.length : Int) (c.toNat : Int) ((((pre ++ [c]) ++ segV t).length : Nat) : Int) false) R) → (c = 42 → b = decide (tl ≠ [] ∨ lastB pre ≠ 47)) → Ev (fun k => spec_pieces.j4 k s acc (pre.length : Int) (c.toNat : Int) ((((pre ++ [c]) ++ segV t).length : Nat) : Int) false) R := fun {b R} h42 hn hb => by
          by_cases c42 : c = 42
          · refine Ev.step (fun k => ?_) (h42 c42)
            simp only [spec_pieces.j4]
            rw [if_neg (by decide), if_neg HNE.out, if_pos (by rw [c42]; rfl)]
            by_cases ht : tl = []
            · have hp0 : pre ≠ [] := fun e => hp e (by rw [c42]; rfl)
              obtain ⟨pr, x, hpx⟩ : ∃ pr x, pre = pr ++ [x] := ⟨pre.dropLast, pre.getLast hp0, (List.dropLast_concat_getLast hp0).symm⟩
              have hx : L s = pr ++ x :: (c :: t) := by rw [h, hpx]; simp
              have hln : pre.length = pr.length + 1 := by rw [hpx, List.length_append]; rfl
              have hw := wrap_pred _ _ hln (Nat.le_trans (Nat.le_of_lt hpl) hs)
              have hlb : lastB pre = x := by rw [hpx, lastB_app]
              have e : ((x.toNat : Int) != 47) = decide (tl ≠ [] ∨ lastB pre ≠ 47) := by
                rw [hlb]
                by_cases hx47 : x = 47
                · rw [decide_eq_false (fun h => h.elim (fun h => h ht) (fun h => h hx47)), hx47]
                  rfl
                · rw [decide_eq_true (.inr hx47)]
                  exact bne_iff_ne.2 (fun e => hx47 (UInt8.toNat_inj.1 (show x.toNat = 47 by omega)))
              have hnl : ¬ ((((pre ++ [c]) ++ segV t).length : Nat) : Int) < (s.size : Int) := by
                rw [hel]
                rw [ht, List.length_nil] at hsl
                omega
              rw [if_neg hnl, hw, if_pos (by omega), if_pos (sz_mid hx), bt_mid hx, e, hb c42]
            · have : 0 < tl.length := by
                cases hz : tl with
                | nil => exact absurd hz ht
                | cons a b => simp
              rw [if_pos (by rw [hel]; omega), hb c42, decide_eq_true (.inl ht)]
          · refine Ev.step (fun k => ?_) (hn c42)
            simp only [spec_pieces.j4]
            rw [if_neg (by decide), if_neg HNE.out, if_neg (n42 c42)]
        by_cases hbad : c = 42 ∧ (tl ≠ [] ∨ lastB pre ≠ 47)
        · rw [if_pos hbad] at eS
          rw [eS]
          refine ⟨[], ?_, fun e => by omega, Nat.zero_le _⟩
          rw [if_neg (by omega)]
          refine head (hj _ (j4s (b := true) (fun _ => Ev.step (f := fun _ => some ([], 0)) (fun k => ?_) (Ev.now _)) (fun e => absurd hbad.1 e) (fun _ => (decide_eq_true hbad.2).symm)))
          simp only [spec_pieces.j6]
          rw [if_pos trivial]
        · rw [if_neg hbad] at eS
          have htl2 : tl.length < f := by
            have := congrArg List.length hsd
            rw [List.length_append] at this
            omega
          have h' : L s = ((pre ++ [c]) ++ segV t) ++ tl := by rw [h, List.append_assoc, List.append_assoc, ← hsd]; rfl
          have hin : ∀ kd : Int, kd = (if c = 42 then 2 else 1) → ∃ q : List PS, Ev (fun k => spec_pieces.j6 k s acc (pre.length : Int) (c.toNat : Int) ((((pre ++ [c]) ++ segV t).length : Nat) : Int) false) (if sy f 0 tl = 1 then (acc ++ q, 1) else ([], sy f 0 tl)) ∧ (sy f 0 tl = 1 → q.map key = (kd, 0) :: ky f tl) ∧ q.length ≤ tl.length + 1 := fun kd hkd => by
            obtain ⟨el, hel2⟩ : ∃ el : PS, el = ⟨kd, 0, s.extract (pre.length + 1) ((pre ++ [c]) ++ segV t).length⟩ := ⟨_, rfl⟩
            have hacc : (acc ++ [el]).length ≤ ((pre ++ [c]) ++ segV t).length := by
              rw [hel, List.length_append]
              exact Nat.le_trans (Nat.succ_le_succ ha) (Nat.le_add_right _ _)
            have hkey : key el = (kd, 0) := by rw [hel2]; rfl
            obtain ⟨q, h1, h2, h3⟩ := pz_main f tl ((pre ++ [c]) ++ segV t) (acc ++ [el]) htl2 h' (fun e => by simp at e) hacc
            have hsp : sy f (lastB ((pre ++ [c]) ++ segV t)) tl = sy f 0 tl := by rw [htl]; exact sy_prev f _ _ t
            rw [hsp] at h1 h2
            rw [List.append_assoc acc [el] q, List.singleton_append] at h1
            refine ⟨el :: q, Ev.step (fun k => ?_) h1, fun e => by rw [List.map_cons, h2 e, hkey], by rw [List.length_cons]; omega⟩
            simp only [spec_pieces.j6]
            rw [if_neg (by decide), WZ.out]
            have ho : ((pre.length + 1 : Nat) : Int) ≤ ((((pre ++ [c]) ++ segV t).length : Nat) : Int) := by rw [hel]; omega
            have ho2 : ((((pre ++ [c]) ++ segV t).length : Nat) : Int) ≤ (s.size : Int) := by rw [hel]; omega
            by_cases c42 : c = 42
            · rw [if_pos (by rw [c42]; rfl), if_pos (by omega), if_pos ho, if_pos ho2, if_pos (by omega)]
              rw [if_pos c42] at hkd
              rw [hel2, hkd, Int.toNat_natCast, Int.toNat_natCast]
            · rw [if_neg (n42 c42), if_pos (by omega), if_pos ho, if_pos ho2, if_pos (by omega)]
              rw [if_neg c42] at hkd
              rw [hel2, hkd, Int.toNat_natCast, Int.toNat_natCast]
          obtain ⟨q, h1, h2, h3⟩ := hin _ rfl
          rw [eS]
          have hlen := congrArg List.length hsd
          rw [List.length_append] at hlen
          refine ⟨q, head (hj _ (j4s (b := false) (fun _ => h1) (fun _ => h1) (fun e => ?_))), fun e => ?_, by simp; omega⟩
          · exact (decide_eq_false (fun q => hbad ⟨e, q⟩)).symm
          · rw [h2 e]
            show _ = (if c = 58 then _ else if c = 42 then _ else _)
            by_cases c58 : c = 58
            · rw [if_pos c58, if_neg (by rw [c58]; decide), ← htl]
            · have c42 : c = 42 := hc.resolve_left c58
              have hnt : tl = [] := by
                apply Decidable.byContradiction
                intro e
                exact hbad ⟨c42, .inl e⟩
              rw [if_neg c58, if_pos c42, if_pos c42, hnt]
              cases f <;> rfl
end
end Go.Proofs.Ytekjffooblcmnaa.SpA
end
section
namespace Go.Proofs.Ytekjffooblcmnaa.SpA
open Go.RowKit Go.Proofs.Ytekjffooblcmnaa.Q Go.Proofs.YtekjffooblcmnaaW.PrintWords Go.Proofs.YtekjffooblcmnaaW.PrintLast Go.Proofs.YtekjffooblcmnaaKit
set_option linter.unusedVariables false
set_option linter.unusedSimpArgs false
def sy0 (s : St) : Int := if s.head? = some 47 then sy (s.length + 1) 0 s else 0
theorem sy0_ok (s : St) : (sy0 s = 1 → okT s = true) ∧ (sy0 s = 0 → okT s = false) := by
  unfold sy0 okT
  by_cases h : s.head? = some 47
  · rw [if_pos h, h]
    have := sy_okr (s.length + 1) s 0 (Nat.lt_succ_self _)
    exact ⟨fun e => by rw [this.1 e]; rfl, fun e => by rw [this.2 e]; rfl⟩
  · rw [if_neg h]
    refine ⟨fun e => (by cases e), fun _ => ?_⟩
    rw [beq_eq_false_iff_ne.2 h]; rfl
theorem shp_ky (s : St) (h : s.head? = some 47) : ky (s.length + 1) s = (shp s).map kb := by
  cases s with
  | nil => cases h
  | cons c u =>
    have : c = 47 := by simpa using h
    subst this
    exact ky_shape _ (47 :: u) (Nat.le_refl _) _ (u.length + 2) (Nat.lt_succ_self _) (by simp)
theorem pieces_f (s : ByteArray) (hs : s.size ≤ 2000) : ∃ q : List PS, Ev (fun k => spec_pieces.f k s) (q, sy0 (L s)) ∧ (sy0 (L s) = 1 → q.map key = (shp (L s)).map kb) ∧ q.length ≤ 2000 := by
  unfold spec_pieces.f
  have j0t : Ev (fun k => spec_pieces.j0 k s [] true) (([] : List PS), (0 : Int)) := by
    refine Ev.step (f := fun _ => some ([], 0)) (fun k => ?_) (Ev.now _)
    simp only [spec_pieces.j0]
    rw [if_pos trivial]
  by_cases he : s.toList = ([] : List UInt8)
  · have e0 : sy0 (L s) = 0 := by rw [← tl, he]; rfl
    rw [e0]
    exact ⟨[], Ev.pos he j0t, fun e => (by cases e), Nat.zero_le _⟩
  · have hc : ∃ c u, L s = c :: u := by
      cases hq : L s with
      | nil => exact absurd ((tl s).trans hq) he
      | cons c u => exact ⟨c, u, rfl⟩
    obtain ⟨c, u, hcu⟩ := hc
    have h0 : L s = [] ++ c :: u := hcu
    have hz : 0 < (s.size : Int) := by rw [size_L, hcu]; simp
    have hb : bt s 0 = (c.toNat : Int) := bt_mid (pre := []) h0
    by_cases c47 : c = 47
    · subst c47
      have hh : (L s).head? = some 47 := by rw [hcu]; rfl
      obtain ⟨q, h1, h2, h3⟩ := pz_main s hs ((L s).length + 1) (L s) [] [] (Nat.lt_succ_self _) rfl (fun _ => by rw [hh]; decide) (Nat.le_refl _)
      have e0 : sy0 (L s) = sy ((L s).length + 1) (lastB []) (L s) := by unfold sy0; rw [if_pos hh]; rfl
      rw [← e0] at h1 h2
      refine ⟨if sy0 (L s) = 1 then q else [], Ev.neg he (Ev.pos hz (Ev.step (fun k => ?_) (Ev.same h1 ?_))), fun e => ?_, ?_⟩
      · simp only [spec_pieces.j0]
        rw [hb, if_neg (by decide)]
        rfl
      · by_cases e1 : sy0 (L s) = 1
        · rw [if_pos e1, if_pos e1, e1]; rfl
        · rw [if_neg e1, if_neg e1]
      · rw [if_pos e, h2 e, shp_ky _ hh]
      · have hl : (L s).length ≤ 2000 := by rw [← size_L]; exact hs
        split
        · omega
        · exact Nat.zero_le _
    · have e0 : sy0 (L s) = 0 := by
        unfold sy0
        rw [if_neg (by rw [hcu]; simpa using c47)]
      rw [e0]
      refine ⟨[], Ev.neg he (Ev.pos hz ?_), fun e => (by cases e), Nat.zero_le _⟩
      have : (bt s 0 != 47) = true := by rw [hb]; exact bne_iff_ne.2 (fun e => c47 (UInt8.toNat_inj.1 (show c.toNat = 47 by omega)))
      rw [this]
      exact j0t
theorem same_l (p q : List PS) (hp : p.length ≤ 4000) : ∀ (t pre t' pre' : List PS), p = pre ++ t → q = pre' ++ t' → pre.length = pre'.length → t.length = t'.length → Ev (fun k => spec_sameShape.l0 k p q (p.length : Int) (pre.length : Int)) (decide (t.map key = t'.map key))
  | [], pre, t', pre', h, h', e, e' => by
    have : t' = [] := List.length_eq_zero_iff.1 e'.symm
    subst this
    refine Ev.step (f := fun _ => some true) (fun k => ?_) (Ev.same (Ev.now _) (by simp))
    simp only [spec_sameShape.l0]
    rw [if_neg (ln_not h)]
  | a :: t, pre, [], pre', h, h', e, e' => by cases e'
  | a :: t, pre, b :: t', pre', h, h', e, e' => by
    have ra : rd_T44 p (pre.length : Int) = a := get_mid h _
    have rb : rd_T44 q (pre.length : Int) = b := by rw [e]; exact get_mid h' _
    have lq : (pre.length : Int) < (q.length : Int) := by rw [e]; exact ln_mid h'
    rw [List.map_cons, List.map_cons]
    by_cases h0 : a.f0 = b.f0
    · by_cases h1 : a.f1 = b.f1
      · have hk : key a = key b := by unfold key; rw [h0, h1]
        refine Ev.step (fun k => ?_) (Ev.same (same_l p q hp t (pre ++ [a]) t' (pre' ++ [b]) (lmid_next h) (lmid_next h') (by simp [e]) (by simpa using e')) ?_)
        · simp only [spec_sameShape.l0]
          rw [if_pos (ln_mid h), if_pos (by omega), if_pos (ln_mid h), if_pos lq, ra, rb, if_pos h0, if_pos h1, wrap_lmid h (by omega)]
        · rw [hk]
          simp
      · refine Ev.step (f := fun _ => some false) (fun k => ?_) (Ev.same (Ev.now _) ?_)
        · simp only [spec_sameShape.l0]
          rw [if_pos (ln_mid h), if_pos (by omega), if_pos (ln_mid h), if_pos lq, ra, rb, if_pos h0, if_neg h1]
        · exact (decide_eq_false (fun e => h1 (Prod.mk.inj (List.cons.inj e).1).2)).symm
    · refine Ev.step (f := fun _ => some false) (fun k => ?_) (Ev.same (Ev.now _) ?_)
      · simp only [spec_sameShape.l0]
        rw [if_pos (ln_mid h), if_pos (by omega), if_pos (ln_mid h), if_pos lq, ra, rb, if_neg h0]
      · exact (decide_eq_false (fun e => h0 (Prod.mk.inj (List.cons.inj e).1).1)).symm
theorem same_f (p q : List PS) (hp : p.length ≤ 4000) : Ev (fun k => spec_sameShape.f k p q) (decide (p.map key = q.map key)) := by
  unfold spec_sameShape.f
  by_cases h : (p.length : Int) = (q.length : Int)
  · exact Ev.pos h (same_l p q hp p [] q [] rfl rfl rfl (by omega))
  · refine Ev.neg h (Ev.same (Ev.now _) ?_)
    refine (decide_eq_false (fun e => h ?_)).symm
    have := congrArg List.length e
    rw [List.length_map, List.length_map] at this
    omega
def vfin (p : List PS) (v : Int) (l : List (List PS)) : Int := if v = 1 ∧ (∃ q ∈ l, p.map key = q.map key) then 0 else v
theorem vfin_nil (p : List PS) (v : Int) : vfin p v [] = v := by
  unfold vfin
  rw [if_neg (by rintro ⟨_, q, hq, _⟩; cases hq)]
theorem vfin_no (p : List PS) {v : Int} (h : v ≠ 1) (l : List (List PS)) : vfin p v l = v := by
  unfold vfin
  rw [if_neg (fun e => h e.1)]
theorem added_l1 (x : List ByteArray) (i : Int) (x3 : List Int) (alls : List (List PS)) (x5 : Bool) (p : List PS) (hp : p.length ≤ 4000) (ha : alls.length ≤ 100) (h3 : x3.length ≤ 100) (R : List Int) :
    ∀ (suf pre : List (List PS)) (v : Int), alls = pre ++ suf → (x5 = true → Ev (fun k => spec_Added.l0 k (x3 ++ [2]) alls true x (x.length : Int) (wrap64 (i + 1))) R) → (x5 = false → Ev (fun k => spec_Added.l0 k (x3 ++ [vfin p v suf]) (alls ++ [p]) (vfin p v suf != 1) x (x.length : Int) (wrap64 (i + 1))) R) → Ev (fun k => spec_Added.l1 k x3 alls x5 p v x (x.length : Int) i alls (alls.length : Int) (pre.length : Int)) R
  | [], pre, v, h, ht, hf => by
    rw [vfin_nil] at hf
    cases x5 with
    | true =>
      refine Ev.step (fun k => ?_) (ht rfl)
      simp only [spec_Added.l1]
      rw [if_neg (ln_not h), if_pos trivial, if_pos (by omega)]
    | false =>
      refine Ev.step (fun k => ?_) (hf rfl)
      simp only [spec_Added.l1]
      rw [if_neg (ln_not h), if_neg (by decide), if_pos (by omega), if_pos (by omega)]
  | q :: suf, pre, v, h, ht, hf => by
    have rq : rd_L5 alls (pre.length : Int) = q := get_mid h _
    by_cases hv : v = 1
    · subst hv
      by_cases hq : p.map key = q.map key
      · have e1 : vfin p 1 (q :: suf) = 0 := by unfold vfin; rw [if_pos ⟨rfl, q, List.mem_cons_self, hq⟩]
        rw [e1] at hf
        have := added_l1 x i x3 alls x5 p hp ha h3 R suf (pre ++ [q]) 0 (lmid_next h) ht (by rw [vfin_no p (by decide)]; exact hf)
        refine Ev.step (f := fun k => (spec_sameShape.f k p q).bind fun b => if b = true then spec_Added.l1 k x3 alls x5 p 0 x (x.length : Int) i alls (alls.length : Int) ((pre ++ [q]).length : Int) else spec_Added.l1 k x3 alls x5 p 1 x (x.length : Int) i alls (alls.length : Int) ((pre ++ [q]).length : Int)) (fun k => ?_) (Ev.call (same_f p q hp) (Ev.pos (decide_eq_true hq) this))
        · simp only [spec_Added.l1]
          rw [if_pos (ln_mid h), if_pos (by omega), if_pos (ln_mid h), if_pos trivial, rq, wrap_lmid h (by omega)]
      · have e1 : vfin p 1 (q :: suf) = vfin p 1 suf := by
          unfold vfin
          by_cases hx : ∃ r ∈ suf, p.map key = r.map key
          · rw [if_pos ⟨rfl, hx.imp fun r hr => ⟨List.mem_cons_of_mem _ hr.1, hr.2⟩⟩, if_pos ⟨rfl, hx⟩]
          · have h1 : ¬ ((1 : Int) = 1 ∧ ∃ r ∈ q :: suf, p.map key = r.map key) := by
              rintro ⟨_, r, hr, e⟩
              rcases List.mem_cons.1 hr with rfl | hr
              · exact hq e
              · exact hx ⟨r, hr, e⟩
            have h2 : ¬ ((1 : Int) = 1 ∧ ∃ r ∈ suf, p.map key = r.map key) := fun e => hx e.2
            rw [if_neg h1, if_neg h2]
        rw [e1] at hf
        have := added_l1 x i x3 alls x5 p hp ha h3 R suf (pre ++ [q]) 1 (lmid_next h) ht hf
        refine Ev.step (f := fun k => (spec_sameShape.f k p q).bind fun b => if b = true then spec_Added.l1 k x3 alls x5 p 0 x (x.length : Int) i alls (alls.length : Int) ((pre ++ [q]).length : Int) else spec_Added.l1 k x3 alls x5 p 1 x (x.length : Int) i alls (alls.length : Int) ((pre ++ [q]).length : Int)) (fun k => ?_) (Ev.call (same_f p q hp) (Ev.neg (by rw [decide_eq_false hq]; decide) this))
        · simp only [spec_Added.l1]
          rw [if_pos (ln_mid h), if_pos (by omega), if_pos (ln_mid h), if_pos trivial, rq, wrap_lmid h (by omega)]
    · rw [vfin_no p hv] at hf
      have := added_l1 x i x3 alls x5 p hp ha h3 R suf (pre ++ [q]) v (lmid_next h) ht (by rw [vfin_no p hv]; exact hf)
      refine Ev.step (fun k => ?_) this
      simp only [spec_Added.l1]
      rw [if_pos (ln_mid h), if_pos (by omega), if_pos (ln_mid h), if_neg hv, wrap_lmid h (by omega)]
def Fine : List St → List St → List Int → Prop
  | S, s :: t, v :: o => v = 2 ∨ (v = 1 ∧ okA S s = true ∧ Fine (shp s :: S) t o) ∨ (v = 0 ∧ okA S s = false ∧ (o = [] ∨ ∃ o', o = 2 :: o'))
  | _, [], [] => True
  | _, _, _ => False
theorem sy_vals : ∀ (f : Nat) (p : UInt8) (t : St), sy f p t = 0 ∨ sy f p t = 1 ∨ sy f p t = 2
  | 0, p, t => .inl rfl
  | f + 1, p, [] => .inr (.inl rfl)
  | f + 1, p, c :: t => by
    unfold sy
    split
    · split
      · next v hv => rcases scn_v _ _ _ hv with e | e; exact .inl e; exact .inr (.inr e)
      · split
        · exact .inl rfl
        · split
          · exact .inl rfl
          · exact sy_vals f _ _
    · exact sy_vals f _ _
theorem sy0_vals (s : St) : sy0 s = 0 ∨ sy0 s = 1 ∨ sy0 s = 2 := by
  unfold sy0
  split
  · exact sy_vals _ _ _
  · exact .inl rfl
theorem added_l0 (x : List ByteArray) (hl : x.length ≤ 20) (hz : ∀ s ∈ x, s.size ≤ 2000) : ∀ (suf pre : List ByteArray) (x3 : List Int) (alls : List (List PS)) (x5 : Bool) (S : List St), x = pre ++ suf → (x5 = false → ∀ sh : St, (∃ q ∈ alls, q.map key = sh.map kb) ↔ sh ∈ S) → alls.length ≤ pre.length → x3.length = pre.length → ∃ out : List Int, Ev (fun k => spec_Added.l0 k x3 alls x5 x (x.length : Int) (pre.length : Int)) (x3 ++ out) ∧ out.length = suf.length ∧ (x5 = false → Fine S (suf.map L) out) ∧ (x5 = true → out = [] ∨ ∃ o', out = 2 :: o')
  | [], pre, x3, alls, x5, S, h, hS, ha, h3 => by
    refine ⟨[], ?_, rfl, fun _ => trivial, fun _ => .inl rfl⟩
    rw [List.append_nil]
    refine Ev.step (f := fun _ => some x3) (fun k => ?_) (Ev.now _)
    simp only [spec_Added.l0]
    rw [if_neg (ln_not h)]
  | s :: suf, pre, x3, alls, x5, S, h, hS, ha, h3 => by
    have hss : s.size ≤ 2000 := hz s (by rw [h]; simp)
    have hpl : pre.length < x.length := ln_nat h
    have rs : rdOf ByteArray.empty x (pre.length : Int) = s := get_mid h _
    obtain ⟨q, e1, e2, e3⟩ := pieces_f s hss
    have start : ∀ {R}, Ev (fun k => spec_Added.l1 k x3 alls x5 q (sy0 (L s)) x (x.length : Int) (pre.length : Int) alls (alls.length : Int) 0) R → Ev (fun k => spec_Added.l0 k x3 alls x5 x (x.length : Int) (pre.length : Int)) R := fun {R} hR => by
      refine Ev.step (f := fun k => (spec_pieces.f k s).bind fun b => spec_Added.l1 k x3 alls x5 b.1 b.2 x (x.length : Int) (pre.length : Int) alls (alls.length : Int) 0) (fun k => ?_) (Ev.call e1 hR)
      simp only [spec_Added.l0]
      rw [if_pos (ln_mid h), if_pos (by omega), if_pos (ln_mid h), rs]
    have wx : wrap64 ((pre.length : Int) + 1) = ((pre ++ [s]).length : Int) := wrap_lmid h (by omega)
    cases x5 with
    | true =>
      obtain ⟨out, o1, o2, _, o4⟩ := added_l0 x hl hz suf (pre ++ [s]) (x3 ++ [2]) alls true S (lmid_next h) (fun e => by cases e) (by simp; omega) (by simp; omega)
      refine ⟨2 :: out, ?_, by simp [o2], fun e => (by cases e), fun _ => .inr ⟨out, rfl⟩⟩
      rw [List.append_assoc, List.singleton_append] at o1
      exact start (added_l1 x (pre.length : Int) x3 alls true q (by omega) (by omega) (by omega) _ alls [] (sy0 (L s)) rfl (fun _ => by rw [wx]; exact o1) (fun e => by cases e))
    | false =>
      obtain ⟨v, hv⟩ : ∃ v, v = vfin q (sy0 (L s)) alls := ⟨_, rfl⟩
      have hS := hS rfl
      have hcase : v = 2 ∨ (v = 1 ∧ okA S (L s) = true ∧ sy0 (L s) = 1) ∨ (v = 0 ∧ okA S (L s) = false) := by
        have hok := sy0_ok (L s)
        rcases sy0_vals (L s) with e | e | e
        · right; right
          refine ⟨by rw [hv, vfin_no q (by omega), e], ?_⟩
          unfold okA
          rw [hok.2 e]; rfl
        · by_cases hx : ∃ r ∈ alls, q.map key = r.map key
          · right; right
            refine ⟨by rw [hv]; unfold vfin; rw [if_pos ⟨e, hx⟩], ?_⟩
            obtain ⟨r, hr, er⟩ := hx
            have : shp (L s) ∈ S := (hS _).1 ⟨r, hr, by rw [← er, e2 e]⟩
            unfold okA
            rw [decide_eq_true this]
            simp
          · right; left
            refine ⟨by rw [hv]; unfold vfin; rw [if_neg (fun y => hx y.2), e], ?_, e⟩
            have : ¬ shp (L s) ∈ S := fun hm => by
              obtain ⟨r, hr, er⟩ := (hS _).2 hm
              exact hx ⟨r, hr, by rw [er, e2 e]⟩
            unfold okA
            rw [hok.1 e, decide_eq_false this]
            rfl
        · left
          rw [hv, vfin_no q (by omega), e]
      have hS' : (v != 1) = false → ∀ sh : St, (∃ r ∈ alls ++ [q], r.map key = sh.map kb) ↔ sh ∈ shp (L s) :: S := fun hv1 sh => by
        have hv1 : v = 1 := by simpa using hv1
        have e : sy0 (L s) = 1 := by
          rcases hcase with e | ⟨_, _, e⟩ | ⟨e, _⟩
          · omega
          · exact e
          · omega
        constructor
        · rintro ⟨r, hr, er⟩
          rcases List.mem_append.1 hr with hr | hr
          · exact List.mem_cons_of_mem _ ((hS sh).1 ⟨r, hr, er⟩)
          · rw [List.mem_singleton.1 hr, e2 e] at er
            rw [kb_map er]
            exact List.mem_cons_self
        · intro hm
          rcases List.mem_cons.1 hm with rfl | hm
          · exact ⟨q, by simp, e2 e⟩
          · obtain ⟨r, hr, er⟩ := (hS sh).2 hm
            exact ⟨r, List.mem_append_left _ hr, er⟩
      obtain ⟨out, o1, o2, o3, o4⟩ := added_l0 x hl hz suf (pre ++ [s]) (x3 ++ [v]) (alls ++ [q]) (v != 1) (shp (L s) :: S) (lmid_next h) hS' (by simp; omega) (by simp; omega)
      refine ⟨v :: out, ?_, by simp [o2], fun _ => ?_, fun e => by cases e⟩
      · rw [List.append_assoc, List.singleton_append] at o1
        exact start (added_l1 x (pre.length : Int) x3 alls false q (by omega) (by omega) (by omega) _ alls [] (sy0 (L s)) rfl (fun e => by cases e) (fun _ => by rw [wx, ← hv]; exact o1))
      · rw [List.map_cons]
        show v = 2 ∨ _
        rcases hcase with e | ⟨e, e', _⟩ | ⟨e, e'⟩
        · exact .inl e
        · exact .inr (.inl ⟨e, e', o3 (by rw [e]; rfl)⟩)
        · exact .inr (.inr ⟨e, e', o4 (by rw [e]; rfl)⟩)
theorem specAdded_f (x : List ByteArray) (hl : x.length ≤ 20) (hz : ∀ s ∈ x, s.size ≤ 2000) : ∃ out : List Int, Ev (fun k => spec_Added.f k x) out ∧ out.length = x.length ∧ Fine [] (x.map L) out := by
  obtain ⟨out, o1, o2, o3, _⟩ := added_l0 x hl hz x [] [] [] false [] rfl (fun _ sh => ⟨fun ⟨q, hq, _⟩ => (by cases hq), fun h => (by cases h)⟩) (Nat.le_refl _) rfl
  exact ⟨out, o1, o2, o3 rfl⟩
end Go.Proofs.Ytekjffooblcmnaa.SpA
end
section
namespace Go.Proofs.Ytekjffooblcmnaa.Pure
open Go.RowKit Go.Proofs.Ytekjffooblcmnaa.Q Go.Proofs.YtekjffooblcmnaaW.PrintWords Go.Proofs.YtekjffooblcmnaaW.PrintLast Go.Proofs.YtekjffooblcmnaaKit Go.Proofs.Ytekjffooblcmnaa.SpA
set_option linter.unusedVariables false
set_option linter.unusedSimpArgs false
theorem as_true (x : List ByteArray) : Ev (fun k => laws_FnAddedSays.j1 k x true) true :=
  Ev.step (f := fun _ => some true) (fun k => by simp only [laws_FnAddedSays.j1]; rw [if_pos trivial]) (Ev.now _)
theorem told_f (b : Bool) (v : Int) (h : v = 1 ∧ b = true ∨ v = 0 ∧ b = false) : laws_told.f b v = some true := by
  unfold laws_told.f
  rcases h with ⟨rfl, rfl⟩ | ⟨rfl, rfl⟩
  · rw [if_neg (by decide)]; rfl
  · rw [if_neg (by decide)]; rfl
theorem as_l0 : ∀ (t : List St) (S : List St) (out : List Int) (A0 A : List Bool) (O0 O : List Int), A = A0 ++ addedB S t → O = O0 ++ out → A0.length = O0.length → Fine S t out → t.length = out.length → A.length ≤ 100 → Ev (fun k => laws_FnAddedSays.l0 k A O (A.length : Int) (A0.length : Int)) true
  | [], S, out, A0, A, O0, O, hA, hO, h0, hF, hn, hl => by
    have hA : A = A0 ++ [] := hA
    refine Ev.step (f := fun _ => some true) (fun k => ?_) (Ev.now _)
    simp only [laws_FnAddedSays.l0]
    rw [if_neg (ln_not hA)]
  | s :: t, S, [], A0, A, O0, O, hA, hO, h0, hF, hn, hl => hF.elim
  | s :: t, S, v :: o, A0, A, O0, O, hA, hO, h0, hF, hn, hl => by
    have hA : A = A0 ++ okA S s :: addedB (if okA S s then shp s :: S else S) t := hA
    have ra : rdOf false A (A0.length : Int) = okA S s := get_mid hA _
    have ro : rd O (A0.length : Int) = v := by rw [h0]; exact get_mid hO _
    have lo : (A0.length : Int) < (O.length : Int) := by rw [h0]; exact ln_mid hO
    have wx : wrap64 ((A0.length : Int) + 1) = ((A0 ++ [okA S s]).length : Int) := wrap_lmid hA (by omega)
    have hF : v = 2 ∨ (v = 1 ∧ okA S s = true ∧ Fine (shp s :: S) t o) ∨ (v = 0 ∧ okA S s = false ∧ (o = [] ∨ ∃ o', o = 2 :: o')) := hF
    by_cases v2 : v = 2
    · refine Ev.step (f := fun _ => some true) (fun k => ?_) (Ev.now _)
      simp only [laws_FnAddedSays.l0]
      rw [if_pos (ln_mid hA), if_pos (by omega), if_pos lo, ro, if_pos v2]
    have step : ∀ {b : Bool}, okA S s = b → (v = 1 ∧ b = true ∨ v = 0 ∧ b = false) → Ev (fun k => laws_FnAddedSays.l0 k A O (A.length : Int) ((A0 ++ [okA S s]).length : Int)) true → Ev (fun k => laws_FnAddedSays.l0 k A O (A.length : Int) (A0.length : Int)) true := fun {b} hb hv hR => by
      refine Ev.step (f := fun k => (laws_told.f b v).bind fun c => if c = true then laws_FnAddedSays.l0 k A O (A.length : Int) ((A0 ++ [okA S s]).length : Int) else some false) (fun k => ?_) (Ev.call (Ev.some (told_f b v hv)) (Ev.pos rfl hR))
      simp only [laws_FnAddedSays.l0]
      rw [if_pos (ln_mid hA), if_pos (by omega), if_pos lo, ro, if_neg v2, if_pos (ln_mid hA), ra, wx, hb]
    rcases hF with e | ⟨e, e1, e2⟩ | ⟨e, e1, e2⟩
    · exact absurd e v2
    · refine step e1 (.inl ⟨e, rfl⟩) ?_
      refine as_l0 t (shp s :: S) o (A0 ++ [okA S s]) A (O0 ++ [v]) O ?_ (lmid_next hO) (by simp [h0]) e2 (by simpa using hn) hl
      rw [hA, e1, if_pos rfl]
      simp
    · refine step e1 (.inr ⟨e, rfl⟩) ?_
      have hA' := lmid_next hA
      cases hq : addedB (if okA S s then shp s :: S else S) t with
      | nil =>
        rw [hq] at hA'
        refine Ev.step (f := fun _ => some true) (fun k => ?_) (Ev.now _)
        simp only [laws_FnAddedSays.l0]
        rw [if_neg (ln_not hA')]
      | cons y ys =>
        rw [hq] at hA'
        rcases e2 with e2 | ⟨o', e2⟩
        ·
          exfalso
          have h1 := congrArg List.length hq
          rw [added_len, List.length_cons] at h1
          rw [e2] at hn
          have h2 : t.length = 0 := Nat.succ.inj hn
          omega
        · have hO' : O = (O0 ++ [v]) ++ 2 :: o' := by rw [hO, e2]; simp
          have hl' : (A0 ++ [okA S s]).length = (O0 ++ [v]).length := by simp [h0]
          refine Ev.step (f := fun _ => some true) (fun k => ?_) (Ev.now _)
          have r2 : rd O ((A0 ++ [okA S s]).length : Int) = 2 := by rw [hl']; exact get_mid hO' _
          have l2 : ((A0 ++ [okA S s]).length : Int) < (O.length : Int) := by rw [hl']; exact ln_mid hO'
          simp only [laws_FnAddedSays.l0]
          rw [if_pos (ln_mid hA'), if_pos (by omega), if_pos l2, if_pos r2]
theorem added_f (x : List ByteArray) (hl : x.length ≤ 20) (hz : ∀ s ∈ x, s.size ≤ 2000) : impl_Added.f x = some (addedB [] (x.map L)) := by
  unfold impl_Added.f
  exact if_pos ⟨hl, hz⟩
theorem added_a : addedB [] (([⟨#[47, 97]⟩] : List ByteArray).map L) = [true] := by decide +kernel
theorem FnAddedSays : StFnAddedSays.Pure := by
  intro x hx hxs
  have hx2 : x.length ≤ 9223372036854775807 := Nat.le_trans hx (by decide)
  obtain ⟨b, hb, hbt⟩ := um_fits1 x hx2
  suffices h : Ev (fun k => laws_FnAddedSays.f k x) true from by
    obtain ⟨k, hk⟩ := h
    exact ⟨k, hk k (Nat.le_refl _)⟩
  unfold laws_FnAddedSays.f
  refine Ev.call hb ?_
  cases b with
  | false => exact Ev.neg (by decide) (Ev.now _)
  | true =>
    have hf : impl_Added.f ([⟨#[47, 97]⟩] : List ByteArray) = some [true] := by
      rw [added_f _ (by decide) (by decide), added_a]
    refine Ev.pos rfl (Ev.call (Ev.some hf) (Ev.pos rfl (Ev.pos (by decide) ?_)))
    refine Ev.step (fun k => by simp only [laws_FnAddedSays.j0]; rw [if_neg (by decide)]) ?_
    by_cases c3 : (x.length : Int) > 20
    · exact Ev.pos c3 (as_true _)
    refine Ev.neg c3 (Ev.call (short_all x hx2) ?_)
    by_cases c4 : (x.all (fun s => decide (s.size ≤ 2000)) && decide (x.length ≤ 60)) = true
    rotate_left
    · rw [Bool.not_eq_true] at c4
      rw [c4]
      exact as_true _
    rw [c4]
    have hl : x.length ≤ 20 := by omega
    have hz : ∀ s ∈ x, s.size ≤ 2000 := fun s hs => of_decide_eq_true (List.all_eq_true.1 (Bool.and_eq_true_iff.1 c4).1 s hs)
    obtain ⟨out, o1, o2, o3⟩ := specAdded_f x hl hz
    have hal : (addedB [] (x.map L)).length = x.length := by rw [added_len, List.length_map]
    refine Ev.step (fun k => by simp only [laws_FnAddedSays.j1]; rw [if_neg (by decide)]) ?_
    refine Ev.call (Ev.some (added_f x hl hz)) (Ev.call o1 (Ev.pos (by rw [hal]) ?_))
    exact as_l0 (x.map L) [] out [] _ [] out rfl rfl rfl o3 (by rw [List.length_map, o2]) (by rw [hal]; omega)
end Go.Proofs.Ytekjffooblcmnaa.Pure
end
section
namespace Go.Proofs.Ytekjffooblcmnaa.fnAddedSays
open Go.ChangeShapes Go.WideShapes Go.ChangeAt Go.RowKit
open Go.ChangeMaps (open_string shut_string)
set_option linter.unusedVariables false
theorem own : ownKnob Try.prog.godebug = none := by kernel_rfl
theorem laidOut : laidOutB Try.prog = true := by kernel_rfl
set_option maxRecDepth 100000 in
theorem lifted (os : Os) (started : os.Started) (H : Type) (enc : TypeId × Value → H) :
    ReturnsInHanded {} Try.checked os 4 .any (Rows.fnAddedSaysSpec.pre6 enc Try.prog Try.f4 Rows.fnAddedSaysRow.domain false) (Rows.fnAddedSaysSpec.post enc Try.prog Try.f4 false true false false) := by
  refine returnsInHanded_of_change_sized (C := Try.checked) own started (by kernel_rfl) Try.func4
    (ChangeSpec.witness6 (enc := enc) (C := Try.checked) false ⟨#[], #[.slice none 0 0], []⟩ 8 (by kernel_rfl) (by kernel_rfl) (by kernel_rfl) (by kernel_rfl)) ?_
  intro W base args ds gs before hval0 hW hcnd hsz0 _
  have hsz : (DataW.weightsEach Try.prog (Try.f4.params.toList ++ Rows.fnAddedSaysSpec.plain.varTypes Try.prog) (ds ++ gs)).all (· ≤ reachBytes) = true := hsz0
  have hval : ∀ (j : Nat) t v, Try.f4.params[j]? = some t → args[j]? = some v → Value.okWide Try.prog W .any base t v := hval0
  have hW' := hW
  obtain ⟨p, q, hA0, hV, rfl, hfz, hnd⟩ := hW
  have hA : DataW.TrodAll enc Try.prog W 0 (fun _ => true) true Try.f4.params.toList args.toList ds p := hA0
  rw [Try.params4] at hA hval hsz
  obtain ⟨v0, vs0, d0, ds0, p0, q0, hargs, rfl, rfl, h0, r0⟩ := trodAll_cons hA
  obtain ⟨rfl, rfl, rfl⟩ := trodAll_nil r0
  obtain rfl : args = #[v0] := by cases args; simp_all
  obtain ⟨rfl, rfl⟩ := trodVars_none hV
  obtain ⟨a0, len0, cap0, rfl⟩ := okWide_slice Try.underlying22 (hval 0 22 v0 rfl rfl)
  have k0 := h0
  have lt0 : ∀ x ∈ p0, x.block < W.heap.size := by obtain ⟨m, hm⟩ := k0; exact DataW.trod_lt m _ _ _ hm
  obtain ⟨l0, el0, C0, ca0, cm0, G0⟩ : ∃ xs, len0 = xs.length ∧ Go.Proofs.YtekjffooblcmnaaW.PrintWords.Kd.C Go.Proofs.YtekjffooblcmnaaW.PrintWords.Kd.string W a0 xs.length xs ∧ xs.length ≤ cap0 ∧ cap0 ≤ maxLen ∧ ∀ x ∈ xs, x.size ≤ maxLen := by
    obtain ⟨fuel, hf⟩ := h0
    have hf' : DataW.trod enc Try.prog W 0 (fun _ => true) true fuel 22 [.slice a0 len0 cap0] = some (d0, p0) := hf
    exact Go.Proofs.YtekjffooblcmnaaOpen.open_kd Try.underlying22 (by kernel_rfl) (fun n cs y h => Go.Proofs.YtekjffooblcmnaaOpen.one_string Try.underlying9 n cs y h) hf'
  subst el0
  clear hA0 hval0 hsz0 hsz
  obtain ⟨k, hk⟩ := Pure.FnAddedSays l0 (Nat.le_trans ca0 cm0) G0
  refine (Go.Proofs.Ytekjffooblcmnaa.Q.laws_FnAddedSays.calls k _ _ l0 true W C0 ca0 hk).mono fun e W' hh => ?_
  obtain ⟨he, bel0⟩ := hh
  have bel : Below W.heap.size W W' := bel0
  subst he
  exact ⟨_, rfl, _, _, _, [], _, [], hW', trodAll_mk1 (shut_bool Try.underlying4 _), (trodAll_cons_mk (Below.trod laidOut (by kernel_rfl) (of_decide_eq_true (by kernel_rfl)) k0 bel lt0) trodAll_mk0), rfl, bel.frame _, fun h => by cases h⟩
theorem over : Rows.fnAddedSaysRow.holds Try.pinned (OpenSpec.ofChange Rows.fnAddedSaysSpec) :=
  OpenClaim.holds_of_wide 4 Try.f4 rfl rfl rfl rfl rfl rfl rfl ⟨rfl, rfl, rfl, rfl, rfl⟩ rfl rfl rfl rfl rfl (by kernel_rfl) Try.func4 (by kernel_rfl)
    (of_decide_eq_true (by kernel_rfl)) (by unfold Func.isWrapper; first | (rw [if_pos (by decide +kernel)]; kernel_rfl) | (rw [if_neg (by decide +kernel)]; exact ⟨rfl, rfl⟩))
    (fun os started H enc _ => lifted os started H enc)
theorem proved : Rows.FnAddedSaysSaid := over
#print axioms proved
end Go.Proofs.Ytekjffooblcmnaa.fnAddedSays
namespace Go.Proofs.Ytekjffooblcmnaa
theorem fnAddedSays_holds : Rows.FnAddedSaysSaid := fnAddedSays.proved
end Go.Proofs.Ytekjffooblcmnaa
end
