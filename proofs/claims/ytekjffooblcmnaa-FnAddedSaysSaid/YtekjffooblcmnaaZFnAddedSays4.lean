/- FnAddedSays: the law's function, called with any arguments, returns true and leaves its arguments as they were: every input, no condition. Part 5 of 8. -/
import Derived.Test.YtekjffooblcmnaaZFnAddedSays3
import Derived.Test.YtekjffooblcmnaaZFnAddedSays2
import Derived.Test.YtekjffooblcmnaaZFnAddedSays1
import Derived.WalkSmall
import Derived.Test.YtekjffooblcmnaaZFnAddedSays0
import Derived.StillTailTactics
import Derived.Deep.Cut
import Derived.Deep.CutBlock
set_option linter.unusedVariables false
set_option linter.unusedSimpArgs false
set_option linter.unusedSectionVars false
section
namespace Go.Proofs.Ytekjffooblcmnaa.Q
set_option linter.unusedSimpArgs false
open Go.RowKit
open Go.Proofs.Ytekjffooblcmnaa.Rt (Nd Dat Tb Ch Str lcp ins put rep kidL)
set_option linter.unusedVariables false
variable [Go.Proofs.Ytekjffooblcmnaa.Rh.Blk]
structure Wf (t : Tb) (n : Nat) : Prop where
  dom : ∀ x, n ≤ x → t x = none
  ref : ∀ b m x, t b = some m → m.par = some x ∨ Ch m x → t x ≠ none
  ne : ∀ b m x, t b = some m → Ch m x → x ≠ b
  kid : ∀ b m x, t b = some m → x ∈ m.kids → ∃ m', t x = some m' ∧ m'.pre ≠ []
def SB (t : Tb) (B : Nat) : Prop := ∀ b m, t b = some m → m.kids.length ≤ B ∧ m.pre.length ≤ 1000000
theorem Wf.cl {t : Tb} {n : Nat} (W : Wf t n) {m : Nat} (h : n ≤ m) : Cl t m := fun b nd x hb hx e => by
  have hm := W.dom m h
  rcases hx with rfl | hx
  · rw [e, hm] at hb; cases hb
  · exact W.ref b nd x hb hx (by rw [e]; exact hm)
theorem Wf.fit {t : Tb} {n B : Nat} (W : Wf t n) (S : SB t B) (hB : B ≤ 1000000) : Fit t n (n + 1) where
  kids b nd hb := Nat.le_trans (S b nd hb).1 hB
  pre b nd hb := (S b nd hb).2
  f1 := W.dom n (Nat.le_refl _)
  f2 := W.dom (n + 1) (Nat.le_succ _)
  ne := by omega
  c1 := W.cl (Nat.le_refl _)
  c2 := W.cl (Nat.le_succ _)
  ch b nd x hb hx := ⟨W.ne b nd x hb hx, W.ref b nd x hb (.inr hx)⟩
  kid b nd x hb hx := W.kid b nd x hb hx
theorem put_at (t : Tb) (b : Nat) (n : Nd) (x : Nat) : put t b n x = if x = b then some n else t x := rfl
theorem ins_bad : ∀ (f : Nat) {t : Tb} {cur : Nat} {s : Str} {k : Nat} {h : Option Dat} {n1 n2 : Nat} {t' : Tb}, ins f t cur s k h n1 n2 = some (t', true) → t' = t ∧ h.isSome = true
  | 0, t, cur, s, k, h, n1, n2, t', e => by cases e
  | f + 1, t, cur, s, k, h, n1, n2, t', e => by
    unfold Go.Proofs.Ytekjffooblcmnaa.Rt.ins at e
    cases hc : t cur with
    | none => rw [hc] at e; cases e
    | some nd =>
      rw [hc] at e
      simp only at e
      split at e
      · cases e
      · split at e
        · split at e <;> cases e
        · split at e
          · split at e
            · cases e
            · split at e
              · exact ins_bad f e
              · cases e
          · split at e
            · next hh =>
              cases e
              exact ⟨rfl, (Bool.and_eq_true_iff.1 hh).2⟩
            · cases e
theorem lcp_take {s p : Str} (h : lcp s p < p.length) : p.drop (lcp s p) ≠ [] := fun e => by
  have := congrArg List.length e
  rw [List.length_drop] at this
  simp at this
  omega
theorem Wf.set {t : Tb} {n : Nat} (W : Wf t n) {cur : Nat} {nd nd' : Nd} (hc : t cur = some nd) (h1 : nd'.par = nd.par) (h2 : nd'.kids = nd.kids) (h3 : nd'.pc = nd.pc) (h4 : nd'.ac = nd.ac) (h5 : nd.pre ≠ [] → nd'.pre ≠ []) : Wf (put t cur nd') n where
  dom x hx := by
    rw [put_at]
    by_cases e : x = cur
    · rw [e] at hx; rw [W.dom cur hx] at hc; cases hc
    · rw [if_neg e]; exact W.dom x hx
  ref b m x hb hx := by
    rw [put_at] at hb ⊢
    by_cases e : x = cur
    · rw [if_pos e]; simp
    · rw [if_neg e]
      by_cases eb : b = cur
      · rw [if_pos eb] at hb; cases hb
        refine W.ref cur nd x hc ?_
        unfold Go.Proofs.Ytekjffooblcmnaa.Rt.Ch at hx ⊢
        rwa [h1, h2, h3, h4] at hx
      · rw [if_neg eb] at hb
        exact W.ref b m x hb hx
  ne b m x hb hx := by
    rw [put_at] at hb
    by_cases eb : b = cur
    · rw [if_pos eb] at hb; cases hb
      unfold Go.Proofs.Ytekjffooblcmnaa.Rt.Ch at hx
      rw [h2, h3, h4] at hx
      rw [eb]
      exact W.ne cur nd x hc hx
    · rw [if_neg eb] at hb
      exact W.ne b m x hb hx
  kid b m x hb hx := by
    have key : ∃ m', t x = some m' ∧ m'.pre ≠ [] := by
      rw [put_at] at hb
      by_cases eb : b = cur
      · rw [if_pos eb] at hb; cases hb
        rw [h2] at hx
        exact W.kid cur nd x hc hx
      · rw [if_neg eb] at hb
        exact W.kid b m x hb hx
    obtain ⟨m', k1, k2⟩ := key
    rw [put_at]
    by_cases e : x = cur
    · rw [if_pos e]
      rw [e, hc] at k1; cases k1
      exact ⟨nd', rfl, h5 k2⟩
    · rw [if_neg e]; exact ⟨m', k1, k2⟩
theorem Wf.leaf {t : Tb} {n : Nat} (W : Wf t n) {cur n1 : Nat} {nd nd' N : Nd} (hn : n ≤ n1) (hc : t cur = some nd) (p1 : N.par = some cur) (p2 : N.kids = []) (p3 : N.pc = none) (p4 : N.ac = none) (p5 : N.pre ≠ []) (h1 : nd'.par = nd.par) (h2 : ∀ x, Ch nd' x → Ch nd x ∨ x = n1) (h5 : nd'.pre = nd.pre) (h6 : ∀ x ∈ nd'.kids, x ∈ nd.kids ∨ x = n1) : Wf (put (put t n1 N) cur nd') (n1 + 1) := by
  have hn1 : t n1 = none := W.dom n1 (by omega)
  have hcn : cur ≠ n1 := fun e => by rw [e, hn1] at hc; cases hc
  have hT : ∀ x, put (put t n1 N) cur nd' x = if x = cur then some nd' else if x = n1 then some N else t x := fun x => rfl
  have up : ∀ x, t x ≠ none ∨ x = n1 → put (put t n1 N) cur nd' x ≠ none := fun x hx => by
    rw [hT]
    split
    · simp
    · split
      · simp
      · exact hx.resolve_right ‹_›
  have chN : ∀ x, ¬ Ch N x := fun x hx => by
    unfold Go.Proofs.Ytekjffooblcmnaa.Rt.Ch at hx
    rw [p2, p3, p4] at hx
    rcases hx with hx | hx | hx <;> cases hx
  refine ⟨fun x hx => ?_, fun b m x hb hx => ?_, fun b m x hb hx => ?_, fun b m x hb hx => ?_⟩
  · rw [hT, if_neg, if_neg (by omega)]
    · exact W.dom x (by omega)
    · intro e
      rw [e] at hx
      rw [W.dom cur (by omega)] at hc; cases hc
  · rw [hT] at hb
    refine up x ?_
    split at hb
    · cases hb
      rcases hx with hx | hx
      · exact .inl (W.ref cur nd x hc (.inl (by rw [← h1]; exact hx)))
      · exact (h2 x hx).imp (fun q => W.ref cur nd x hc (.inr q)) id
    · split at hb
      · cases hb
        rcases hx with hx | hx
        · rw [p1] at hx; cases hx
          exact .inl (by rw [hc]; simp)
        · exact absurd hx (chN x)
      · exact .inl (W.ref b m x hb hx)
  · rw [hT] at hb
    split at hb
    · next e =>
      cases hb
      rcases h2 x hx with q | q
      · rw [e]; exact W.ne cur nd x hc q
      · rw [q, e]; exact hcn.symm
    · split at hb
      · cases hb
        exact absurd hx (chN x)
      · exact W.ne b m x hb hx
  · rw [hT] at hb
    have key : (∃ m', t x = some m' ∧ m'.pre ≠ []) ∨ x = n1 := by
      split at hb
      · cases hb
        exact (h6 x hx).imp (fun q => W.kid cur nd x hc q) id
      · split at hb
        · cases hb
          rw [p2] at hx; cases hx
        · exact .inl (W.kid b m x hb hx)
    rw [hT]
    rcases key with ⟨m', k1, k2⟩ | e
    · by_cases e : x = cur
      · rw [if_pos e]
        rw [e, hc] at k1; cases k1
        exact ⟨nd', rfl, by rw [h5]; exact k2⟩
      · rw [if_neg e, if_neg (fun q => by rw [q, hn1] at k1; cases k1)]
        exact ⟨m', k1, k2⟩
    · rw [if_neg (by rw [e]; exact hcn.symm), if_pos e]
      exact ⟨N, rfl, p5⟩
theorem Wf.part {t : Tb} {n : Nat} (W : Wf t n) {cur : Nat} {nd N C : Nd} (hc : t cur = some nd) (p1 : N.par = some cur) (p2 : ∀ x, Ch N x ↔ Ch nd x) (p3 : N.kids = nd.kids) (p5 : N.pre ≠ []) (h1 : C.par = nd.par) (h2 : C.kids = [n]) (h3 : C.pc = none) (h4 : C.ac = none) (h5 : C.pre ≠ []) : Wf (put (put (rep t nd n) n N) cur C) (n + 1) := by
  have hn1 : t n = none := W.dom n (Nat.le_refl _)
  have hcn : cur ≠ n := fun e => by rw [e, hn1] at hc; cases hc
  have hT : ∀ x, put (put (rep t nd n) n N) cur C x = if x = cur then some C else if x = n then some N else rep t nd n x := fun x => rfl
  have rp : ∀ x m, rep t nd n x = some m → ∃ m0, t x = some m0 ∧ m.kids = m0.kids ∧ m.pc = m0.pc ∧ m.ac = m0.ac ∧ m.pre = m0.pre ∧ (m.par = m0.par ∨ m.par = some n) := fun x m hx => by
    unfold Go.Proofs.Ytekjffooblcmnaa.Rt.rep at hx
    split at hx
    · obtain ⟨m0, hm0, e⟩ := Option.map_eq_some_iff.1 hx
      subst e
      exact ⟨m0, hm0, rfl, rfl, rfl, rfl, .inr rfl⟩
    · exact ⟨m, hx, rfl, rfl, rfl, rfl, .inl rfl⟩
  have rn : ∀ x m0, t x = some m0 → ∃ m, rep t nd n x = some m ∧ m.pre = m0.pre := fun x m0 hx => by
    unfold Go.Proofs.Ytekjffooblcmnaa.Rt.rep
    split
    · rw [hx]; exact ⟨_, rfl, rfl⟩
    · exact ⟨m0, hx, rfl⟩
  have up : ∀ x, t x ≠ none ∨ x = n → put (put (rep t nd n) n N) cur C x ≠ none := fun x hx => by
    rw [hT]
    split
    · simp
    · split
      · simp
      · next e =>
        have := hx.resolve_right e
        cases hq : t x with
        | none => exact absurd hq this
        | some m0 =>
          obtain ⟨m, hm, _⟩ := rn x m0 hq
          rw [hm]; simp
  refine ⟨fun x hx => ?_, fun b m x hb hx => ?_, fun b m x hb hx => ?_, fun b m x hb hx => ?_⟩
  · rw [hT, if_neg, if_neg (by omega)]
    · cases hq : rep t nd n x with
      | none => rfl
      | some m =>
        obtain ⟨m0, hm0, _⟩ := rp x m hq
        rw [W.dom x (by omega)] at hm0; cases hm0
    · intro e
      rw [e] at hx
      rw [W.dom cur (by omega)] at hc; cases hc
  · rw [hT] at hb
    refine up x ?_
    split at hb
    · cases hb
      rcases hx with hx | hx
      · exact .inl (W.ref cur nd x hc (.inl (by rw [← h1]; exact hx)))
      · unfold Go.Proofs.Ytekjffooblcmnaa.Rt.Ch at hx
        rw [h2, h3, h4] at hx
        rcases hx with hx | hx | hx
        · exact .inr (List.mem_singleton.1 hx)
        · cases hx
        · cases hx
    · split at hb
      · cases hb
        rcases hx with hx | hx
        · rw [p1] at hx; cases hx
          exact .inl (by rw [hc]; simp)
        · exact .inl (W.ref cur nd x hc (.inr ((p2 x).1 hx)))
      · obtain ⟨m0, k1, k2, k3, k4, _, k5⟩ := rp b m hb
        rcases hx with hx | hx
        · rcases k5 with k5 | k5
          · exact .inl (W.ref b m0 x k1 (.inl (by rw [← k5]; exact hx)))
          · rw [k5] at hx; cases hx; exact .inr rfl
        · unfold Go.Proofs.Ytekjffooblcmnaa.Rt.Ch at hx
          rw [k2, k3, k4] at hx
          exact .inl (W.ref b m0 x k1 (.inr hx))
  · rw [hT] at hb
    split at hb
    · next e =>
      cases hb
      unfold Go.Proofs.Ytekjffooblcmnaa.Rt.Ch at hx
      rw [h2, h3, h4] at hx
      rcases hx with hx | hx | hx
      · rw [List.mem_singleton.1 hx, e]; exact hcn.symm
      · cases hx
      · cases hx
    · split at hb
      · next e =>
        cases hb
        intro q
        exact W.ref cur nd x hc (.inr ((p2 x).1 hx)) (by rw [q, e]; exact hn1)
      · obtain ⟨m0, k1, k2, k3, k4, _⟩ := rp b m hb
        unfold Go.Proofs.Ytekjffooblcmnaa.Rt.Ch at hx
        rw [k2, k3, k4] at hx
        exact W.ne b m0 x k1 hx
  · rw [hT] at hb
    have key : (∃ m', t x = some m' ∧ m'.pre ≠ []) ∨ x = n := by
      split at hb
      · cases hb
        rw [h2] at hx
        exact .inr (List.mem_singleton.1 hx)
      · split at hb
        · cases hb
          rw [p3] at hx
          exact .inl (W.kid cur nd x hc hx)
        · obtain ⟨m0, k1, k2, _⟩ := rp b m hb
          rw [k2] at hx
          exact .inl (W.kid b m0 x k1 hx)
    rw [hT]
    rcases key with ⟨m', k1, k2⟩ | e
    · by_cases e : x = cur
      · rw [if_pos e]; exact ⟨C, rfl, h5⟩
      · rw [if_neg e, if_neg (fun q => by rw [q, hn1] at k1; cases k1)]
        obtain ⟨m, hm, hp⟩ := rn x m' k1
        exact ⟨m, hm, by rw [hp]; exact k2⟩
    · rw [if_neg (by rw [e]; exact hcn.symm), if_pos e]
      exact ⟨N, rfl, p5⟩
theorem Wf.more {t : Tb} {n m : Nat} (W : Wf t n) (h : n ≤ m) : Wf t m := ⟨fun x hx => W.dom x (Nat.le_trans h hx), W.ref, W.ne, W.kid⟩
theorem SB.mono {t : Tb} {B B' : Nat} (S : SB t B) (h : B ≤ B') : SB t B' := fun b m hb => ⟨Nat.le_trans (S b m hb).1 h, (S b m hb).2⟩
theorem SB.put {t : Tb} {B : Nat} (S : SB t B) {b : Nat} {m : Nd} (h1 : m.kids.length ≤ B) (h2 : m.pre.length ≤ 1000000) : SB (put t b m) B := fun x mx hx => by
  rw [put_at] at hx
  split at hx
  · cases hx; exact ⟨h1, h2⟩
  · exact S x mx hx
theorem SB.rep {t : Tb} {B : Nat} (S : SB t B) (nd : Nd) (p : Nat) : SB (rep t nd p) B := fun x mx hx => by
  unfold Go.Proofs.Ytekjffooblcmnaa.Rt.rep at hx
  split at hx
  · obtain ⟨m0, hm0, e⟩ := Option.map_eq_some_iff.1 hx
    subst e
    exact S x m0 hm0
  · exact S x mx hx
theorem some_put {t : Tb} {b : Nat} {m : Nd} {x : Nat} (h : t x ≠ none) : put t b m x ≠ none := by
  rw [put_at]
  split
  · simp
  · exact h
theorem some_rep {t : Tb} {nd : Nd} {p x : Nat} (h : t x ≠ none) : rep t nd p x ≠ none := by
  unfold Go.Proofs.Ytekjffooblcmnaa.Rt.rep
  split
  · cases hq : t x with
    | none => exact absurd hq h
    | some m => simp
  · exact h
theorem ins_wf : ∀ (f : Nat) {t : Tb} {n B : Nat} {cur : Nat} {s : Str} {k : Nat} {h : Option Dat} {t' : Tb} {bad : Bool}, ins f t cur s k h n (n + 1) = some (t', bad) → Wf t n → SB t B → 2 ≤ B → 0 < s.length → s.length ≤ 1000000 → Wf t' (n + 2) ∧ SB t' (B + 1) ∧ ∀ x, t x ≠ none → t' x ≠ none
  | 0, t, n, B, cur, s, k, h, t', bad, e, W, S, h2, hs, hm => by cases e
  | f + 1, t, n, B, cur, s, k, h, t', bad, e, W, S, h2, hs, hm => by
    unfold Go.Proofs.Ytekjffooblcmnaa.Rt.ins at e
    cases hc : t cur with
    | none => rw [hc] at e; cases e
    | some nd =>
      rw [hc] at e
      simp only at e
      have hS := S cur nd hc
      obtain ⟨i, hi⟩ : ∃ i, i = lcp s nd.pre := ⟨_, rfl⟩
      have hle := lcp_le s nd.pre
      rw [← hi] at e hle
      split at e
      · cases e
        refine ⟨(W.set (nd' := { nd with pre := s, kind := if h.isSome then k else nd.kind, d := if h.isSome then h else nd.d }) hc rfl rfl rfl rfl (fun _ e => by rw [show s = [] from e] at hs; exact absurd hs (by decide))).more (Nat.le_add_right _ _), (S.mono (Nat.le_succ _)).put (Nat.le_succ_of_le hS.1) hm, fun x hx => some_put hx⟩
      · next h0 =>
        split at e
        · next h1 =>
          have pd : nd.pre.drop i ≠ [] := fun e => by
            have := congrArg List.length e
            rw [List.length_drop] at this
            simp at this
            omega
          have pt : nd.pre.take i ≠ [] := fun e => by
            have := congrArg List.length e
            rw [List.length_take, Nat.min_eq_left (by omega)] at this
            exact h0 this
          have ld : (nd.pre.drop i).length ≤ 1000000 := by rw [List.length_drop]; have := hS.2; omega
          have lt : (nd.pre.take i).length ≤ 1000000 := by rw [List.length_take]; have := hS.2; omega
          split at e
          · cases e
            refine ⟨(W.part hc (N := { nd with pre := nd.pre.drop i, par := some cur }) (C := ⟨k, nd.pre.take i, nd.par, [n], none, none, h⟩) rfl (fun x => Iff.rfl) rfl pd rfl rfl rfl rfl pt).more (Nat.le_succ _), (((S.mono (Nat.le_succ _)).rep nd n).put (m := { nd with pre := nd.pre.drop i, par := some cur }) (Nat.le_succ_of_le hS.1) ld).put (m := ⟨k, nd.pre.take i, nd.par, [n], none, none, h⟩) (by show 1 ≤ B + 1; omega) lt, fun x hx => some_put (some_put (some_rep hx))⟩
          · next h3 =>
            cases e
            have W1 := W.part hc (N := { nd with pre := nd.pre.drop i, par := some cur }) (C := ⟨0, nd.pre.take i, nd.par, [n], none, none, none⟩) rfl (fun x => Iff.rfl) rfl pd rfl rfl rfl rfl pt
            have W2 := W1.leaf (cur := cur) (n1 := n + 1) (nd := ⟨0, nd.pre.take i, nd.par, [n], none, none, none⟩) (nd' := ⟨0, nd.pre.take i, nd.par, [n, n + 1], none, none, none⟩) (N := ⟨k, s.drop i, some cur, [], none, none, h⟩) (Nat.le_refl _) (if_pos rfl) rfl rfl rfl rfl (fun e => by
              have := congrArg List.length e
              rw [List.length_drop] at this
              simp at this
              omega) rfl (fun x hx => by
              rcases hx with hx | hx | hx
              · have hx : x ∈ [n, n + 1] := hx
                rcases List.mem_cons.1 hx with e | e
                · exact .inl (.inl (by rw [e]; exact List.mem_singleton.2 rfl))
                · exact .inr (List.mem_singleton.1 e)
              · cases hx
              · cases hx) rfl (fun x hx => by
              rcases List.mem_cons.1 hx with e | e
              · exact .inl (by rw [e]; exact List.mem_singleton.2 rfl)
              · exact .inr (List.mem_singleton.1 e))
            rw [part_table] at W2
            refine ⟨W2, ((((S.mono (Nat.le_succ _)).rep nd n).put (m := { nd with pre := nd.pre.drop i, par := some cur }) (Nat.le_succ_of_le hS.1) ld).put (m := ⟨k, s.drop i, some cur, [], none, none, h⟩) (Nat.zero_le _) (by show (s.drop i).length ≤ _; rw [List.length_drop]; omega)).put (m := ⟨0, nd.pre.take i, nd.par, [n, n + 1], none, none, none⟩) (by show 2 ≤ B + 1; omega) lt, fun x hx => some_put (some_put (some_put (some_rep hx)))⟩
        · next h1 =>
          split at e
          · next h3 =>
            have hdl : (s.drop i).length = s.length - i := List.length_drop ..
            have pd : s.drop i ≠ [] := fun e => by rw [e] at hdl; simp at hdl; omega
            split at e
            · cases e
            · next c hcc =>
              split at e
              · exact ins_wf f e W S h2 (by omega) (by omega)
              · cases e
                refine ⟨(W.leaf (nd := nd) (N := ⟨k, s.drop i, some cur, [], none, none, h⟩) (nd' := if k = 0 then { nd with kids := nd.kids ++ [n] } else if k = 1 then { nd with pc := some n } else { nd with ac := some n }) (Nat.le_refl _) hc rfl rfl rfl rfl pd (by split <;> (try rfl); split <;> rfl) (fun x hx => ?_) (by split <;> (try rfl); split <;> rfl) (fun x hx => ?_)).more (by omega), ((S.mono (Nat.le_succ _)).put (m := ⟨k, s.drop i, some cur, [], none, none, h⟩) (Nat.zero_le _) (by show (s.drop i).length ≤ _; omega)).put ?_ ?_, fun x hx => some_put (some_put hx)⟩
                · split at hx
                  · rcases hx with hx | hx | hx
                    · rcases List.mem_append.1 hx with q | q
                      · exact .inl (.inl q)
                      · exact .inr (List.mem_singleton.1 q)
                    · exact .inl (.inr (.inl hx))
                    · exact .inl (.inr (.inr hx))
                  · split at hx
                    · rcases hx with hx | hx | hx
                      · exact .inl (.inl hx)
                      · exact .inr (Option.some.inj hx).symm
                      · exact .inl (.inr (.inr hx))
                    · rcases hx with hx | hx | hx
                      · exact .inl (.inl hx)
                      · exact .inl (.inr (.inl hx))
                      · exact .inr (Option.some.inj hx).symm
                · split at hx
                  · exact (List.mem_append.1 hx).imp id (fun q => List.mem_singleton.1 q)
                  · split at hx <;> exact .inl hx
                · split
                  · show (nd.kids ++ [n]).length ≤ _
                    rw [List.length_append]
                    exact Nat.succ_le_succ hS.1
                  · split <;> exact Nat.le_succ_of_le hS.1
                · split
                  · exact hS.2
                  · split <;> exact hS.2
          · split at e
            · cases e
              exact ⟨W.more (by omega), S.mono (Nat.le_succ _), fun x hx => hx⟩
            · cases e
              refine ⟨(W.set (nd' := if h.isSome then { nd with d := h } else nd) hc (by split <;> rfl) (by split <;> rfl) (by split <;> rfl) (by split <;> rfl) (fun h => by split <;> exact h)).more (by omega), (S.mono (Nat.le_succ _)).put (by split <;> exact Nat.le_succ_of_le hS.1) (by split <;> exact hS.2), fun x hx => some_put hx⟩
end Go.Proofs.Ytekjffooblcmnaa.Q
end
section
namespace Go.Proofs.Ytekjffooblcmnaa.Q
set_option linter.unusedSimpArgs false
open Go.RowKit Go.Proofs.YtekjffooblcmnaaW.PrintWords Go.Proofs.YtekjffooblcmnaaW.PrintLast Go.Proofs.YtekjffooblcmnaaW.PrintMore
open Go.Proofs.YtekjffooblcmnaaKit (L size_L)
open Go.Proofs.Ytekjffooblcmnaa.Ob
open Go.Proofs.Ytekjffooblcmnaa.Rh (ptr NR HT Own Srt ncell Got DR)
open Go.Proofs.Ytekjffooblcmnaa.Rt (Nd Dat Tb Ch Str lcp ins put rep kidL)
set_option linter.unusedVariables false
section
variable [Go.Proofs.Ytekjffooblcmnaa.Rh.Blk]
structure RS (w : World) (gr : Nat) (t : Tb) (n B : Nat) (φ : Nat → Nat) (K : Nat → Value) : Prop where
  ht : HT w t φ K
  wf : Wf t n
  sb : SB t B
  root : t 0 ≠ none
  cell : ∃ C f, w.heap[gr]? = some (.cells C 54 f) ∧ C[1]? = some (.pointer (some ⟨φ 0, 0, none⟩))
section
variable {w w' : World} {gr n B : Nat} {t t' : Tb} {φ φ' : Nat → Nat} {K K' : Nat → Value}
theorem RS.lt (h : RS w gr t n B φ K) : gr < w.heap.size := by
  obtain ⟨C, f, hg, _⟩ := h.cell
  exact (Array.getElem?_eq_some_iff.1 hg).1
theorem RS.below (h : RS w gr t n B φ K) (hb : Below w.heap.size w w') : RS w' gr t n B φ K :=
  ⟨h.ht.below hb, h.wf, h.sb, h.root, by
    obtain ⟨C, f, hg, hc⟩ := h.cell
    exact ⟨C, f, (hb.block gr h.lt).trans hg, hc⟩⟩
theorem RS.more (h : RS w gr t n B φ K) {n' B' : Nat} (hn : n ≤ n') (hB : B ≤ B') : RS w gr t n' B' φ K := ⟨h.ht, h.wf.more hn, h.sb.mono hB, h.root, h.cell⟩
theorem RS.at (h : RS w gr t n B φ K) : w.cell? ⟨gr, 1, none⟩ = some (.pointer (some ⟨φ 0, 0, none⟩)) := by
  obtain ⟨C, f, hg, hc⟩ := h.cell
  unfold World.cell?
  rw [hg]
  simpa using hc
theorem RS.got (h : RS w gr t n B φ K) {n' B' : Nat} (g : Got w w' t t' φ φ' K K') (h1 : Wf t' n') (h2 : SB t' B') (h3 : t' 0 ≠ none) : RS w' gr t' n' B' φ' K' :=
  ⟨g.ht, h1, h2, h3, by
    obtain ⟨C, f, hg, hc⟩ := h.cell
    refine ⟨C, f, (g.on.block gr h.lt fun e => ?_).trans hg, by rw [g.same 0 h.root]; exact hc⟩
    obtain ⟨C', e', f', k1, k2⟩ := Own.srt h.ht e
    rw [hg] at k1
    cases k1
    rcases k2 with k2 | k2 <;> cases k2⟩
theorem insert_step (R : RS w gr t n B φ K) (hB : 2 ≤ B) (hB2 : B ≤ 1000000) (s pp : ByteArray) (hs0 : 0 < s.size) (hsz : s.size ≤ 1000000) (hpp : pp.size ≤ 1000000) (k : Nat) (hk3 : k = 0 ∨ k = 1 ∨ k = 2) (o : Option Dat) (H P : Option Addr) (hn hc pn pc : Nat) (hd : DR w o pp (.slice P pn pc) (.slice H hn hc)) (f : Nat) {t1 : Tb} {bad : Bool} (hi : ins f t 0 (L s) k o n (n + 1) = some (t1, bad)) :
    Calls Try.prog 22 #[.pointer (some ⟨gr, 0, none⟩), .string s, .slice H hn hc, .int .u8 (k : Int), .string pp, .slice P pn pc] w (fun e w' => (bad = true ∧ (∃ u pv, e = .panicked [{ v := .iface u pv, recovered := false }]) ∧ Below w.heap.size w w' ∧ t1 = t) ∨ (bad = false ∧ e = .returned (.tuple #[]) ∧ (∀ x, t x ≠ none → t1 x ≠ none) ∧ ∃ φ' K', RS w' gr t1 (n + 2) (B + 1) φ' K' ∧ Got w w' t t1 φ φ' K K')) := by
  obtain ⟨W1, S1, U1⟩ := ins_wf f hi R.wf R.sb hB (by rw [← size_L]; exact hs0) (by rw [← size_L]; exact hsz)
  refine (insert_calls w R.ht (R.wf.fit R.sb hB2) (by
    cases hq : t 0 with
    | none => exact absurd hq R.root
    | some nd => exact ⟨nd, rfl⟩) gr R.at s pp hs0 hsz hpp k hk3 o H P hn hc pn pc hd f bad hi).mono ?_
  rintro e w' (⟨rfl, h1, h2⟩ | ⟨rfl, h1, φ', K', h2⟩)
  · exact .inl ⟨rfl, h1, h2, (ins_bad f hi).1⟩
  · exact .inr ⟨rfl, h1, U1, φ', K', R.got h2 W1 S1 (U1 0 R.root), h2⟩
end
end
def sK : Kd ByteArray := Kd.scalar (fun b => Value.string b) (fun _ => rfl)
theorem infoStr : (Try.prog.info? 9).map (fun i => (i.zero, i.size, i.bytes)) = some (some (.string ByteArray.empty), 1, 16) := by kernel_rfl
section
variable {ops : Array Oper} {rest : List Oper} {o : Oper} {a : Act} {Q : Exit → Act → World → Prop} {W : World}
theorem app_SV (hgd : o.guard = none) (s x : Operand) (ho : o.op = .call { callee := .builtin .append, args := #[s, x], argTypes := #[22, 22] })
    (v : Value) (l : List ByteArray) (b : ByteArray) (A : Option Addr) (c : Nat) (hs : a.eval s = v) (hx : a.eval x = .slice A 1 c) (hv : W.ownsRow 0 9 1 v l.length (encs Value.string l)) (hm : Kd.C sK W A 1 [b]) (hl : l.length ≤ 1000000)
    (h : ∀ v1 W1, W1.ownsRow 0 9 1 v1 (l ++ [b]).length (encs Value.string (l ++ [b])) → Only (fun j => v.ownBlock = some j) W W1 → (v1.ownBlock = v.ownBlock ∨ ∃ b, v1.ownBlock = some b ∧ W.heap.size ≤ b) → wpList Try.prog ops Q rest (a.put o.dst v1) W1) : wpList Try.prog ops Q (o :: rest) a W := by
  refine Kd.R_append_rows sK (w0 := W) 0 hgd s x 22 9 (.string ByteArray.empty) 16 ho Try.underlying22 infoStr rfl (by decide) (by omega) v l [b] A 1 c (fun _ => True) (fun _ => False) hs hx (Kd.R_of_own hv (fun _ _ => trivial)) hm (fun _ _ h => h) (fun _ h => h.elim) (fun _ _ => trivial) (Below.refl _ _) (Nat.zero_le _) (by omega) ?_
  intro v1 w1 hr _ hg hat
  refine h v1 w1 ?_ (Only.of_grown hg) hat
  obtain ⟨h1, h2⟩ := Kd.own_of_R hr
  refine ⟨h1, h2.imp id ?_⟩
  rintro ⟨g, cap, cur, e, _, r⟩
  exact ⟨g, cap, cur, e, Nat.zero_le _, r⟩
end
theorem one_S {w : World} {g : Nat} {b : ByteArray} (h : w.cell? ⟨g, 0, none⟩ = some (.string b)) : Kd.C sK w (some ⟨g, 0, none⟩) 1 [b] := by
  refine Kd.C_of_reads (enc := Value.string) (d := b) (h1 := fun _ => rfl) ⟨rfl, by omega, fun _ => ⟨_, rfl, fun j hj => ?_⟩⟩
  obtain rfl : j = 0 := by omega
  exact h
theorem strs_some {w : World} {kv : Value} {l : List ByteArray} {b : ByteArray} (h : w.ownsRow 0 9 1 kv (l ++ [b]).length (encs Value.string (l ++ [b]))) : ∃ g c, kv = .slice (some ⟨g, 0, none⟩) (l ++ [b]).length c := by
  rcases id h.2 with ⟨e, hn⟩ | ⟨g, cap, cur, e, _⟩
  · simp at hn
  · exact ⟨g, cap, e⟩
end Go.Proofs.Ytekjffooblcmnaa.Q
end
section
namespace Go.Proofs.Ytekjffooblcmnaa.Q
open Go.RowKit Go.Proofs.YtekjffooblcmnaaW.PrintWords Go.Proofs.YtekjffooblcmnaaW.PrintLast Go.Proofs.YtekjffooblcmnaaW.PrintMore
open Go.Proofs.YtekjffooblcmnaaKit (L size_L)
open Go.Proofs.Ytekjffooblcmnaa.Rt (Str sp)
set_option linter.unusedVariables false
set_option linter.unusedSimpArgs false
def segV (s : Str) : Str := s.takeWhile (· != 47)
def okr : UInt8 → Str → Bool
  | _, [] => true
  | p, c :: r => (if c = 58 then !(segV r).isEmpty && (segV r).all (fun x => !sp x) else if c = 42 then !r.isEmpty && p == 47 && r.all (· != 47) else true) && okr c r
def okT (s : Str) : Bool := s.head? == some 47 && okr 0 s
def pvB (s : Str) (i : Nat) : UInt8 := if i = 0 then 0 else (s[i - 1]?).getD 0
theorem pvB_succ {s : Str} {i : Nat} {c : UInt8} (h : s[i]? = some c) : pvB s (i + 1) = c := by
  unfold pvB
  rw [if_neg (by omega), Nat.add_sub_cancel, h]
  rfl
theorem okr_at {s : Str} {i : Nat} {c : UInt8} (h : s[i]? = some c) : okr (pvB s i) (s.drop i) = ((if c = 58 then !(segV (s.drop (i + 1))).isEmpty && (segV (s.drop (i + 1))).all (fun x => !sp x) else if c = 42 then !(s.drop (i + 1)).isEmpty && pvB s i == 47 && (s.drop (i + 1)).all (· != 47) else true) && okr (pvB s (i + 1)) (s.drop (i + 1))) := by
  obtain ⟨h1, e1⟩ := List.getElem?_eq_some_iff.1 h
  rw [List.drop_eq_getElem_cons h1, e1, pvB_succ h]
  rfl
theorem segV_at {s : Str} {j : Nat} {c : UInt8} (h : s[j]? = some c) : segV (s.drop j) = if c = 47 then [] else c :: segV (s.drop (j + 1)) := by
  obtain ⟨h1, e1⟩ := List.getElem?_eq_some_iff.1 h
  rw [List.drop_eq_getElem_cons h1, e1]
  unfold segV
  rw [List.takeWhile_cons]
  by_cases hc : c = 47
  · simp [hc]
  · simp [hc]
theorem all_at {s : Str} {j : Nat} {c : UInt8} (h : s[j]? = some c) (p : UInt8 → Bool) : (s.drop j).all p = (p c && (s.drop (j + 1)).all p) := by
  obtain ⟨h1, e1⟩ := List.getElem?_eq_some_iff.1 h
  rw [List.drop_eq_getElem_cons h1, e1]
  rfl
theorem getV {s : ByteArray} {j : Nat} (h : j < s.size) : (L s)[j]? = some (s[j]'h) := by
  show s.data.toList[j]? = _
  rw [Array.getElem?_toList]
  exact Array.getElem?_eq_getElem h
theorem u8_eq (a b : UInt8) : ((a.toNat : Int) == (b.toNat : Int)) = (a == b) := by
  by_cases h : a = b
  · subst h; rw [beq_self_eq_true, beq_self_eq_true]
  · rw [beq_eq_false_iff_ne.2 h, beq_eq_false_iff_ne.2 (fun e => h (UInt8.toNat_inj.1 (Int.ofNat_inj.1 e)))]
def VPost (w : World) (s : ByteArray) (e : Ending) (w' : World) : Prop := Below w.heap.size w w' ∧ ((okT (L s) = true ∧ e = .returned (.tuple #[])) ∨ (okT (L s) = false ∧ ∃ u pv, e = .panicked [{ v := .iface u pv, recovered := false }]))
set_option maxHeartbeats 16000000 in
set_option maxRecDepth 1000000 in
theorem cpv_calls (w : World) (s : ByteArray) (hsz : s.size ≤ 1000000) : Calls Try.prog 21 #[.string s] w (VPost w s) := by
  have HB := Aside0.mk (Below.refl w.heap.size w)
  have HSZ := Aside0.mk hsz
  clear hsz
  go_enter Try.func21, Try.ntmps21
  by_cases he : s = ByteArray.empty
  · subst he
    have hE : ByteArray.empty.toList.isEmpty = true := by
      rw [show ByteArray.empty.toList = L ByteArray.empty from Go.Proofs.YtekjffooblcmnaaKit.tl _]
      rfl
    go_wp2
    exact ⟨rfl, HB.out, .inr ⟨rfl, _, _, rfl⟩⟩
  have h0 : 0 < s.size := by
    rcases Nat.eq_zero_or_pos s.size with h | h
    · exact absurd (ByteArray.size_eq_zero_iff.1 h) he
    · exact h
  have hE : s.toList.isEmpty = false := by
    cases hq : s.toList.isEmpty with
    | false => rfl
    | true =>
      have h1 : s.toList.length = 0 := by rw [List.isEmpty_iff.1 hq]; rfl
      rw [show s.toList = L s from Go.Proofs.YtekjffooblcmnaaKit.tl _, ← size_L] at h1
      omega
  clear he
  by_cases h47 : (s[0]'h0) = 47
  rotate_left
  · have hb : ((((s[0]'h0).toNat : Nat) : Int) == 47) = false := by
      have := u8_eq (s[0]'h0) 47
      rw [beq_eq_false_iff_ne.2 h47] at this
      exact this
    have hok : okT (L s) = false := by
      unfold okT
      rw [List.head?_eq_getElem?, getV h0]
      have : ((some (s[0]'h0)) == some (47 : UInt8)) = false := beq_eq_false_iff_ne.2 (fun e => h47 (Option.some.inj e))
      rw [this]; rfl
    go_wp2
    exact ⟨rfl, HB.out, .inr ⟨hok, _, _, rfl⟩⟩
  have hb : ((((s[0]'h0).toNat : Nat) : Int) == 47) = true := by
    have := u8_eq (s[0]'h0) 47
    rw [h47] at this ⊢
    exact this
  go_wp2_with (refine Go.Proofs.YtekjffooblcmnaaX.convL_ (some 12) rfl rfl 9 64 _ rfl s rfl ?_; refine (conv_BR 9 64 5 Try.underlying9 Try.underlying64 Try.underlying5 s _).mono ?_; rintro en w6 ⟨c6, rfl, hbr, hb⟩; refine ⟨_, rfl, ?_⟩; have n0_ := Aside0.mk (below_step HB.out hb); have BK := hbr; clear HB hbr hb; have HB := n0_; clear n0_; obtain ⟨gb, hgb⟩ : ∃ g, g = w.heap.size := ⟨_, rfl⟩; rw [← hgb] at BK ⊢; clear hgb)
  have HT : Aside0 (okT (L s) = okr 0 (L s)) := ⟨by
    unfold okT
    rw [List.head?_eq_getElem?, getV h0, h47]
    rfl⟩
  have H47 := Aside0.mk h47
  clear h47 hb
  go_loopw [14] (fun v14 wr => ∃ i : Nat, v14 = .int .i64 (i : Int) ∧ wr = w6 ∧ Aside0 (i ≤ s.size) ∧ Aside0 (okr (pvB (L s) i) ((L s).drop i) = okr 0 (L s))) (fun v14 _ => s.size - natV v14)
  case atStart => exact ⟨0, rfl, rfl, ⟨Nat.zero_le _⟩, ⟨rfl⟩⟩
  case round =>
    obtain ⟨i, rfl, rfl, HI, HK⟩ := hrel
    by_cases hi : i < s.size
    rotate_left
    · have b2 : decide ((i : Int) < (s.size : Int)) = false := decide_eq_false (by omega)
      have hfin : okT (L s) = true := by
        rw [HT.out, ← HK.out, List.drop_eq_nil_of_le (by rw [← size_L]; omega)]
        rfl
      go_wp2
      exact ⟨rfl, _, results_none rfl _ _ _, HB.out, .inl ⟨hfin, rfl⟩⟩
    have b2 : decide ((i : Int) < (s.size : Int)) = true := decide_eq_true (by omega)
    have p1 : (0 ≤ (i : Int)) = True := eq_true (by omega)
    have q1 : ((i : Int) < (s.size : Int)) = True := eq_true (by omega)
    have wx := wrap_succ hi (by have := HSZ.out; omega)
    have f1 := BK.cell i (by rw [show s.data.toList.length = s.size from (size_L s).symm]; exact hi)
    have hc0 : s.data.toList[i]'(by rw [show s.data.toList.length = s.size from (size_L s).symm]; exact hi) = (s[i]'hi) := by
      have := getV hi
      exact (List.getElem?_eq_some_iff.1 this).2
    rw [hc0] at f1
    have HA := Aside0.mk (okr_at (getV hi))
    obtain ⟨c, hc⟩ : ∃ c, c = (s[i]'hi) := ⟨_, rfl⟩
    rw [← hc] at f1 HA
    have HC := Aside0.mk hc
    clear hc hc0
    by_cases c58 : c = 58
    · subst c58
      have b58 : (((58 : UInt8).toNat : Int) == 58) = true := rfl
      have wn : wrap64 ((s.size : Int) - 1) = ((s.size - 1 : Nat) : Int) := by have := HSZ.out; unfold wrap64; omega
      have HA2 : Aside0 (okT (L s) = ((!(segV ((L s).drop (i + 1))).isEmpty && (segV ((L s).drop (i + 1))).all (fun x => !sp x)) && okr (pvB (L s) (i + 1)) ((L s).drop (i + 1)))) := ⟨by rw [HT.out, ← HK.out, HA.out]; rfl⟩
      clear HA
      by_cases hl : i + 1 = s.size
      · have b26 : decide ((i : Int) < ((s.size - 1 : Nat) : Int)) = false := decide_eq_false (by omega)
        have b39 : ((i : Int) == ((s.size - 1 : Nat) : Int)) = true := beq_iff_eq.2 (by omega)
        have hok : okT (L s) = false := by
          rw [HA2.out, List.drop_eq_nil_of_le (by rw [← size_L]; omega)]
          rfl
        go_wp2
        all_goals first
        | (exfalso; rename_i h; have := HSZ.out; first | omega | (simp [ByteArray.size_append] at h; omega))
        | exact ⟨rfl, HB.out, .inr ⟨hok, _, _, rfl⟩⟩
      have hi1 : i + 1 < s.size := by omega
      have b26 : decide ((i : Int) < ((s.size - 1 : Nat) : Int)) = true := decide_eq_true (by omega)
      have b39 : ((i : Int) == ((s.size - 1 : Nat) : Int)) = false := beq_eq_false_iff_ne.2 (by omega)
      have p2 : (0 ≤ (i : Int) + 1) = True := eq_true (by omega)
      have q2 : ((i : Int) + 1 < (s.size : Int)) = True := eq_true (by omega)
      have wx2 : wrap64 ((i : Int) + 1) = (i : Int) + 1 := by have := HSZ.out; unfold wrap64; omega
      have ht1 : ((i : Int) + 1).toNat = i + 1 := by omega
      by_cases h7 : (s[i + 1]'hi1) = 47
      · have b32 : ((((s[i + 1]'hi1).toNat : Nat) : Int) == 47) = true := by rw [h7]; rfl
        have hok : okT (L s) = false := by
          rw [HA2.out, segV_at (getV hi1), h7, if_pos rfl]
          rfl
        clear h7
        go_wp2
        all_goals first
        | (exfalso; rename_i h; have := HSZ.out; first | omega | (simp [ByteArray.size_append] at h; omega))
        | exact ⟨rfl, HB.out, .inr ⟨hok, _, _, rfl⟩⟩
      have b32 : ((((s[i + 1]'hi1).toNat : Nat) : Int) == 47) = false := (u8_eq _ 47).trans (beq_eq_false_iff_ne.2 h7)
      have HNE : Aside0 ((segV ((L s).drop (i + 1))).isEmpty = false) := ⟨by rw [segV_at (getV hi1), if_neg h7]; rfl⟩
      clear h7
      go_wp2
      go_loopw [2] (fun v2 wr' => ∃ j : Nat, v2 = .int .i64 (j : Int) ∧ wr' = wr ∧ Aside0 (i + 1 ≤ j ∧ j ≤ s.size) ∧ Aside0 ((segV ((L s).drop (i + 1))).all (fun x => !sp x) = (segV ((L s).drop j)).all (fun x => !sp x))) (fun v2 _ => s.size - natV v2)
      case atStart => exact ⟨i + 1, by first | rfl | rw [← wx], rfl, ⟨by omega⟩, ⟨rfl⟩⟩
      case round =>
        obtain ⟨j, rfl, rfl, HJ, HS⟩ := hrel
        have hj0 := HJ.out
        have p3 : (0 ≤ (j : Int)) = True := eq_true (by omega)
        by_cases hj : j < s.size
        · have b50 : decide ((j : Int) < (s.size : Int)) = true := decide_eq_true (by omega)
          have q3 : ((j : Int) < (s.size : Int)) = True := eq_true (by omega)
          have wj := wrap_succ hj (by have := HSZ.out; omega)
          have HG := Aside0.mk (getV hj)
          obtain ⟨d, hd⟩ : ∃ d, d = (s[j]'hj) := ⟨_, rfl⟩
          rw [← hd] at HG
          have HS2 := Aside0.mk (segV_at HG.out)
          by_cases d47 : d = 47
          · have b55 : ((((s[j]'hj).toNat : Nat) : Int) == 47) = true := by rw [← hd, d47]; rfl
            have hall : (segV ((L s).drop (i + 1))).all (fun x => !sp x) = true := by rw [HS.out, HS2.out, if_pos d47]; rfl
            have HR : Aside0 (okr (pvB (L s) (i + 1)) ((L s).drop (i + 1)) = okr 0 (L s)) := ⟨by
              rw [← HT.out, HA2.out, hall, HNE.out]; rfl⟩
            clear hd d47 hall
            go_wp2
            go_roundw
            case measure => simp only [natV]; try rw [wx]
                            omega
            case rel => exact ⟨i + 1, by first | rfl | rw [← wx], by trivial, ⟨by omega⟩, HR⟩
          · have b55 : ((((s[j]'hj).toNat : Nat) : Int) == 47) = false := by rw [← hd]; exact (u8_eq d 47).trans (beq_eq_false_iff_ne.2 d47)
            by_cases d58 : d = 58
            · have b62 : ((((s[j]'hj).toNat : Nat) : Int) == 58) = true := by rw [← hd, d58]; rfl
              have hok : okT (L s) = false := by
                rw [HA2.out, HS.out, HS2.out, if_neg d47, List.all_cons, d58]
                simp [sp]
              clear hd d47 d58
              go_wp2
              all_goals first
                | (exfalso; rename_i h; have := HSZ.out; first | omega | (simp [ByteArray.size_append] at h; omega))
                | exact ⟨rfl, HB.out, .inr ⟨hok, _, _, rfl⟩⟩
            · have b62 : ((((s[j]'hj).toNat : Nat) : Int) == 58) = false := by rw [← hd]; exact (u8_eq d 58).trans (beq_eq_false_iff_ne.2 d58)
              by_cases d42 : d = 42
              · have b67 : ((((s[j]'hj).toNat : Nat) : Int) == 42) = true := by rw [← hd, d42]; rfl
                have hok : okT (L s) = false := by
                  rw [HA2.out, HS.out, HS2.out, if_neg d47, List.all_cons, d42]
                  simp [sp]
                clear hd d47 d58 d42
                go_wp2
                all_goals first
                | (exfalso; rename_i h; have := HSZ.out; first | omega | (simp [ByteArray.size_append] at h; omega))
                | exact ⟨rfl, HB.out, .inr ⟨hok, _, _, rfl⟩⟩
              · have b67 : ((((s[j]'hj).toNat : Nat) : Int) == 42) = false := by rw [← hd]; exact (u8_eq d 42).trans (beq_eq_false_iff_ne.2 d42)
                have HR : Aside0 ((segV ((L s).drop (i + 1))).all (fun x => !sp x) = (segV ((L s).drop (j + 1))).all (fun x => !sp x)) := ⟨by
                  rw [HS.out, HS2.out, if_neg d47, List.all_cons]
                  have : sp d = false := by unfold Go.Proofs.Ytekjffooblcmnaa.Rt.sp; rw [beq_eq_false_iff_ne.2 d58, beq_eq_false_iff_ne.2 d42]; rfl
                  rw [this]; rfl⟩
                clear hd d47 d58 d42
                go_wp2
                go_roundw
                case measure => simp only [natV]; try rw [wj]
                                omega
                case rel => exact ⟨j + 1, by first | rfl | rw [← wj], by trivial, ⟨by omega⟩, HR⟩
        · have b50 : decide ((j : Int) < (s.size : Int)) = false := decide_eq_false (by omega)
          have hall : (segV ((L s).drop (i + 1))).all (fun x => !sp x) = true := by rw [HS.out, List.drop_eq_nil_of_le (by rw [← size_L]; omega)]; rfl
          have HR : Aside0 (okr (pvB (L s) (i + 1)) ((L s).drop (i + 1)) = okr 0 (L s)) := ⟨by
            rw [← HT.out, HA2.out, hall, HNE.out]; rfl⟩
          clear hall
          go_wp2
          go_roundw
          case measure => simp only [natV]; try rw [wx]
                          omega
          case rel => exact ⟨i + 1, by first | rfl | rw [← wx], by trivial, ⟨by omega⟩, HR⟩
    have b58 : ((c.toNat : Int) == 58) = false := (u8_eq c 58).trans (beq_eq_false_iff_ne.2 c58)
    by_cases c42 : c = 42
    · subst c42
      have b42 : (((42 : UInt8).toNat : Int) == 42) = true := rfl
      have wn : wrap64 ((s.size : Int) - 1) = ((s.size - 1 : Nat) : Int) := by have := HSZ.out; unfold wrap64; omega
      have HA2 : Aside0 (okT (L s) = ((!((L s).drop (i + 1)).isEmpty && pvB (L s) i == 47 && ((L s).drop (i + 1)).all (· != 47)) && okr (pvB (L s) (i + 1)) ((L s).drop (i + 1)))) := ⟨by rw [HT.out, ← HK.out, HA.out]; rfl⟩
      clear HA
      by_cases hl : i + 1 = s.size
      · have b39 : ((i : Int) == ((s.size - 1 : Nat) : Int)) = true := beq_iff_eq.2 (by omega)
        have hok : okT (L s) = false := by
          rw [HA2.out, List.drop_eq_nil_of_le (by rw [← size_L]; omega)]
          rfl
        go_wp2
        all_goals first
        | (exfalso; rename_i h; have := HSZ.out; first | omega | (simp [ByteArray.size_append] at h; omega))
        | exact ⟨rfl, HB.out, .inr ⟨hok, _, _, rfl⟩⟩
      have hi1 : i + 1 < s.size := by omega
      have b39 : ((i : Int) == ((s.size - 1 : Nat) : Int)) = false := beq_eq_false_iff_ne.2 (by omega)
      have hi0 : 0 < i := by
        rcases Nat.eq_zero_or_pos i with e | e
        · subst e
          have h1 := HC.out
          rw [H47.out] at h1
          cases h1
        · exact e
      have hm : i - 1 < s.size := by omega
      have b85 : decide ((i : Int) > 0) = true := decide_eq_true (by omega)
      have b85' : decide (0 < (i : Int)) = true := decide_eq_true (by omega)
      have p2 : (0 ≤ (i : Int) - 1) = True := eq_true (by omega)
      have q2 : ((i : Int) - 1 < (s.size : Int)) = True := eq_true (by omega)
      have wx2 : wrap64 ((i : Int) - 1) = (i : Int) - 1 := by have := HSZ.out; unfold wrap64; omega
      have ht1 : ((i : Int) - 1).toNat = i - 1 := by omega
      have hpv : Aside0 (pvB (L s) i = (s[i - 1]'hm)) := ⟨by unfold pvB; rw [if_neg (by omega), getV hm]; rfl⟩
      by_cases h7 : (s[i - 1]'hm) = 47
      rotate_left
      · have b32 : ((((s[i - 1]'hm).toNat : Nat) : Int) == 47) = false := (u8_eq _ 47).trans (beq_eq_false_iff_ne.2 h7)
        have hok : okT (L s) = false := by
          rw [HA2.out, hpv.out, beq_eq_false_iff_ne.2 h7]
          simp
        clear h7
        go_wp2
        all_goals first
        | (exfalso; rename_i h; have := HSZ.out; first | omega | (simp [ByteArray.size_append] at h; omega))
        | exact ⟨rfl, HB.out, .inr ⟨hok, _, _, rfl⟩⟩
      have b32 : ((((s[i - 1]'hm).toNat : Nat) : Int) == 47) = true := by rw [h7]; rfl
      have HPV : Aside0 (pvB (L s) i = 47) := ⟨by rw [hpv.out, h7]⟩
      clear h7
      go_wp2
      go_loopw [2] (fun v2 wr' => ∃ j : Nat, v2 = .int .i64 (j : Int) ∧ wr' = wr ∧ Aside0 (i ≤ j ∧ j ≤ s.size) ∧ Aside0 (((L s).drop i).all (· != 47) = ((L s).drop j).all (· != 47))) (fun v2 _ => s.size - natV v2)
      case atStart => exact ⟨i, rfl, rfl, ⟨by omega⟩, ⟨rfl⟩⟩
      case round =>
        obtain ⟨j, rfl, rfl, HJ, HS⟩ := hrel
        have hj0 := HJ.out
        have HD : Aside0 (((L s).drop i).all (· != 47) = ((L s).drop (i + 1)).all (· != 47)) := ⟨by
          rw [all_at (getV hi), ← HC.out]; rfl⟩
        have HN0 : Aside0 (((L s).drop (i + 1)).isEmpty = false) := ⟨by
          rw [List.drop_eq_getElem_cons (by rw [← size_L]; exact hi1)]; rfl⟩
        have p3 : (0 ≤ (j : Int)) = True := eq_true (by omega)
        by_cases hj : j < s.size
        · have b50 : decide ((j : Int) < (s.size : Int)) = true := decide_eq_true (by omega)
          have q3 : ((j : Int) < (s.size : Int)) = True := eq_true (by omega)
          have wj := wrap_succ hj (by have := HSZ.out; omega)
          have HG := Aside0.mk (getV hj)
          have HS2 := Aside0.mk (all_at HG.out (· != 47))
          obtain ⟨d, hd⟩ : ∃ d, d = (s[j]'hj) := ⟨_, rfl⟩
          rw [← hd] at HS2
          by_cases d47 : d = 47
          · have b55 : ((((s[j]'hj).toNat : Nat) : Int) == 47) = true := by rw [← hd, d47]; rfl
            have hok : okT (L s) = false := by
              rw [HA2.out, ← HD.out, HS.out, HS2.out, d47]
              simp
            clear hd d47
            go_wp2
            all_goals first
                | (exfalso; rename_i h; have := HSZ.out; first | omega | (simp [ByteArray.size_append] at h; omega))
                | exact ⟨rfl, HB.out, .inr ⟨hok, _, _, rfl⟩⟩
          · have b55 : ((((s[j]'hj).toNat : Nat) : Int) == 47) = false := by rw [← hd]; exact (u8_eq d 47).trans (beq_eq_false_iff_ne.2 d47)
            have HR : Aside0 (((L s).drop i).all (· != 47) = ((L s).drop (j + 1)).all (· != 47)) := ⟨by
              rw [HS.out, HS2.out]
              have : (d != 47) = true := by simpa using d47
              rw [this]; rfl⟩
            clear hd d47
            go_wp2
            go_roundw
            case measure => simp only [natV]; try rw [wj]
                            omega
            case rel => exact ⟨j + 1, by first | rfl | rw [← wj], by trivial, ⟨by omega⟩, HR⟩
        · have b50 : decide ((j : Int) < (s.size : Int)) = false := decide_eq_false (by omega)
          have hall : ((L s).drop (i + 1)).all (· != 47) = true := by rw [← HD.out, HS.out, List.drop_eq_nil_of_le (by rw [← size_L]; omega)]; rfl
          have HR : Aside0 (okr (pvB (L s) (i + 1)) ((L s).drop (i + 1)) = okr 0 (L s)) := ⟨by
            rw [← HT.out, HA2.out, hall, HN0.out, HPV.out]; rfl⟩
          clear hall
          go_wp2
          go_roundw
          case measure => simp only [natV]; try rw [wx]
                          omega
          case rel => exact ⟨i + 1, by first | rfl | rw [← wx], by trivial, ⟨by omega⟩, HR⟩
    have b42 : ((c.toNat : Int) == 42) = false := (u8_eq c 42).trans (beq_eq_false_iff_ne.2 c42)
    go_wp2
    go_roundw
    case measure => simp only [natV]; try rw [wx]
                    omega
    case rel => exact ⟨i + 1, by first | rfl | rw [← wx], by trivial, ⟨by omega⟩, ⟨by
      have h1 := HA.out
      rw [HK.out, if_neg c58, if_neg c42, Bool.true_and] at h1
      exact h1.symm⟩⟩
end Go.Proofs.Ytekjffooblcmnaa.Q
end
section
namespace Go.Proofs.Ytekjffooblcmnaa.Q
open Go.RowKit Go.Proofs.YtekjffooblcmnaaW.PrintWords Go.Proofs.YtekjffooblcmnaaW.PrintLast Go.Proofs.YtekjffooblcmnaaW.PrintMore
open Go.Proofs.YtekjffooblcmnaaKit (L size_L)
open Go.Proofs.Ytekjffooblcmnaa.Cd
open Go.Proofs.Ytekjffooblcmnaa.Ob
open Go.Proofs.Ytekjffooblcmnaa.Rh (ptr NR HT Own Srt ncell Got DR)
open Go.Proofs.Ytekjffooblcmnaa.Rt (Nd Dat Tb Ch Str lcp ins put rep kidL addL steps names)
set_option linter.unusedVariables false
set_option linter.unusedSimpArgs false
noncomputable def aF : Code := (Try.f19.body).getD .skip
noncomputable def aL : Code := lpc aF
noncomputable def aX : Code := thn 29 aL
noncomputable def aY : Code := els 29 aL
noncomputable def aZ : Code := thn 85 aY
noncomputable def a6 : Code := fst (fst (ins aL))
noncomputable def a8 : Code := fst (ins (fst (snd aL)))
noncomputable def a7 : Code := snd (snd aL)
noncomputable def a9 : Code := fst (aX)
noncomputable def a10 : Code := fst (snd (aX))
noncomputable def ab2 : Code := fst (snd (snd (aX)))
noncomputable def a13 : Code := fst (snd (snd (snd (aX))))
noncomputable def a14 : Code := fst (snd (snd (snd (snd (aX)))))
noncomputable def a15 : Code := fst (snd (snd (snd (snd (snd (aX))))))
noncomputable def a16 : Code := fst (snd (snd (snd (snd (snd (snd aX))))))
noncomputable def a17 : Code := fst (thn 67 aX)
noncomputable def a18 : Code := els 67 aX
noncomputable def a19 : Code := fst aY
noncomputable def a20 : Code := fst aZ
noncomputable def a21 : Code := fst (snd aZ)
noncomputable def a22 : Code := fst (snd (snd aZ))
set_option maxRecDepth 1000000 in
theorem aL_eq : aL = .seq (.seq a6 (.cond (.tmp 23) .skip (.exit 0))) (.seq (.block 1 (.seq a8 (.cond (.tmp 29) (.seq a9 (.seq a10 (.seq ab2 (.seq a13 (.seq a14 (.seq a15 (.seq a16 (.cond (.tmp 67) (.seq a17 .ret) a18)))))))) (.seq a19 (.cond (.tmp 85) (.seq a20 (.seq a21 (.seq a22 .ret))) .skip))))) a7) := by rfl
set_option maxRecDepth 1000000 in
theorem frame113 (x : Nat → Value) : ((List.range 113).map x).toArray = #[x 0, x 1, x 2, x 3, x 4, x 5, x 6, x 7, x 8, x 9, x 10, x 11, x 12, x 13, x 14, x 15, x 16, x 17, x 18, x 19, x 20, x 21, x 22, x 23, x 24, x 25, x 26, x 27, x 28, x 29, x 30, x 31, x 32, x 33, x 34, x 35, x 36, x 37, x 38, x 39, x 40, x 41, x 42, x 43, x 44, x 45, x 46, x 47, x 48, x 49, x 50, x 51, x 52, x 53, x 54, x 55, x 56, x 57, x 58, x 59, x 60, x 61, x 62, x 63, x 64, x 65, x 66, x 67, x 68, x 69, x 70, x 71, x 72, x 73, x 74, x 75, x 76, x 77, x 78, x 79, x 80, x 81, x 82, x 83, x 84, x 85, x 86, x 87, x 88, x 89, x 90, x 91, x 92, x 93, x 94, x 95, x 96, x 97, x 98, x 99, x 100, x 101, x 102, x 103, x 104, x 105, x 106, x 107, x 108, x 109, x 110, x 111, x 112] := by rfl
def A0 (gr g hc : Nat) (s : ByteArray) (p : ByteArray) (A6 : Option Addr) (n6 : Nat) (c6 : Nat) (i : Nat) (n : Nat) (a : Act) : Prop := a.tmps.size = 113 ∧ a.defers = [] ∧ a.tmps.getD 0 undef = .pointer (some ⟨gr, 0, none⟩) ∧ a.tmps.getD 1 undef = .string p ∧ a.tmps.getD 2 undef = .slice (some ⟨g, 0, none⟩) 1 hc ∧ a.tmps.getD 6 undef = .slice A6 n6 c6 ∧ a.tmps.getD 7 undef = .string s ∧ a.tmps.getD 8 undef = .int .i64 (i : Int) ∧ a.tmps.getD 9 undef = .int .i64 (n : Int)
set_option maxHeartbeats 4000000 in
set_option maxRecDepth 1000000 in
theorem A0.lit {gr g hc : Nat} {s : ByteArray} {p : ByteArray} {A6 : Option Addr} {n6 : Nat} {c6 : Nat} {i : Nat} {n : Nat} {a : Act} (h : A0 gr g hc s p A6 n6 c6 i n a) : ∃ x : Nat → Value, a = ⟨#[.pointer (some ⟨gr, 0, none⟩), .string p, .slice (some ⟨g, 0, none⟩) 1 hc, x 3, x 4, x 5, .slice A6 n6 c6, .string s, .int .i64 (i : Int), .int .i64 (n : Int), x 10, x 11, x 12, x 13, x 14, x 15, x 16, x 17, x 18, x 19, x 20, x 21, x 22, x 23, x 24, x 25, x 26, x 27, x 28, x 29, x 30, x 31, x 32, x 33, x 34, x 35, x 36, x 37, x 38, x 39, x 40, x 41, x 42, x 43, x 44, x 45, x 46, x 47, x 48, x 49, x 50, x 51, x 52, x 53, x 54, x 55, x 56, x 57, x 58, x 59, x 60, x 61, x 62, x 63, x 64, x 65, x 66, x 67, x 68, x 69, x 70, x 71, x 72, x 73, x 74, x 75, x 76, x 77, x 78, x 79, x 80, x 81, x 82, x 83, x 84, x 85, x 86, x 87, x 88, x 89, x 90, x 91, x 92, x 93, x 94, x 95, x 96, x 97, x 98, x 99, x 100, x 101, x 102, x 103, x 104, x 105, x 106, x 107, x 108, x 109, x 110, x 111, x 112], []⟩ := by
  obtain ⟨h1, h2, a0, a1, a2, a6, a7, a8, a9⟩ := h
  obtain ⟨x, e, hx⟩ := frame 113 a h1 h2
  rw [← hx _ (by decide)] at a0 a1 a2 a6 a7 a8 a9
  refine ⟨x, ?_⟩
  rw [e, frame113, a0, a1, a2, a6, a7, a8, a9]
def A1 (gr g hc : Nat) (s : ByteArray) (p : ByteArray) (A6 : Option Addr) (n6 : Nat) (c6 : Nat) (i : Nat) (n : Nat) (j : Nat) (a : Act) : Prop := a.tmps.size = 113 ∧ a.defers = [] ∧ a.tmps.getD 0 undef = .pointer (some ⟨gr, 0, none⟩) ∧ a.tmps.getD 1 undef = .string p ∧ a.tmps.getD 2 undef = .slice (some ⟨g, 0, none⟩) 1 hc ∧ a.tmps.getD 6 undef = .slice A6 n6 c6 ∧ a.tmps.getD 7 undef = .string s ∧ a.tmps.getD 8 undef = .int .i64 (i : Int) ∧ a.tmps.getD 9 undef = .int .i64 (n : Int) ∧ a.tmps.getD 10 undef = .int .i64 (j : Int)
set_option maxHeartbeats 4000000 in
set_option maxRecDepth 1000000 in
theorem A1.lit {gr g hc : Nat} {s : ByteArray} {p : ByteArray} {A6 : Option Addr} {n6 : Nat} {c6 : Nat} {i : Nat} {n : Nat} {j : Nat} {a : Act} (h : A1 gr g hc s p A6 n6 c6 i n j a) : ∃ x : Nat → Value, a = ⟨#[.pointer (some ⟨gr, 0, none⟩), .string p, .slice (some ⟨g, 0, none⟩) 1 hc, x 3, x 4, x 5, .slice A6 n6 c6, .string s, .int .i64 (i : Int), .int .i64 (n : Int), .int .i64 (j : Int), x 11, x 12, x 13, x 14, x 15, x 16, x 17, x 18, x 19, x 20, x 21, x 22, x 23, x 24, x 25, x 26, x 27, x 28, x 29, x 30, x 31, x 32, x 33, x 34, x 35, x 36, x 37, x 38, x 39, x 40, x 41, x 42, x 43, x 44, x 45, x 46, x 47, x 48, x 49, x 50, x 51, x 52, x 53, x 54, x 55, x 56, x 57, x 58, x 59, x 60, x 61, x 62, x 63, x 64, x 65, x 66, x 67, x 68, x 69, x 70, x 71, x 72, x 73, x 74, x 75, x 76, x 77, x 78, x 79, x 80, x 81, x 82, x 83, x 84, x 85, x 86, x 87, x 88, x 89, x 90, x 91, x 92, x 93, x 94, x 95, x 96, x 97, x 98, x 99, x 100, x 101, x 102, x 103, x 104, x 105, x 106, x 107, x 108, x 109, x 110, x 111, x 112], []⟩ := by
  obtain ⟨h1, h2, a0, a1, a2, a6, a7, a8, a9, a10⟩ := h
  obtain ⟨x, e, hx⟩ := frame 113 a h1 h2
  rw [← hx _ (by decide)] at a0 a1 a2 a6 a7 a8 a9 a10
  refine ⟨x, ?_⟩
  rw [e, frame113, a0, a1, a2, a6, a7, a8, a9, a10]
end Go.Proofs.Ytekjffooblcmnaa.Q
end
section
namespace Go.Proofs.Ytekjffooblcmnaa.Q
open Go.RowKit Go.Proofs.YtekjffooblcmnaaW.PrintWords Go.Proofs.YtekjffooblcmnaaW.PrintLast Go.Proofs.YtekjffooblcmnaaW.PrintMore
open Go.Proofs.YtekjffooblcmnaaKit (L size_L)
open Go.Proofs.Ytekjffooblcmnaa.Cd
open Go.Proofs.Ytekjffooblcmnaa.Ob
open Go.Proofs.Ytekjffooblcmnaa.Rh (ptr NR HT Own Srt ncell Got DR)
open Go.Proofs.Ytekjffooblcmnaa.Rt (Nd Dat Tb Ch Str lcp ins put rep kidL addL steps names)
set_option linter.unusedVariables false
set_option linter.unusedSimpArgs false
set_option maxHeartbeats 16000000 in
set_option maxRecDepth 1000000 in
theorem a6_wp {gr g hc : Nat} {s : ByteArray} (p : ByteArray) (A6 : Option Addr) (n6 c6 i n : Nat) (w : World) (Q : Exit → Act → World → Prop) {a : Act} (ha : A0 gr g hc s p A6 n6 c6 i n a) (hq : ∀ a', A0 gr g hc s p A6 n6 c6 i n a' → a'.eval (.tmp 23) = .bool (decide (i < n)) → Q .normal a' w) : Code.wp Try.prog a6 Q a w := by
  have HQ := Aside0.mk hq
  clear hq
  obtain ⟨x, rfl⟩ := ha.lit
  clear ha
  by_cases he : i < n
  · have hd : decide (i < n) = true := decide_eq_true he
    rw [hd] at HQ
    clear hd
    have b := decide_eq_true (show (i : Int) < (n : Int) by omega)
    conv => arg 2; whnf
    go_wp2
    exact HQ.out _ ⟨rfl, rfl, rfl, rfl, rfl, rfl, rfl, rfl, rfl⟩ (by first | rfl | exact congrArg Value.bool (decide_eq_true he))
  · have hd : decide (i < n) = false := decide_eq_false he
    rw [hd] at HQ
    clear hd
    have b := decide_eq_false (show ¬ (i : Int) < (n : Int) by omega)
    conv => arg 2; whnf
    go_wp2
    exact HQ.out _ ⟨rfl, rfl, rfl, rfl, rfl, rfl, rfl, rfl, rfl⟩ (by first | rfl | exact congrArg Value.bool (decide_eq_false he))
set_option maxHeartbeats 16000000 in
set_option maxRecDepth 1000000 in
theorem a8_wp {gr g hc : Nat} {s : ByteArray} (p : ByteArray) (A6 : Option Addr) (n6 c6 i n : Nat) (w : World) (hi : i < p.size) (Q : Exit → Act → World → Prop) {a : Act} (ha : A0 gr g hc s p A6 n6 c6 i n a) (hq : ∀ a', A0 gr g hc s p A6 n6 c6 i n a' → a'.eval (.tmp 29) = .bool (decide ((p[i]'hi) = 58)) → Q .normal a' w) : Code.wp Try.prog a8 Q a w := by
  have HQ := Aside0.mk hq
  clear hq
  obtain ⟨x, rfl⟩ := ha.lit
  clear ha
  have p1 : (0 ≤ (i : Int)) = True := eq_true (by omega)
  have q1 : ((i : Int) < (p.size : Int)) = True := eq_true (by omega)
  by_cases he : (p[i]'hi) = 58
  · have hd : decide ((p[i]'hi) = 58) = true := decide_eq_true he
    rw [hd] at HQ
    have b : ((((p[i]'hi).toNat : Nat) : Int) == 58) = true := by rw [he]; rfl
    clear hd he
    conv => arg 2; whnf
    go_wp2
    exact HQ.out _ ⟨rfl, rfl, rfl, rfl, rfl, rfl, rfl, rfl, rfl⟩ rfl
  · have hd : decide ((p[i]'hi) = 58) = false := decide_eq_false he
    rw [hd] at HQ
    have b : ((((p[i]'hi).toNat : Nat) : Int) == 58) = false := (u8_eq _ 58).trans (beq_eq_false_iff_ne.2 he)
    clear hd he
    conv => arg 2; whnf
    go_wp2
    exact HQ.out _ ⟨rfl, rfl, rfl, rfl, rfl, rfl, rfl, rfl, rfl⟩ rfl
set_option maxHeartbeats 16000000 in
set_option maxRecDepth 1000000 in
theorem a19_wp {gr g hc : Nat} {s : ByteArray} (p : ByteArray) (A6 : Option Addr) (n6 c6 i n : Nat) (w : World) (hi : i < p.size) (Q : Exit → Act → World → Prop) {a : Act} (ha : A0 gr g hc s p A6 n6 c6 i n a) (hq : ∀ a', A0 gr g hc s p A6 n6 c6 i n a' → a'.eval (.tmp 85) = .bool (decide ((p[i]'hi) = 42)) → Q .normal a' w) : Code.wp Try.prog a19 Q a w := by
  have HQ := Aside0.mk hq
  clear hq
  obtain ⟨x, rfl⟩ := ha.lit
  clear ha
  have p1 : (0 ≤ (i : Int)) = True := eq_true (by omega)
  have q1 : ((i : Int) < (p.size : Int)) = True := eq_true (by omega)
  by_cases he : (p[i]'hi) = 42
  · have hd : decide ((p[i]'hi) = 42) = true := decide_eq_true he
    rw [hd] at HQ
    have b : ((((p[i]'hi).toNat : Nat) : Int) == 42) = true := by rw [he]; rfl
    clear hd he
    conv => arg 2; whnf
    go_wp2
    exact HQ.out _ ⟨rfl, rfl, rfl, rfl, rfl, rfl, rfl, rfl, rfl⟩ rfl
  · have hd : decide ((p[i]'hi) = 42) = false := decide_eq_false he
    rw [hd] at HQ
    have b : ((((p[i]'hi).toNat : Nat) : Int) == 42) = false := (u8_eq _ 42).trans (beq_eq_false_iff_ne.2 he)
    clear hd he
    conv => arg 2; whnf
    go_wp2
    exact HQ.out _ ⟨rfl, rfl, rfl, rfl, rfl, rfl, rfl, rfl, rfl⟩ rfl
set_option maxHeartbeats 16000000 in
set_option maxRecDepth 1000000 in
theorem a9_wp {gr g hc : Nat} {s : ByteArray} (p : ByteArray) (A6 : Option Addr) (n6 c6 i n : Nat) (w : World) (hi : i < 1000000) (Q : Exit → Act → World → Prop) {a : Act} (ha : A0 gr g hc s p A6 n6 c6 i n a) (hq : ∀ a', A1 gr g hc s p A6 n6 c6 i n (i + 1) a' → Q .normal a' w) : Code.wp Try.prog a9 Q a w := by
  have wx := wrap_succ hi (by decide)
  have HQ := Aside0.mk hq
  clear hq
  obtain ⟨x, rfl⟩ := ha.lit
  clear ha
  conv => arg 2; whnf
  go_wp2
  exact HQ.out _ ⟨rfl, rfl, rfl, rfl, rfl, rfl, rfl, rfl, rfl, by first | rfl | (rw [← wx])⟩
set_option maxHeartbeats 16000000 in
set_option maxRecDepth 1000000 in
theorem a7_wp {gr g hc : Nat} {s : ByteArray} (p : ByteArray) (A6 : Option Addr) (n6 c6 i n : Nat) (w : World) (hi : i < 1000000) (Q : Exit → Act → World → Prop) {a : Act} (ha : A0 gr g hc s p A6 n6 c6 i n a) (hq : ∀ a', A0 gr g hc s p A6 n6 c6 (i + 1) n a' → Q .normal a' w) : Code.wp Try.prog a7 Q a w := by
  have wx := wrap_succ hi (by decide)
  have HQ := Aside0.mk hq
  clear hq
  obtain ⟨x, rfl⟩ := ha.lit
  clear ha
  conv => arg 2; whnf
  go_wp2
  exact HQ.out _ ⟨rfl, rfl, rfl, rfl, rfl, rfl, rfl, by first | rfl | (rw [← wx]), rfl⟩
set_option maxHeartbeats 16000000 in
set_option maxRecDepth 1000000 in
theorem a15_wp {gr g hc : Nat} {s : ByteArray} (p : ByteArray) (A6 : Option Addr) (n6 c6 i n : Nat) (j : Nat) (w : World) (Q : Exit → Act → World → Prop) {a : Act} (ha : A1 gr g hc s p A6 n6 c6 i n j a) (hq : ∀ a', A1 gr g hc s p A6 n6 c6 j p.size j a' → Q .normal a' w) : Code.wp Try.prog a15 Q a w := by
  have HQ := Aside0.mk hq
  clear hq
  obtain ⟨x, rfl⟩ := ha.lit
  clear ha
  conv => arg 2; whnf
  go_wp2
  exact HQ.out _ ⟨rfl, rfl, rfl, rfl, rfl, rfl, rfl, rfl, rfl, rfl⟩
set_option maxHeartbeats 16000000 in
set_option maxRecDepth 1000000 in
theorem a16_wp {gr g hc : Nat} {s : ByteArray} (p : ByteArray) (A6 : Option Addr) (n6 c6 i n : Nat) (j : Nat) (w : World) (Q : Exit → Act → World → Prop) {a : Act} (ha : A1 gr g hc s p A6 n6 c6 i n j a) (hq : ∀ a', A1 gr g hc s p A6 n6 c6 i n j a' → a'.eval (.tmp 67) = .bool (decide (i = n)) → Q .normal a' w) : Code.wp Try.prog a16 Q a w := by
  have HQ := Aside0.mk hq
  clear hq
  obtain ⟨x, rfl⟩ := ha.lit
  clear ha
  by_cases he : i = n
  · have hd : decide (i = n) = true := decide_eq_true he
    rw [hd] at HQ
    have b : (((i : Nat) : Int) == ((n : Nat) : Int)) = true := by simp [he]
    clear hd he
    conv => arg 2; whnf
    go_wp2
    exact HQ.out _ ⟨rfl, rfl, rfl, rfl, rfl, rfl, rfl, rfl, rfl, rfl⟩ rfl
  · have hd : decide (i = n) = false := decide_eq_false he
    rw [hd] at HQ
    have b : (((i : Nat) : Int) == ((n : Nat) : Int)) = false := beq_eq_false_iff_ne.2 (fun e => he (by omega))
    clear hd he
    conv => arg 2; whnf
    go_wp2
    exact HQ.out _ ⟨rfl, rfl, rfl, rfl, rfl, rfl, rfl, rfl, rfl, rfl⟩ rfl
set_option maxHeartbeats 16000000 in
set_option maxRecDepth 1000000 in
theorem a10_wp {gr g hc : Nat} {s : ByteArray} (p : ByteArray) (A6 : Option Addr) (n6 c6 i n : Nat) (j : Nat) (w : World) (hi : i ≤ p.size) (Post : Ending → World → Prop) (hC : Calls Try.prog 22 #[.pointer (some ⟨gr, 0, none⟩), .string (p.extract 0 i), .slice none 0 0, .int .u8 0, .string ⟨#[]⟩, .slice none 0 0] w Post) (hE : ∀ e w', Post e w' → e = .returned (.tuple #[]) ∨ ∃ ch, e = .panicked ch) (Q : Exit → Act → World → Prop) {a : Act} (ha : A1 gr g hc s p A6 n6 c6 i n j a) (hq : ∀ a' w', A1 gr g hc s p A6 n6 c6 i n j a' → Post (.returned (.tuple #[])) w' → Q .normal a' w') (hp : ∀ a' w' ch, a'.defers = [] → Post (.panicked ch) w' → Q (.panic ch) a' w') : Code.wp Try.prog a10 Q a w := by
  have hsl : ∀ W : World, (Instr.slice 9 (.string p) none (some (.int .i64 (i : Int))) none).run Try.prog W = .ok (.string (p.extract 0 i)) W := fun W => by
    have := run_slice_string_h (P := Try.prog) (w := W) (t := 9) (s := p) Try.underlying9 .i64 (i : Int) (by omega) (by omega)
    simpa using this
  have HQ := Aside0.mk hq
  have HP := Aside0.mk hp
  have HC := Aside0.mk hC
  have HE := Aside0.mk hE
  clear hq hp hC hE
  obtain ⟨x, rfl⟩ := ha.lit
  clear ha
  conv => arg 2; whnf
  go_wp2_with (fail)
  refine HC.out.mono ?_
  intro e w' hP
  have HPO := Aside0.mk hP
  rcases HE.out e w' hP with rfl | ⟨ch, rfl⟩
  · clear hP
    go_wp2_with (fail)
    exact HQ.out _ _ ⟨rfl, rfl, rfl, rfl, rfl, rfl, rfl, rfl, rfl, rfl⟩ HPO.out
  · clear hP
    go_wp2_with (fail)
    exact HP.out _ _ _ rfl HPO.out
set_option maxHeartbeats 16000000 in
set_option maxRecDepth 1000000 in
theorem a17_wp {gr g hc : Nat} {s : ByteArray} (p : ByteArray) (A6 : Option Addr) (n6 c6 i n : Nat) (j : Nat) (w : World) (hi : i ≤ p.size) (Post : Ending → World → Prop) (hC : Calls Try.prog 22 #[.pointer (some ⟨gr, 0, none⟩), .string (p.extract 0 i), .slice (some ⟨g, 0, none⟩) 1 hc, .int .u8 1, .string s, .slice A6 n6 c6] w Post) (hE : ∀ e w', Post e w' → e = .returned (.tuple #[]) ∨ ∃ ch, e = .panicked ch) (Q : Exit → Act → World → Prop) {a : Act} (ha : A1 gr g hc s p A6 n6 c6 i n j a) (hq : ∀ a' w', A1 gr g hc s p A6 n6 c6 i n j a' → Post (.returned (.tuple #[])) w' → Q .normal a' w') (hp : ∀ a' w' ch, a'.defers = [] → Post (.panicked ch) w' → Q (.panic ch) a' w') : Code.wp Try.prog a17 Q a w := by
  have hsl : ∀ W : World, (Instr.slice 9 (.string p) none (some (.int .i64 (i : Int))) none).run Try.prog W = .ok (.string (p.extract 0 i)) W := fun W => by
    have := run_slice_string_h (P := Try.prog) (w := W) (t := 9) (s := p) Try.underlying9 .i64 (i : Int) (by omega) (by omega)
    simpa using this
  have HQ := Aside0.mk hq
  have HP := Aside0.mk hp
  have HC := Aside0.mk hC
  have HE := Aside0.mk hE
  clear hq hp hC hE
  obtain ⟨x, rfl⟩ := ha.lit
  clear ha
  conv => arg 2; whnf
  go_wp2_with (fail)
  refine HC.out.mono ?_
  intro e w' hP
  have HPO := Aside0.mk hP
  rcases HE.out e w' hP with rfl | ⟨ch, rfl⟩
  · clear hP
    go_wp2_with (fail)
    exact HQ.out _ _ ⟨rfl, rfl, rfl, rfl, rfl, rfl, rfl, rfl, rfl, rfl⟩ HPO.out
  · clear hP
    go_wp2_with (fail)
    exact HP.out _ _ _ rfl HPO.out
set_option maxHeartbeats 16000000 in
set_option maxRecDepth 1000000 in
theorem a18_wp {gr g hc : Nat} {s : ByteArray} (p : ByteArray) (A6 : Option Addr) (n6 c6 i n : Nat) (j : Nat) (w : World) (hi : i ≤ p.size) (Post : Ending → World → Prop) (hC : Calls Try.prog 22 #[.pointer (some ⟨gr, 0, none⟩), .string (p.extract 0 i), .slice none 0 0, .int .u8 1, .string ⟨#[]⟩, .slice A6 n6 c6] w Post) (hE : ∀ e w', Post e w' → e = .returned (.tuple #[]) ∨ ∃ ch, e = .panicked ch) (Q : Exit → Act → World → Prop) {a : Act} (ha : A1 gr g hc s p A6 n6 c6 i n j a) (hq : ∀ a' w', A1 gr g hc s p A6 n6 c6 i n j a' → Post (.returned (.tuple #[])) w' → Q .normal a' w') (hp : ∀ a' w' ch, a'.defers = [] → Post (.panicked ch) w' → Q (.panic ch) a' w') : Code.wp Try.prog a18 Q a w := by
  have hsl : ∀ W : World, (Instr.slice 9 (.string p) none (some (.int .i64 (i : Int))) none).run Try.prog W = .ok (.string (p.extract 0 i)) W := fun W => by
    have := run_slice_string_h (P := Try.prog) (w := W) (t := 9) (s := p) Try.underlying9 .i64 (i : Int) (by omega) (by omega)
    simpa using this
  have HQ := Aside0.mk hq
  have HP := Aside0.mk hp
  have HC := Aside0.mk hC
  have HE := Aside0.mk hE
  clear hq hp hC hE
  obtain ⟨x, rfl⟩ := ha.lit
  clear ha
  conv => arg 2; whnf
  go_wp2_with (fail)
  refine HC.out.mono ?_
  intro e w' hP
  have HPO := Aside0.mk hP
  rcases HE.out e w' hP with rfl | ⟨ch, rfl⟩
  · clear hP
    go_wp2_with (fail)
    exact HQ.out _ _ ⟨rfl, rfl, rfl, rfl, rfl, rfl, rfl, rfl, rfl, rfl⟩ HPO.out
  · clear hP
    go_wp2_with (fail)
    exact HP.out _ _ _ rfl HPO.out
set_option maxHeartbeats 16000000 in
set_option maxRecDepth 1000000 in
theorem a20_wp {gr g hc : Nat} {s : ByteArray} (p : ByteArray) (A6 : Option Addr) (n6 c6 i n : Nat) (w : World) (hi : i ≤ p.size) (Post : Ending → World → Prop) (hC : Calls Try.prog 22 #[.pointer (some ⟨gr, 0, none⟩), .string (p.extract 0 i), .slice none 0 0, .int .u8 0, .string ⟨#[]⟩, .slice none 0 0] w Post) (hE : ∀ e w', Post e w' → e = .returned (.tuple #[]) ∨ ∃ ch, e = .panicked ch) (Q : Exit → Act → World → Prop) {a : Act} (ha : A0 gr g hc s p A6 n6 c6 i n a) (hq : ∀ a' w', A0 gr g hc s p A6 n6 c6 i n a' → Post (.returned (.tuple #[])) w' → Q .normal a' w') (hp : ∀ a' w' ch, a'.defers = [] → Post (.panicked ch) w' → Q (.panic ch) a' w') : Code.wp Try.prog a20 Q a w := by
  have hsl : ∀ W : World, (Instr.slice 9 (.string p) none (some (.int .i64 (i : Int))) none).run Try.prog W = .ok (.string (p.extract 0 i)) W := fun W => by
    have := run_slice_string_h (P := Try.prog) (w := W) (t := 9) (s := p) Try.underlying9 .i64 (i : Int) (by omega) (by omega)
    simpa using this
  have HQ := Aside0.mk hq
  have HP := Aside0.mk hp
  have HC := Aside0.mk hC
  have HE := Aside0.mk hE
  clear hq hp hC hE
  obtain ⟨x, rfl⟩ := ha.lit
  clear ha
  conv => arg 2; whnf
  go_wp2_with (fail)
  refine HC.out.mono ?_
  intro e w' hP
  have HPO := Aside0.mk hP
  rcases HE.out e w' hP with rfl | ⟨ch, rfl⟩
  · clear hP
    go_wp2_with (fail)
    exact HQ.out _ _ ⟨rfl, rfl, rfl, rfl, rfl, rfl, rfl, rfl, rfl⟩ HPO.out
  · clear hP
    go_wp2_with (fail)
    exact HP.out _ _ _ rfl HPO.out
set_option maxHeartbeats 16000000 in
set_option maxRecDepth 1000000 in
theorem a22_wp {gr g hc : Nat} {s : ByteArray} (p : ByteArray) (A6 : Option Addr) (n6 c6 i n : Nat) (w : World) (hi : i < p.size) (hz : p.size ≤ 1000000) (Post : Ending → World → Prop) (hC : Calls Try.prog 22 #[.pointer (some ⟨gr, 0, none⟩), .string (p.extract 0 (i + 1)), .slice (some ⟨g, 0, none⟩) 1 hc, .int .u8 2, .string s, .slice A6 n6 c6] w Post) (hE : ∀ e w', Post e w' → e = .returned (.tuple #[]) ∨ ∃ ch, e = .panicked ch) (Q : Exit → Act → World → Prop) {a : Act} (ha : A0 gr g hc s p A6 n6 c6 i n a) (hq : ∀ a' w', A0 gr g hc s p A6 n6 c6 i n a' → Post (.returned (.tuple #[])) w' → Q .normal a' w') (hp : ∀ a' w' ch, a'.defers = [] → Post (.panicked ch) w' → Q (.panic ch) a' w') : Code.wp Try.prog a22 Q a w := by
  have wx := wrap_succ (n := 1000000) (show i < 1000000 by omega) (by decide)
  have wx2 : wrap64 ((i : Int) + 1) = (i : Int) + 1 := by rw [wx]; omega
  clear wx
  have hsl : ∀ W : World, (Instr.slice 9 (.string p) none (some (.int .i64 ((i : Int) + 1))) none).run Try.prog W = .ok (.string (p.extract 0 (i + 1))) W := fun W => by
    have := run_slice_string_h (P := Try.prog) (w := W) (t := 9) (s := p) Try.underlying9 .i64 ((i : Int) + 1) (by omega) (by omega)
    rwa [show ((i : Int) + 1).toNat = i + 1 by omega] at this
  have HQ := Aside0.mk hq
  have HP := Aside0.mk hp
  have HC := Aside0.mk hC
  have HE := Aside0.mk hE
  clear hq hp hC hE
  obtain ⟨x, rfl⟩ := ha.lit
  clear ha
  conv => arg 2; whnf
  go_wp2_with (fail)
  refine HC.out.mono ?_
  intro e w' hP
  have HPO := Aside0.mk hP
  rcases HE.out e w' hP with rfl | ⟨ch, rfl⟩
  · clear hP
    go_wp2_with (fail)
    exact HQ.out _ _ ⟨rfl, rfl, rfl, rfl, rfl, rfl, rfl, rfl, rfl⟩ HPO.out
  · clear hP
    go_wp2_with (fail)
    exact HP.out _ _ _ rfl HPO.out
theorem A1.a0 {gr g hc : Nat} {s : ByteArray} {p : ByteArray} {A6 : Option Addr} {n6 c6 i n j : Nat} {a : Act} (h : A1 gr g hc s p A6 n6 c6 i n j a) : A0 gr g hc s p A6 n6 c6 i n a := by
  obtain ⟨h1, h2, h3, h4, h5, h6, h7, h8, h9, h10⟩ := h
  exact ⟨h1, h2, h3, h4, h5, h6, h7, h8, h9⟩
end Go.Proofs.Ytekjffooblcmnaa.Q
end
section
namespace Go.Proofs.Ytekjffooblcmnaa.Q
open Go.RowKit Go.Proofs.YtekjffooblcmnaaW.PrintWords Go.Proofs.YtekjffooblcmnaaW.PrintLast Go.Proofs.YtekjffooblcmnaaW.PrintMore
open Go.Proofs.YtekjffooblcmnaaKit (L size_L)
open Go.Proofs.Ytekjffooblcmnaa.Cd
open Go.Proofs.Ytekjffooblcmnaa.Ob
open Go.Proofs.Ytekjffooblcmnaa.Rh (ptr NR HT Own Srt ncell Got DR)
open Go.Proofs.Ytekjffooblcmnaa.Rt (Nd Dat Tb Ch Str lcp ins put rep kidL addL steps names)
set_option linter.unusedVariables false
set_option linter.unusedSimpArgs false
set_option maxHeartbeats 16000000 in
set_option maxRecDepth 1000000 in
theorem ab2_wp {gr g hc : Nat} {s : ByteArray} (p : ByteArray) (A6 : Option Addr) (n6 c6 i : Nat) (j : Nat) (w : World) (e : Nat) (hi : i ≤ p.size) (he : i + (segV ((L p).drop i)).length = e) (hz : p.size ≤ 1000000) (Q : Exit → Act → World → Prop) {a : Act} (ha : A1 gr g hc s p A6 n6 c6 i p.size j a) (hq : ∀ a', A1 gr g hc s p A6 n6 c6 e p.size j a' → Q .normal a' w) : Code.wp Try.prog ab2 Q a w := by
  have HQ := Aside0.mk hq
  have HE := Aside0.mk he
  have HI0 := Aside0.mk hi
  clear hq he hi
  obtain ⟨x, rfl⟩ := ha.lit
  clear ha
  conv => arg 2; whnf
  go_wp2
  go_loopw [8] (fun v8 wr => ∃ q : Nat, v8 = .int .i64 (q : Int) ∧ wr = w ∧ Aside0 (q ≤ p.size) ∧ Aside0 (q + (segV ((L p).drop q)).length = e)) (fun v8 _ => p.size - natV v8)
  case atStart => exact ⟨i, rfl, rfl, HI0, HE⟩
  case round =>
    obtain ⟨q, rfl, rfl, HJ, HS⟩ := hrel
    have p3 : (0 ≤ (q : Int)) = True := eq_true (by omega)
    by_cases hj : q < p.size
    · have b50 : decide ((q : Int) < (p.size : Int)) = true := decide_eq_true (by omega)
      have q3 : ((q : Int) < (p.size : Int)) = True := eq_true (by omega)
      have wj := wrap_succ hj (by omega)
      have HS2 := Aside0.mk (segV_at (getV hj))
      by_cases d47 : (p[q]'hj) = 47
      · have b55 : ((((p[q]'hj).toNat : Nat) : Int) == 47) = true := by rw [d47]; rfl
        have HEQ : q = e := by
          have h1 := HS.out
          rw [HS2.out, if_pos d47] at h1
          exact h1
        rw [← HEQ] at HQ
        clear d47 HEQ
        go_wp2
        exact HQ.out _ ⟨rfl, rfl, rfl, rfl, rfl, rfl, rfl, rfl, rfl, rfl⟩
      · have b55 : ((((p[q]'hj).toNat : Nat) : Int) == 47) = false := (u8_eq _ 47).trans (beq_eq_false_iff_ne.2 d47)
        have HR : Aside0 (q + 1 + (segV ((L p).drop (q + 1))).length = e) := ⟨by
          have h1 := HS.out
          rw [HS2.out, if_neg d47, List.length_cons] at h1
          omega⟩
        clear d47
        go_wp2
        go_roundw
        case measure => simp only [natV]; try rw [wj]
                        omega
        case rel => exact ⟨q + 1, by first | rfl | rw [← wj], by trivial, ⟨by omega⟩, HR⟩
    · have b50 : decide ((q : Int) < (p.size : Int)) = false := decide_eq_false (by omega)
      have HEQ : q = e := by
        have h1 := HS.out
        rw [List.drop_eq_nil_of_le (by rw [← size_L]; omega)] at h1
        exact h1
      rw [← HEQ] at HQ
      clear HEQ
      go_wp2
      exact HQ.out _ ⟨rfl, rfl, rfl, rfl, rfl, rfl, rfl, rfl, rfl, rfl⟩
set_option maxHeartbeats 16000000 in
set_option maxRecDepth 1000000 in
theorem a13_wp {gr g hc : Nat} {s : ByteArray} (p : ByteArray) (A6 : Option Addr) (n6 c6 i n : Nat) (j : Nat) (w : World) (hji : j ≤ i) (hi : i ≤ p.size) (xs : List ByteArray) (hl : xs.length ≤ 1000000) (hrow : w.ownsRow 0 9 1 (.slice A6 n6 c6) xs.length (encs Value.string xs)) (Q : Exit → Act → World → Prop) {a : Act} (ha : A1 gr g hc s p A6 n6 c6 i n j a)
    (hq : ∀ a' A' n' c' W1, A1 gr g hc s p A' n' c' i n j a' → W1.ownsRow 0 9 1 (.slice A' n' c') (xs ++ [p.extract j i]).length (encs Value.string (xs ++ [p.extract j i])) → Only (fun q => (Value.slice A6 n6 c6).ownBlock = some q) w W1 → ((Value.slice A' n' c').ownBlock = (Value.slice A6 n6 c6).ownBlock ∨ ∃ b, (Value.slice A' n' c').ownBlock = some b ∧ w.heap.size ≤ b) → Q .normal a' W1) :
    Code.wp Try.prog a13 Q a w := by
  have hsl : ∀ W : World, (Instr.slice 9 (.string p) (some (.int .i64 (j : Int))) (some (.int .i64 (i : Int))) none).run Try.prog W = .ok (.string (p.extract j i)) W := fun W => by
    have := run_slice_string (P := Try.prog) (w := W) 9 p .i64 .i64 (j : Int) (i : Int) Try.underlying9 (by omega) (by omega) (by omega)
    simpa using this
  have HROW := Aside0.mk hrow
  have HL := Aside0.mk hl
  have HQ := Aside0.mk hq
  clear hq hrow hl
  obtain ⟨x, rfl⟩ := ha.lit
  clear ha
  conv => arg 2; whnf
  go_wp2_with ((with_reducible refine gate_builtin (b := .append) (xs := #[.tmp 48, .tmp 53]) rfl ?_); at_builtin; refine app_SV rfl (.tmp 48) (.tmp 53) rfl (.slice A6 n6 c6) xs (p.extract j i) _ _ rfl rfl (own_move HROW.out fun k hk => (below_alloc (Below.refl _ _) _).block k (by obtain ⟨C, hC⟩ := own_typed HROW.out k hk; exact (Array.getElem?_eq_some_iff.1 hC).1)) (one_S (by unfold World.cell?; rw [heap_alloc_new]; rfl)) HL.out ?_; intro v1 W3 hr hon hat; obtain ⟨g3, c3, rfl⟩ := strs_some hr; rw [show (xs ++ [p.extract j i]).length = xs.length + 1 by simp] at hr hat; have HR := Aside0.mk hr; have HON := Aside0.mk hon; have HAT := Aside0.mk hat; clear hr hon hat)
  exact HQ.out _ _ _ _ _ ⟨rfl, rfl, rfl, rfl, rfl, rfl, rfl, rfl, rfl, rfl⟩ (by have := HR.out; simpa using this) ((Only.of_below (S := fun j => (Value.slice A6 n6 c6).ownBlock = some j) (below_alloc (Below.refl _ _) _)).trans HON.out (fun i _ hs => hs)) (HAT.out.imp id fun ⟨b, q1, q2⟩ => ⟨b, q1, Nat.le_trans (below_alloc (Below.refl _ _) _).size q2⟩)
set_option maxHeartbeats 16000000 in
set_option maxRecDepth 1000000 in
theorem a21_wp {gr g hc : Nat} {s : ByteArray} (p : ByteArray) (A6 : Option Addr) (n6 c6 i n : Nat) (w : World) (hi : i < p.size) (hz : p.size ≤ 1000000) (xs : List ByteArray) (hl : xs.length ≤ 1000000) (hrow : w.ownsRow 0 9 1 (.slice A6 n6 c6) xs.length (encs Value.string xs)) (Q : Exit → Act → World → Prop) {a : Act} (ha : A0 gr g hc s p A6 n6 c6 i n a)
    (hq : ∀ a' A' n' c' W1, A0 gr g hc s p A' n' c' i n a' → W1.ownsRow 0 9 1 (.slice A' n' c') (xs ++ [p.extract (i + 1) p.size]).length (encs Value.string (xs ++ [p.extract (i + 1) p.size])) → Only (fun q => (Value.slice A6 n6 c6).ownBlock = some q) w W1 → ((Value.slice A' n' c').ownBlock = (Value.slice A6 n6 c6).ownBlock ∨ ∃ b, (Value.slice A' n' c').ownBlock = some b ∧ w.heap.size ≤ b) → Q .normal a' W1) :
    Code.wp Try.prog a21 Q a w := by
  have wx := wrap_succ (n := 1000000) (show i < 1000000 by omega) (by decide)
  have wx2 : wrap64 ((i : Int) + 1) = (i : Int) + 1 := by rw [wx]; omega
  clear wx
  have hsl : ∀ W : World, (Instr.slice 9 (.string p) (some (.int .i64 ((i : Int) + 1))) none none).run Try.prog W = .ok (.string (p.extract (i + 1) p.size)) W := fun W => by
    have := run_slice_string_l (P := Try.prog) (w := W) (t := 9) (s := p) Try.underlying9 .i64 ((i : Int) + 1) (by omega) (by omega)
    rwa [show ((i : Int) + 1).toNat = i + 1 by omega] at this
  have HROW := Aside0.mk hrow
  have HL := Aside0.mk hl
  have HQ := Aside0.mk hq
  clear hq hrow hl
  obtain ⟨x, rfl⟩ := ha.lit
  clear ha
  conv => arg 2; whnf
  go_wp2_with ((with_reducible refine gate_builtin (b := .append) (xs := #[.tmp 91, .tmp 96]) rfl ?_); at_builtin; refine app_SV rfl (.tmp 91) (.tmp 96) rfl (.slice A6 n6 c6) xs (p.extract (i + 1) p.size) _ _ rfl rfl (own_move HROW.out fun k hk => (below_alloc (Below.refl _ _) _).block k (by obtain ⟨C, hC⟩ := own_typed HROW.out k hk; exact (Array.getElem?_eq_some_iff.1 hC).1)) (one_S (by unfold World.cell?; rw [heap_alloc_new]; rfl)) HL.out ?_; intro v1 W3 hr hon hat; obtain ⟨g3, c3, rfl⟩ := strs_some hr; rw [show (xs ++ [p.extract (i + 1) p.size]).length = xs.length + 1 by simp] at hr hat; have HR := Aside0.mk hr; have HON := Aside0.mk hon; have HAT := Aside0.mk hat; clear hr hon hat)
  exact HQ.out _ _ _ _ _ ⟨rfl, rfl, rfl, rfl, rfl, rfl, rfl, rfl, rfl⟩ (by have := HR.out; simpa using this) ((Only.of_below (S := fun j => (Value.slice A6 n6 c6).ownBlock = some j) (below_alloc (Below.refl _ _) _)).trans HON.out (fun i _ hs => hs)) (HAT.out.imp id fun ⟨b, q1, q2⟩ => ⟨b, q1, Nat.le_trans (below_alloc (Below.refl _ _) _).size q2⟩)
set_option maxHeartbeats 16000000 in
set_option maxRecDepth 1000000 in
theorem a14_wp {gr g hc : Nat} {s : ByteArray} (p : ByteArray) (A6 : Option Addr) (n6 c6 i n : Nat) (j : Nat) (w : World) (hj : j ≤ p.size) (hi : i ≤ p.size) (hz : p.size ≤ 1000000) (Q : Exit → Act → World → Prop) {a : Act} (ha : A1 gr g hc s p A6 n6 c6 i n j a) (hq : ∀ a' w', A1 gr g hc s (p.extract 0 j ++ p.extract i p.size) A6 n6 c6 i n j a' → Below w.heap.size w w' → Q .normal a' w') : Code.wp Try.prog a14 Q a w := by
  have HQ := Aside0.mk hq
  clear hq
  have hs1 : ∀ W : World, (Instr.slice 9 (.string p) none (some (.int .i64 (j : Int))) none).run Try.prog W = .ok (.string (p.extract 0 j)) W := fun W => by
    have := run_slice_string_h (P := Try.prog) (w := W) (t := 9) (s := p) Try.underlying9 .i64 (j : Int) (by omega) (by omega)
    simpa using this
  have hs2 : ∀ W : World, (Instr.slice 9 (.string p) (some (.int .i64 (i : Int))) none none).run Try.prog W = .ok (.string (p.extract i p.size)) W := fun W => by
    have := run_slice_string_l (P := Try.prog) (w := W) (t := 9) (s := p) Try.underlying9 .i64 (i : Int) (by omega) (by omega)
    simpa using this
  have z1 : (p.extract 0 j).size ≤ 1000000 := by rw [ByteArray.size_extract]; omega
  have z2 : (p.extract i p.size).size ≤ 1000000 := by rw [ByteArray.size_extract]; omega
  obtain ⟨x1, hx1⟩ : ∃ y, y = p.extract 0 j := ⟨_, rfl⟩
  obtain ⟨x2, hx2⟩ : ∃ y, y = p.extract i p.size := ⟨_, rfl⟩
  rw [← hx1, ← hx2] at HQ
  rw [← hx1] at z1 hs1
  rw [← hx2] at z2 hs2
  clear hx1 hx2
  obtain ⟨x, rfl⟩ := ha.lit
  clear ha
  conv => arg 2; whnf
  go_still_tail 6, (by kernel_rfl)
  change wpList _ _ _ _ _ w.drew
  have hdr : Below w.heap.size w w.drew := below_drew1 (Below.refl _ _)
  generalize w.drew = W2 at hdr ⊢
  have HDR := Aside0.mk hdr
  clear hdr
  go_wp2
  all_goals first
    | (exfalso; rename_i h; first | omega | (simp [ByteArray.size_append] at h; omega))
    | exact HQ.out _ _ ⟨rfl, rfl, rfl, rfl, rfl, rfl, rfl, rfl, rfl, rfl⟩ HDR.out
end Go.Proofs.Ytekjffooblcmnaa.Q
end
section
namespace Go.Proofs.Ytekjffooblcmnaa.Rh
set_option linter.unusedSimpArgs false
open Go.RowKit Go.Proofs.YtekjffooblcmnaaW.PrintWords Go.Proofs.YtekjffooblcmnaaW.PrintLast Go.Proofs.YtekjffooblcmnaaW.PrintMore
open Go.Proofs.Ytekjffooblcmnaa.Ob (Only OBJ)
open Go.Proofs.Ytekjffooblcmnaa.Rt (Nd Dat Tb Ch put)
set_option linter.unusedVariables false
@[reducible] def bT : Blk := ⟨fun _ => True⟩
@[reducible] def bB (n : Nat) : Blk := ⟨fun k => k < n⟩
section
variable {W W' : World} {t : Tb} {φ : Nat → Nat} {K : Nat → Value} {g : Nat} {nd : Nd} {kv : Value}
theorem DR.chg {b b' : Blk} {o : Option Dat} {pp : ByteArray} {pv hv : Value} (h : @DR b W o pp pv hv) (hx : ∀ k, k < W.heap.size → b.X k → b'.X k) : @DR b' W o pp pv hv := by
  cases o with
  | none => exact h
  | some d =>
    obtain ⟨h1, h2, xs, h3, h4, h5⟩ := h
    refine ⟨h1, h2, xs, h3, h4, fun k hk => hx k ?_ (h5 k hk)⟩
    rcases hk with hk | hk
    · obtain ⟨C, hC⟩ := own_typed h2 k hk
      exact (Array.getElem?_eq_some_iff.1 hC).1
    · obtain ⟨C, hC⟩ := own_typed h4 k hk
      exact (Array.getElem?_eq_some_iff.1 hC).1
theorem NR.chg {b b' : Blk} (h : @NR b W φ g nd kv) (hx : ∀ k, k < W.heap.size → b.X k → b'.X k) : @NR b' W φ g nd kv := by
  obtain ⟨lab, pre, pp, pv, hv, lf, h1, h2, h3, h4, h5⟩ := h
  exact ⟨lab, pre, pp, pv, hv, lf, h1, h2, h3, h4.chg hx, h5⟩
theorem HT.chg {b b' : Blk} (h : @HT b W t φ K) (hx : ∀ k, k < W.heap.size → b.X k → b'.X k) : @HT b' W t φ K :=
  ⟨@HT.inj b W t φ K h, fun x nd hb => NR.chg (@HT.node b W t φ K h x nd hb) hx, @HT.sep b W t φ K h⟩
variable [b0 : Blk]
theorem DR.moveX {o : Option Dat} {pp : ByteArray} {pv hv : Value} (h : DR W o pp pv hv) (hm : ∀ k, k < W.heap.size → Blk.X k → ¬ Srt W k → W'.heap[k]? = W.heap[k]?) : DR W' o pp pv hv := by
  have key : ∀ (e : TypeId) n v xs, e ≠ 52 → e ≠ 46 → W.ownsRow 0 e 1 v n xs → (∀ k, v.ownBlock = some k → Blk.X k) → W'.ownsRow 0 e 1 v n xs := fun e n v xs h1 h2 ho hX => own_move ho fun k hk => by
    obtain ⟨C, hC⟩ := own_typed ho k hk
    refine hm k (Array.getElem?_eq_some_iff.1 hC).1 (hX k hk) ?_
    rintro ⟨C', e', f', h3, h4⟩
    rw [hC] at h3
    cases h3
    exact h4.elim h1 h2
  cases o with
  | none => exact h
  | some d =>
    obtain ⟨h1, h2, xs, h3, h4, h5⟩ := h
    exact ⟨h1, key _ _ _ _ (by decide) (by decide) h2 (fun k hk => h5 k (.inl hk)), xs, h3, key _ _ _ _ (by decide) (by decide) h4 (fun k hk => h5 k (.inr hk)), h5⟩
theorem HT.onlyX {S : Nat → Prop} (h : HT W t φ K) (ho : Only S W W') (hs : ∀ k, k < W.heap.size → S k → ¬ Blk.X k ∧ ¬ Srt W k) : HT W' t φ K := by
  refine ⟨h.inj, fun b nd hb => ?_, h.sep⟩
  have hn := h.node b nd hb
  obtain ⟨lab, pre, pp, pv, hv, lf, h1, h2, h3, h4, h5⟩ := id hn
  exact ⟨lab, pre, pp, pv, hv, lf, (ho.block _ hn.lt fun e => (hs _ hn.lt e).2 hn.srt).trans h1, h2, h3, h4.moveX fun k hk hX _ => ho.block k hk fun e => (hs k hk e).1 hX, own_move h5 fun k hk => ho.block k (hn.ltK hk) fun e => (hs k (hn.ltK hk) e).2 (hn.srtK hk)⟩
end
end Go.Proofs.Ytekjffooblcmnaa.Rh
end
section
namespace Go.Proofs.Ytekjffooblcmnaa.Q
open Go.RowKit Go.Proofs.YtekjffooblcmnaaW.PrintWords Go.Proofs.YtekjffooblcmnaaW.PrintLast Go.Proofs.YtekjffooblcmnaaW.PrintMore
open Go.Proofs.YtekjffooblcmnaaKit (L size_L L_extract L_append)
open Go.Proofs.Ytekjffooblcmnaa.Ob
open Go.Proofs.Ytekjffooblcmnaa.Rh (ptr NR HT Own Srt ncell Got DR Blk bT bB)
open Go.Proofs.Ytekjffooblcmnaa.Rt (Nd Dat Tb Ch Str lcp ins put rep kidL addL steps names)
set_option linter.unusedVariables false
set_option linter.unusedSimpArgs false
theorem addL_none [Blk] {d : Dat} {s : Str} {k : Nat} {r : List (Str × Nat × Bool)} {t : Tb} {n : Nat} {x : Tb × Nat × Bool} (h : addL d ((s, k, false) :: r) t n = some x) : ∃ t1, ins (s.length + 1) t 0 s k none n (n + 1) = some (t1, false) ∧ addL d r t1 (n + 2) = some x := by
  unfold Go.Proofs.Ytekjffooblcmnaa.Rt.addL at h
  simp only [Bool.false_eq_true, if_false] at h
  cases hq : ins (s.length + 1) t 0 s k none n (n + 1) with
  | none => rw [hq] at h; cases h
  | some y =>
    obtain ⟨t1, bad⟩ := y
    rw [hq] at h
    cases bad with
    | true => have := (ins_bad _ hq).2; cases this
    | false => exact ⟨t1, rfl, h⟩
theorem addL_last {d : Dat} {s : Str} {k : Nat} {t : Tb} {n : Nat} {t' : Tb} {n' : Nat} {ok : Bool} (h : addL d [(s, k, true)] t n = some (t', n', ok)) : ins (s.length + 1) t 0 s k (some d) n (n + 1) = some (t', !ok) ∧ n' = n + 2 := by
  unfold Go.Proofs.Ytekjffooblcmnaa.Rt.addL at h
  simp only [if_true] at h
  cases hq : ins (s.length + 1) t 0 s k (some d) n (n + 1) with
  | none => rw [hq] at h; cases h
  | some y =>
    obtain ⟨t1, bad⟩ := y
    rw [hq] at h
    cases bad with
    | true => cases h; exact ⟨rfl, rfl⟩
    | false => cases h; exact ⟨rfl, rfl⟩
def AddPost (w : World) (gr : Nat) (t : Tb) (φ : Nat → Nat) (K : Nat → Value) (t' : Tb) (n' BM : Nat) (ok : Bool) (e : Ending) (w' : World) : Prop :=
  (∃ φ' K' B', B' ≤ BM ∧ @RS bT w' gr t' n' B' φ' K' ∧ @Got bT w w' t t' φ φ' K K') ∧ ((ok = true ∧ e = .returned (.tuple #[])) ∨ (ok = false ∧ ∃ u pv, e = .panicked [{ v := .iface u pv, recovered := false }]))
structure AR (w wr : World) (gr : Nat) (t : Tb) (φ : Nat → Nat) (K : Nat → Value) (t' : Tb) (n' BM : Nat) (ok : Bool) (d : Dat) (s : ByteArray) (H : Option Addr) (hc : Nat) (p : ByteArray) (v6 : Value) (done rest : Str) : Prop where
  ex : ∃ (ns : List Str) (tc : Tb) (nc Bc : Nat) (φc : Nat → Nat) (Kc : Nat → Value) (f : Nat), rest.length < f ∧ addL d (steps f done rest) tc nc = some (t', n', ok) ∧ ns ++ names f rest = d.pn ∧ @RS (bB w.heap.size) wr gr tc nc Bc φc Kc ∧ @Got (bB w.heap.size) w wr t tc φ φc K Kc ∧ (∀ x, t x ≠ none → tc x ≠ none) ∧ @DR bT wr (some ⟨d.place, d.pp, ns⟩) s v6 (.slice H 1 hc) ∧ 2 ≤ Bc ∧ Bc + 2 * rest.length + 2 ≤ BM ∧ ns.length ≤ done.length
  path : L p = done ++ rest
  first : done = [] → ∃ r, rest = 47 :: r
  size : p.size ≤ s.size
  fresh : ∀ k, v6.ownBlock = some k → w.heap.size ≤ k
theorem RS.chg {b b' : Blk} {w : World} {gr n B : Nat} {t : Tb} {φ : Nat → Nat} {K : Nat → Value} (h : @RS b w gr t n B φ K) (hx : ∀ k, k < w.heap.size → b.X k → b'.X k) : @RS b' w gr t n B φ K :=
  ⟨Go.Proofs.Ytekjffooblcmnaa.Rh.HT.chg (@RS.ht b w gr t n B φ K h) hx, @RS.wf b w gr t n B φ K h, @RS.sb b w gr t n B φ K h, @RS.root b w gr t n B φ K h, @RS.cell b w gr t n B φ K h⟩
theorem got_chg {b b' : Blk} {w w' : World} {t t' : Tb} {φ φ' : Nat → Nat} {K K' : Nat → Value} (h : @Got b w w' t t' φ φ' K K') (hx : ∀ k, k < w'.heap.size → b.X k → b'.X k) : @Got b' w w' t t' φ φ' K K' :=
  ⟨Go.Proofs.Ytekjffooblcmnaa.Rh.HT.chg (@Go.Proofs.Ytekjffooblcmnaa.Rh.Got.ht b w w' t t' φ φ' K K' h) hx, @Go.Proofs.Ytekjffooblcmnaa.Rh.Got.on b w w' t t' φ φ' K K' h, @Go.Proofs.Ytekjffooblcmnaa.Rh.Got.new b w w' t t' φ φ' K K' h, @Go.Proofs.Ytekjffooblcmnaa.Rh.Got.same b w w' t t' φ φ' K K' h⟩
def IP [Blk] (w : World) (gr n B : Nat) (t : Tb) (φ : Nat → Nat) (K : Nat → Value) (t1 : Tb) (bad : Bool) (e : Ending) (w' : World) : Prop := (bad = true ∧ (∃ u pv, e = .panicked [{ v := .iface u pv, recovered := false }]) ∧ Below w.heap.size w w' ∧ t1 = t) ∨ (bad = false ∧ e = .returned (.tuple #[]) ∧ (∀ x, t x ≠ none → t1 x ≠ none) ∧ ∃ φ' K', RS w' gr t1 (n + 2) (B + 1) φ' K' ∧ Got w w' t t1 φ φ' K K')
theorem IP.ends [Blk] {w : World} {gr n B : Nat} {t : Tb} {φ : Nat → Nat} {K : Nat → Value} {t1 : Tb} {bad : Bool} {e : Ending} {w' : World} (h : IP w gr n B t φ K t1 bad e w') : e = .returned (.tuple #[]) ∨ ∃ ch, e = .panicked ch := by
  rcases h with ⟨_, ⟨u, pv, e⟩, _⟩ | ⟨_, e, _⟩
  · exact .inr ⟨_, e⟩
  · exact .inl e
theorem IP.good [Blk] {w : World} {gr n B : Nat} {t : Tb} {φ : Nat → Nat} {K : Nat → Value} {t1 : Tb} {e : Ending} {w' : World} (h : IP w gr n B t φ K t1 false e w') : e = .returned (.tuple #[]) ∧ (∀ x, t x ≠ none → t1 x ≠ none) ∧ ∃ φ' K', RS w' gr t1 (n + 2) (B + 1) φ' K' ∧ Got w w' t t1 φ φ' K K' := by
  rcases h with ⟨e, _⟩ | ⟨_, e, h⟩
  · cases e
  · exact ⟨e, h⟩
section
variable [Blk] {w wr : World} {gr : Nat} {t : Tb} {φ : Nat → Nat} {K : Nat → Value} {t' : Tb} {n' BM : Nat} {ok : Bool}
theorem post_last {tc : Tb} {nc Bc : Nat} {φc : Nat → Nat} {Kc : Nat → Value} {e : Ending} {w' : World} (h : @IP bT wr gr nc Bc tc φc Kc t' (!ok) e w') (R : @RS bT wr gr tc nc Bc φc Kc) (G : @Got bT w wr t tc φ φc K Kc) (hu : ∀ x, t x ≠ none → tc x ≠ none) (hn : n' = nc + 2) (hB : Bc + 1 ≤ BM) : AddPost w gr t φ K t' n' BM ok e w' := by
  letI := bT
  subst hn
  rcases h with ⟨h1, ⟨u, pv, rfl⟩, hb, rfl⟩ | ⟨h1, rfl, hu2, φ', K', R', G'⟩
  · refine ⟨⟨φc, Kc, Bc, by omega, (R.below hb).more (by omega) (Nat.le_refl _), G.to_ hb⟩, .inr ⟨by simpa using h1, u, pv, rfl⟩⟩
  · exact ⟨⟨φ', K', Bc + 1, hB, R', G.trans G' hu⟩, .inl ⟨by simpa using h1, rfl⟩⟩
end
theorem names_grow {w w2 w3 : World} {gr : Nat} {t : Tb} {φ : Nat → Nat} {K : Nat → Value} {tc : Tb} {nc Bc : Nat} {φc : Nat → Nat} {Kc : Nat → Value} (R : @RS (bB w.heap.size) w2 gr tc nc Bc φc Kc) (G : @Got (bB w.heap.size) w w2 t tc φ φc K Kc) {v6 : Value} {ys : List ByteArray} (hrow : w2.ownsRow 0 9 1 v6 ys.length (encs Value.string ys)) (hfr : ∀ k, v6.ownBlock = some k → w.heap.size ≤ k) (on : Only (fun q => v6.ownBlock = some q) w2 w3) : @RS (bB w.heap.size) w3 gr tc nc Bc φc Kc ∧ @Got (bB w.heap.size) w w3 t tc φ φc K Kc := by
  letI := bB w.heap.size
  have hns : ∀ k, v6.ownBlock = some k → ¬ Srt w2 k := fun k hk ⟨C, e, f, h1, h2⟩ => by
    obtain ⟨C', hC'⟩ := own_typed hrow k hk
    rw [h1] at hC'
    cases hC'
    rcases h2 with h2 | h2 <;> cases h2
  have ht : HT w3 tc φc Kc := R.ht.onlyX on fun k hk e => ⟨fun hx => by
    have := hfr k e
    have hx : k < w.heap.size := hx
    omega, hns k e⟩
  refine ⟨⟨ht, R.wf, R.sb, R.root, ?_⟩, ht, G.on.trans on fun i hi e => ?_, G.new, G.same⟩
  · obtain ⟨C, f, hg, hc⟩ := R.cell
    refine ⟨C, f, (on.block gr R.lt fun e => ?_).trans hg, hc⟩
    obtain ⟨C', hC'⟩ := own_typed hrow _ e
    rw [hg] at hC'
    cases hC'
  · have := hfr i e
    omega
theorem pth {p : ByteArray} {done rest : Str} {c : UInt8} (h : L p = done ++ c :: rest) (hi : done.length < p.size) : (p[done.length]'hi) = c := by
  have h1 := getV hi
  rw [h, List.getElem?_append_right (Nat.le_refl _), Nat.sub_self] at h1
  exact (Option.some.inj h1).symm
theorem steps_58 (f : Nat) (done r : Str) : steps (f + 1) done (58 :: r) = (done, 0, false) :: (match r.dropWhile (· != 47) with
        | [] => [(done ++ [58], 1, true)]
        | x :: r' => (done ++ [58], 1, false) :: steps f (done ++ [58, x]) r') := rfl
theorem names_58 (f : Nat) (r : Str) : names (f + 1) (58 :: r) = r.takeWhile (· != 47) :: (match r.dropWhile (· != 47) with
        | [] => []
        | _ :: r' => names f r') := rfl
theorem steps_42 (f : Nat) (done r : Str) : steps (f + 1) done (42 :: r) = [(done, 0, false), (done ++ [42], 2, true)] := rfl
theorem names_42 (f : Nat) (r : Str) : names (f + 1) (42 :: r) = [r] := rfl
theorem steps_c {c : UInt8} (h1 : c ≠ 58) (h2 : c ≠ 42) (f : Nat) (done r : Str) : steps (f + 1) done (c :: r) = steps f (done ++ [c]) r := by
  show (if c = 58 then _ else if c = 42 then _ else _) = _
  rw [if_neg h1, if_neg h2]
theorem names_c {c : UInt8} (h1 : c ≠ 58) (h2 : c ≠ 42) (f : Nat) (r : Str) : names (f + 1) (c :: r) = names f r := by
  show (if c = 58 then _ else if c = 42 then _ else _) = _
  rw [if_neg h1, if_neg h2]
theorem take_mid : ∀ (a r : Str) (c : UInt8), (a ++ c :: r).take (a.length + 1) = a ++ [c]
  | [], r, c => rfl
  | x :: a, r, c => congrArg (x :: ·) (take_mid a r c)
theorem drop_mid (a b r : Str) (c : UInt8) : (a ++ c :: (b ++ r)).drop (a.length + 1 + b.length) = r := by
  rw [show a ++ c :: (b ++ r) = (a ++ [c] ++ b) ++ r by simp]
  exact List.drop_left' (by simp; omega)
set_option maxHeartbeats 4000000 in
theorem aloop_wp {w : World} {gr : Nat} {t : Tb} {φ : Nat → Nat} {K : Nat → Value} {t' : Tb} {n' BM : Nat} {ok : Bool} {d : Dat} {s : ByteArray} {g hc : Nat} (hsz : s.size ≤ 1000000) (hBM : BM ≤ 1000000) (Q : Exit → Act → World → Prop) {a : Act} {w0 : World}
    (h0 : ∃ p A6 n6 c6 done rest, A0 gr g hc s p A6 n6 c6 done.length p.size a ∧ AR w w0 gr t φ K t' n' BM ok d s (some ⟨g, 0, none⟩) hc p (.slice A6 n6 c6) done rest)
    (hend : ∀ a' w' p A6 n6 c6 done, A0 gr g hc s p A6 n6 c6 done.length p.size a' → AR w w' gr t φ K t' n' BM ok d s (some ⟨g, 0, none⟩) hc p (.slice A6 n6 c6) done [] → Q (.exit 0) a' w')
    (hret : ∀ a' w', a'.defers = [] → AddPost w gr t φ K t' n' BM ok (.returned (.tuple #[])) w' → Q .ret a' w')
    (hpan : ∀ a' w' ch, a'.defers = [] → AddPost w gr t φ K t' n' BM ok (.panicked ch) w' → Q (.panic ch) a' w') : Code.wp Try.prog (.loop aL) Q a w0 := by
  refine wp_loop (fun a w' => ∃ p A6 n6 c6 done rest, A0 gr g hc s p A6 n6 c6 done.length p.size a ∧ AR w w' gr t φ K t' n' BM ok d s (some ⟨g, 0, none⟩) hc p (.slice A6 n6 c6) done rest) (fun a _ => natV (a.tmps.getD 9 undef) - natV (a.tmps.getD 8 undef)) h0 ?_
  rintro a1 w1 ⟨p, A6, n6, c6, done, rest, hA, HA⟩
  have hps : p.size = done.length + rest.length := by rw [size_L, HA.path, List.length_append]
  have hp2 : p.size ≤ 1000000 := Nat.le_trans HA.size hsz
  have mu : ∀ {p A6 n6 c6 i n a}, A0 gr g hc s p A6 n6 c6 i n a → natV (a.tmps.getD 9 undef) - natV (a.tmps.getD 8 undef) = n - i := fun {p A6 n6 c6 i n a} h => by
    obtain ⟨_, _, _, _, _, _, _, h8, h9⟩ := h
    rw [h8, h9]
    show (n : Int).toNat - (i : Int).toNat = _
    omega
  obtain ⟨ns, tc, nc, Bc, φc, Kc, f, h1, h2, h3, h4, h5, hu, h6, h7, h8, h9⟩ := HA.ex
  rw [aL_eq]
  refine wp_seq (wp_seq (a6_wp _ _ _ _ _ _ w1 _ hA fun a2 g2 e2 => wp_cond e2 ?_))
  cases rest with
  | nil =>
    have hlt : ¬ done.length < p.size := by simp at hps; omega
    rw [decide_eq_false hlt, if_neg (by decide)]
    refine wp_exit ?_
    exact hend a2 w1 p A6 n6 c6 done g2 HA
  | cons c r =>
    have hlt : done.length < p.size := by simp at hps; omega
    have hcc : (p[done.length]'hlt) = c := pth HA.path hlt
    have hlr : (c :: r).length = r.length + 1 := rfl
    rw [hlr] at hps h1 h8
    have hd0 : 47 = c ∨ 0 < done.length := by
      cases hq : done with
      | nil => obtain ⟨r', hr⟩ := HA.first hq; cases hr; exact .inl rfl
      | cons a b => exact .inr (by simp)
    have e0 : L (p.extract 0 done.length) = done := by
      rw [L_extract, HA.path]
      simp
    have ez : (p.extract 0 done.length).size = done.length := by rw [ByteArray.size_extract]; omega
    rw [decide_eq_true hlt, if_pos rfl]
    refine wp_skip ?_
    show Code.wp Try.prog _ _ a2 w1
    have next : ∀ (p' : ByteArray) (A' : Option Addr) (n6' c6' i' : Nat) (done' rest' : Str) (a' : Act) (w' : World), A0 gr g hc s p' A' n6' c6' i' p'.size a' → i' < 1000000 → done'.length = i' + 1 → p'.size - (i' + 1) < p.size - done.length → AR w w' gr t φ K t' n' BM ok d s (some ⟨g, 0, none⟩) hc p' (.slice A' n6' c6') done' rest' → Code.wp Try.prog a7 (Exit.then (fun a' w' => (∃ p A6 n6 c6 done rest, A0 gr g hc s p A6 n6 c6 done.length p.size a' ∧ AR w w' gr t φ K t' n' BM ok d s (some ⟨g, 0, none⟩) hc p (.slice A6 n6 c6) done rest) ∧ natV (a'.tmps.getD 9 undef) - natV (a'.tmps.getD 8 undef) < natV (a1.tmps.getD 9 undef) - natV (a1.tmps.getD 8 undef)) Q) a' w' := fun p' A' n6' c6' i' done' rest' a' w' g1 hi1 hd1 hlt1 HA1 => by
      refine a7_wp _ _ _ _ _ _ w' hi1 _ g1 fun a9 g9 => ?_
      rw [← hd1] at g9
      refine ⟨⟨p', A', n6', c6', done', rest', g9, HA1⟩, ?_⟩
      rw [mu g9, mu hA, hd1]
      exact hlt1
    refine wp_seq (wp_block (wp_seq (a8_wp _ _ _ _ _ _ w1 hlt _ g2 fun a3 g3 e3 => wp_cond e3 ?_)))
    rw [hcc]
    cases f with
    | zero => exact absurd h1 (Nat.not_lt_zero _)
    | succ f =>
    by_cases c58 : c = 58
    · rw [decide_eq_true c58, if_pos rfl]
      subst c58
      have hd1 : 0 < done.length := hd0.resolve_left (by decide)
      rw [steps_58] at h2
      rw [names_58] at h3
      letI := bB w.heap.size
      obtain ⟨t1, k1, k2⟩ := addL_none h2
      have k1' : ins (done.length + 1) tc 0 (L (p.extract 0 done.length)) 0 none nc (nc + 1) = some (t1, false) := by rw [e0]; exact k1
      have hC := insert_step h4 h7 (by omega) (p.extract 0 done.length) ⟨#[]⟩ (by omega) (by omega) (by decide) 0 (.inl rfl) none none none 0 0 0 0 ⟨rfl, none, 0, 0, rfl⟩ _ k1'
      refine wp_seq (a9_wp _ _ _ _ _ _ w1 (by omega) _ g3 fun a4 g4 => ?_)
      show Code.wp Try.prog _ _ a4 w1
      refine wp_seq (a10_wp _ _ _ _ _ _ _ w1 (by omega) (IP w1 gr nc Bc tc φc Kc t1 false) hC (fun e w' h => h.ends) _ g4 (fun a5 w2 g5 hP => ?_) (fun a' w' ch hdf hP => by have := hP.good.1; cases this))
      obtain ⟨_, hu2, φ1, K1, R1, G1⟩ := hP.good
      have G2 := h5.trans G1 hu
      have hu3 : ∀ x, t x ≠ none → t1 x ≠ none := fun x hx => hu2 x (hu x hx)
      have D1 : @DR bT w2 (some ⟨d.place, d.pp, ns⟩) s (.slice A6 n6 c6) (.slice (some ⟨g, 0, none⟩) 1 hc) := @DR.only bT w1 w2 _ _ _ _ _ h6 G1.on fun k hk hs => Go.Proofs.Ytekjffooblcmnaa.Rh.Own.srt h4.ht hs
      show Code.wp Try.prog _ _ a5 w2
      obtain ⟨nm, hnm⟩ : ∃ x, x = r.takeWhile (· != 47) := ⟨_, rfl⟩
      obtain ⟨tl, htl⟩ : ∃ x, x = r.dropWhile (· != 47) := ⟨_, rfl⟩
      have hr : r = nm ++ tl := by rw [hnm, htl]; exact (List.takeWhile_append_dropWhile ..).symm
      rw [← hnm, ← htl] at h3
      rw [← htl] at k2
      have hrl : r.length = nm.length + tl.length := by rw [hr, List.length_append]
      have hdrop : (L p).drop done.length = 58 :: r := by rw [HA.path]; simp
      have hseg : done.length + (segV ((L p).drop done.length)).length = done.length + 1 + nm.length := by
        rw [hdrop]
        show done.length + (58 :: r.takeWhile (· != 47)).length = _
        rw [← hnm, List.length_cons]; omega
      refine wp_seq (ab2_wp _ _ _ _ _ _ w2 _ (by omega) hseg hp2 _ g5 fun a6 g6 => ?_)
      show Code.wp Try.prog _ _ a6 w2
      obtain ⟨q1, q2, ys, q3, q4, _⟩ := D1
      have hyl : ys.length = ns.length := by rw [← List.length_map (f := fun x : ByteArray => x.data.toList), q3]
      refine wp_seq (a13_wp _ _ _ _ _ _ _ w2 (by omega) (by omega) ys (by omega) q4 _ g6 fun a7 A' n7 c7 w3 g7 row on hat => ?_)
      show Code.wp Try.prog _ _ a7 w3
      have hfr := HA.fresh
      obtain ⟨R3, G3⟩ := names_grow R1 G2 q4 hfr on
      have hfr3 : ∀ k, (Value.slice A' n7 c7).ownBlock = some k → w.heap.size ≤ k := fun k hk => by
        rcases hat with e | ⟨b, e, hb⟩
        · exact hfr k (by rw [← e]; exact hk)
        · rw [e] at hk; cases hk
          exact Nat.le_trans G2.on.size hb
      have exn : L (p.extract (done.length + 1) (done.length + 1 + nm.length)) = nm := by
        rw [L_extract, HA.path, hr]
        simp
      have D3 : @DR bT w3 (some ⟨d.place, d.pp, ns ++ [nm]⟩) s (.slice A' n7 c7) (.slice (some ⟨g, 0, none⟩) 1 hc) := ⟨q1, own_move q2 (fun k hk => on.block k (by
          obtain ⟨C, hC⟩ := own_typed q2 k hk
          exact (Array.getElem?_eq_some_iff.1 hC).1) fun e => by
          obtain ⟨C, hC⟩ := own_typed q2 k hk
          obtain ⟨C', hC'⟩ := own_typed q4 k e
          rw [hC] at hC'
          cases hC'), ys ++ [p.extract (done.length + 1) (done.length + 1 + nm.length)], by
          rw [List.map_append, q3, List.map_singleton]
          exact congrArg (fun x => ns ++ [x]) exn, row, fun _ _ => trivial⟩
      refine wp_seq (a14_wp _ _ _ _ _ _ _ w3 (by omega) (by omega) hp2 _ g7 fun a8 w4 g8 b4 => ?_)
      show Code.wp Try.prog _ _ a8 w4
      have R4 := R3.below b4
      have G4 := G3.to_ b4
      have D4 := @DR.below bT w3 w4 _ _ _ _ D3 b4
      obtain ⟨p', hp'⟩ : ∃ x, x = p.extract 0 (done.length + 1) ++ p.extract (done.length + 1 + nm.length) p.size := ⟨_, rfl⟩
      rw [← hp'] at g8
      have hLp' : L p' = (done ++ [58]) ++ tl := by
        have x1 : L (p.extract 0 (done.length + 1)) = done ++ [58] := by
          rw [L_extract, HA.path]
          exact take_mid done r 58
        have x2 : L (p.extract (done.length + 1 + nm.length) p.size) = tl := by
          rw [L_extract, HA.path, hr, drop_mid]
          exact List.take_of_length_le (by omega)
        rw [hp', L_append, x1, x2]
      have hsz' : p'.size = done.length + 1 + tl.length := by rw [size_L, hLp', List.length_append, List.length_append]; rfl
      refine wp_seq (a15_wp _ _ _ _ _ _ _ w4 _ g8 fun a9 g9 => ?_)
      show Code.wp Try.prog _ _ a9 w4
      have e1 : L (p'.extract 0 (done.length + 1)) = done ++ [58] := by
        rw [L_extract, hLp']
        exact List.take_left' (by simp)
      have ez1 : (p'.extract 0 (done.length + 1)).size = done.length + 1 := by rw [ByteArray.size_extract]; omega
      refine wp_seq (a16_wp _ _ _ _ _ _ _ w4 _ g9 fun a10 g10 e10 => wp_cond e10 ?_)
      cases hq : tl with
      | nil =>
        rw [hq] at k2 h3 hsz' hLp'
        rw [decide_eq_true (by rw [hsz']; rfl), if_pos rfl]
        obtain ⟨m1, m2⟩ := addL_last (show addL d [(done ++ [58], 1, true)] t1 (nc + 2) = _ from k2)
        rw [← e1] at m1
        have hxs : ns ++ [nm] = d.pn := h3
        rw [hxs] at D4
        letI := bT
        have hC2 := insert_step (RS.chg (b' := bT) R4 fun _ _ _ => trivial) (by omega) (by omega) (p'.extract 0 (done.length + 1)) s (by omega) (by omega) hsz 1 (.inr (.inl rfl)) (some d) _ _ _ _ _ _ D4 _ m1
        have R5 := RS.chg (b' := bT) R4 fun _ _ _ => trivial
        have G5 := got_chg (b' := bT) G4 fun _ _ _ => trivial
        refine wp_seq (a17_wp _ _ _ _ _ _ _ w4 (by omega) (IP w4 gr (nc + 2) (Bc + 1) t1 φ1 K1 t' (!ok)) hC2 (fun e w' h => h.ends) _ g10 (fun a11 w5 g11 hP => ?_) (fun a' w' ch hdf hP => hpan _ _ ch hdf (post_last hP R5 G5 hu3 m2 (by omega))))
        exact wp_ret (hret _ _ g11.2.1 (post_last hP R5 G5 hu3 m2 (by omega)))
      | cons x r' =>
        rw [hq] at k2 h3 hsz' hLp' hrl
        have hx : x = 47 := by
          have h1 : (r.dropWhile (· != 47)).head? = some x := by rw [← htl, hq]; rfl
          have h2 := List.head?_dropWhile_not (p := (· != 47)) (l := r)
          rw [h1] at h2
          simpa using h2
        subst hx
        rw [decide_eq_false (by rw [hsz']; simp), if_neg (by decide)]
        obtain ⟨t2, m1, m2⟩ := addL_none (show addL d ((done ++ [58], 1, false) :: steps f (done ++ [58, 47]) r') t1 (nc + 2) = _ from k2)
        rw [← e1] at m1
        have hC2 := insert_step R4 (by omega) (by omega) (p'.extract 0 (done.length + 1)) ⟨#[]⟩ (by omega) (by omega) (by decide) 1 (.inr (.inl rfl)) none none A' 0 0 n7 c7 ⟨rfl, _, _, _, rfl⟩ _ m1
        refine a18_wp _ _ _ _ _ _ _ w4 (by omega) (IP w4 gr (nc + 2) (Bc + 1) t1 φ1 K1 t2 false) hC2 (fun e w' h => h.ends) _ g10 (fun a11 w5 g11 hP => ?_) (fun a' w' ch hdf hP => by have := hP.good.1; cases this)
        obtain ⟨_, hu4, φ2, K2, R5, G5⟩ := hP.good
        have D5 : @DR bT w5 (some ⟨d.place, d.pp, ns ++ [nm]⟩) s (.slice A' n7 c7) (.slice (some ⟨g, 0, none⟩) 1 hc) := @DR.only bT w4 w5 _ _ _ _ _ D4 G5.on fun k hk hs => Go.Proofs.Ytekjffooblcmnaa.Rh.Own.srt R4.ht hs
        refine next p' A' n7 c7 (done.length + 1) (done ++ [58, 47]) r' a11 w5 g11.a0 (by rw [List.length_cons] at hrl; omega) (by simp) ?_ ⟨⟨ns ++ [nm], t2, nc + 2 + 2, Bc + 1 + 1, φ2, K2, f, ?_, m2, ?_, R5, G4.trans G5 hu3, fun x hx => hu4 x (hu3 x hx), D5, by omega, ?_, ?_⟩, ?_, ?_, ?_, hfr3⟩
        · rw [hsz', List.length_cons]
          rw [List.length_cons] at hrl
          omega
        · rw [List.length_cons] at hrl; omega
        · rw [List.append_assoc]; exact h3
        · rw [List.length_cons] at hrl; omega
        · simp; omega
        · rw [hLp']; simp
        · intro e; simp at e
        · have := HA.size
          rw [hsz', List.length_cons]
          rw [List.length_cons] at hrl
          omega
    · rw [decide_eq_false c58, if_neg (by decide)]
      refine wp_seq (a19_wp _ _ _ _ _ _ w1 hlt _ g3 fun a4 g4 e4 => wp_cond e4 ?_)
      rw [hcc]
      letI := bB w.heap.size
      by_cases c42 : c = 42
      · rw [decide_eq_true c42, if_pos rfl]
        subst c42
        have hd1 : 0 < done.length := hd0.resolve_left (by decide)
        rw [steps_42] at h2
        rw [names_42] at h3
        obtain ⟨t1, k1, k2⟩ := addL_none h2
        have k1' : ins (done.length + 1) tc 0 (L (p.extract 0 done.length)) 0 none nc (nc + 1) = some (t1, false) := by rw [e0]; exact k1
        have hC := insert_step h4 h7 (by omega) (p.extract 0 done.length) ⟨#[]⟩ (by omega) (by omega) (by decide) 0 (.inl rfl) none none none 0 0 0 0 ⟨rfl, none, 0, 0, rfl⟩ _ k1'
        refine wp_seq (a20_wp _ _ _ _ _ _ w1 (by omega) (IP w1 gr nc Bc tc φc Kc t1 false) hC (fun e w' h => h.ends) _ g4 (fun a5 w2 g5 hP => ?_) (fun a' w' ch hdf hP => by have := hP.good.1; cases this))
        obtain ⟨_, hu2, φ1, K1, R1, G1⟩ := hP.good
        have G2 := h5.trans G1 hu
        have hu3 : ∀ x, t x ≠ none → t1 x ≠ none := fun x hx => hu2 x (hu x hx)
        have D1 : @DR bT w2 (some ⟨d.place, d.pp, ns⟩) s (.slice A6 n6 c6) (.slice (some ⟨g, 0, none⟩) 1 hc) := @DR.only bT w1 w2 _ _ _ _ _ h6 G1.on fun k hk hs => Go.Proofs.Ytekjffooblcmnaa.Rh.Own.srt h4.ht hs
        show Code.wp Try.prog _ _ a5 w2
        obtain ⟨q1, q2, ys, q3, q4, _⟩ := D1
        have hyl : ys.length = ns.length := by rw [← List.length_map (f := fun x : ByteArray => x.data.toList), q3]
        refine wp_seq (a21_wp _ _ _ _ _ _ w2 hlt hp2 ys (by omega) q4 _ g5 fun a7 A' n7 c7 w3 g7 row on hat => ?_)
        show Code.wp Try.prog _ _ a7 w3
        obtain ⟨R3, G3⟩ := names_grow R1 G2 q4 HA.fresh on
        have exn : L (p.extract (done.length + 1) p.size) = r := by
          rw [L_extract, HA.path]
          rw [List.take_of_length_le (by rw [List.length_drop, List.length_append, List.length_cons, hps]; omega)]
          simp
        have D3 : @DR bT w3 (some ⟨d.place, d.pp, ns ++ [r]⟩) s (.slice A' n7 c7) (.slice (some ⟨g, 0, none⟩) 1 hc) := ⟨q1, own_move q2 (fun k hk => on.block k (by
            obtain ⟨C, hC⟩ := own_typed q2 k hk
            exact (Array.getElem?_eq_some_iff.1 hC).1) fun e => by
            obtain ⟨C, hC⟩ := own_typed q2 k hk
            obtain ⟨C', hC'⟩ := own_typed q4 k e
            rw [hC] at hC'
            cases hC'), ys ++ [p.extract (done.length + 1) p.size], by
            rw [List.map_append, q3, List.map_singleton]
            exact congrArg (fun x => ns ++ [x]) exn, row, fun _ _ => trivial⟩
        have e1 : L (p.extract 0 (done.length + 1)) = done ++ [42] := by
          rw [L_extract, HA.path]
          exact take_mid done r 42
        have ez1 : (p.extract 0 (done.length + 1)).size = done.length + 1 := by rw [ByteArray.size_extract]; omega
        obtain ⟨m1, m2⟩ := addL_last (show addL d [(done ++ [42], 2, true)] t1 (nc + 2) = _ from k2)
        rw [← e1] at m1
        have hxs : ns ++ [r] = d.pn := h3
        rw [hxs] at D3
        letI := bT
        have hC2 := insert_step (RS.chg (b' := bT) R3 fun _ _ _ => trivial) (by omega) (by omega) (p.extract 0 (done.length + 1)) s (by omega) (by omega) hsz 2 (.inr (.inr rfl)) (some d) _ _ _ _ _ _ D3 _ m1
        have R5 := RS.chg (b' := bT) R3 fun _ _ _ => trivial
        have G5 := got_chg (b' := bT) G3 fun _ _ _ => trivial
        refine wp_seq (a22_wp _ _ _ _ _ _ w3 hlt hp2 (IP w3 gr (nc + 2) (Bc + 1) t1 φ1 K1 t' (!ok)) hC2 (fun e w' h => h.ends) _ g7 (fun a11 w5 g11 hP => ?_) (fun a' w' ch hdf hP => hpan _ _ ch hdf (post_last hP R5 G5 hu3 m2 (by omega))))
        exact wp_ret (hret _ _ g11.2.1 (post_last hP R5 G5 hu3 m2 (by omega)))
      · rw [decide_eq_false c42, if_neg (by decide)]
        rw [steps_c c58 c42] at h2
        rw [names_c c58 c42] at h3
        refine wp_skip ?_
        refine next p A6 n6 c6 done.length (done ++ [c]) r a4 w1 g4 (by omega) (by simp) (by omega) ⟨⟨ns, tc, nc, Bc, φc, Kc, f, by omega, h2, h3, h4, h5, hu, h6, h7, by omega, by simp; omega⟩, by rw [HA.path]; simp, fun e => by simp at e, HA.size, HA.fresh⟩
end Go.Proofs.Ytekjffooblcmnaa.Q
end
section
namespace Go.Proofs.Ytekjffooblcmnaa.Q
open Go.RowKit Go.Proofs.YtekjffooblcmnaaW.PrintWords Go.Proofs.YtekjffooblcmnaaW.PrintLast Go.Proofs.YtekjffooblcmnaaW.PrintMore
open Go.Proofs.YtekjffooblcmnaaKit (L size_L L_extract L_append)
open Go.Proofs.Ytekjffooblcmnaa.Ob
open Go.Proofs.Ytekjffooblcmnaa.Rh (ptr NR HT Own Srt ncell Got DR Blk bT bB)
open Go.Proofs.Ytekjffooblcmnaa.Rt (Nd Dat Tb Ch Str lcp ins put rep kidL addL steps names)
set_option linter.unusedVariables false
set_option linter.unusedSimpArgs false
set_option maxHeartbeats 16000000 in
set_option maxRecDepth 1000000 in
theorem addRoute_calls (w : World) {gr n B BM : Nat} {t : Tb} {φ : Nat → Nat} {K : Nat → Value} (R : @RS bT w gr t n B φ K) (hB : 2 ≤ B) (hBM : BM ≤ 1000000) (s : ByteArray) (hsz : s.size ≤ 1000000) (hB2 : B + 2 * s.size + 2 ≤ BM) (hok : okT (L s) = true) (u : Str) (hs : L s = 47 :: u) (g hc : Nat) (d : Dat) (hpp : d.pp = L s) (hpn : d.pn = names (u.length + 1) u)
    (hrow : w.ownsRow 0 3 1 (.slice (some ⟨g, 0, none⟩) 1 hc) 1 [.int .i64 d.place]) {t' : Tb} {n' : Nat} {ok : Bool} (ha : addL d (steps (u.length + 1) [47] u) t n = some (t', n', ok)) :
    Calls Try.prog 19 #[.pointer (some ⟨gr, 0, none⟩), .string s, .slice (some ⟨g, 0, none⟩) 1 hc] w (AddPost w gr t φ K t' n' BM ok) := by
  have AR0 : ∀ w1, Below w.heap.size w w1 → AR w w1 gr t φ K t' n' BM ok d s (some ⟨g, 0, none⟩) hc s (.slice none 0 0) [] (47 :: u) := fun w1 hb => by
    letI := bB w.heap.size
    have RB := RS.chg (b' := bB w.heap.size) R (fun k hk _ => hk)
    exact ⟨⟨[], t, n, B, φ, K, u.length + 2, by simp, by
      show addL d (steps (u.length + 1) ([] ++ [47]) u) t n = _
      exact ha, by rw [hpn]; rfl, RB.below hb, (Go.Proofs.Ytekjffooblcmnaa.Rh.Got.refl RB.ht).to_ hb, fun _ h => h, ⟨hpp.symm, own_move hrow fun k hk => hb.block k (by
        obtain ⟨C, hC⟩ := own_typed hrow k hk
        exact (Array.getElem?_eq_some_iff.1 hC).1), [], rfl, World.ownsRow_nil _ _ _ _, fun _ _ => trivial⟩, hB, by rw [size_L, hs] at hB2; exact hB2, Nat.le_refl _⟩, by rw [hs]; rfl, fun _ => ⟨u, rfl⟩, Nat.le_refl _, fun k hk => by cases hk⟩
  have HA0 := Aside0.mk AR0
  have HSZ := Aside0.mk hsz
  have HOK := Aside0.mk hok
  have HBM := Aside0.mk hBM
  clear AR0 hsz hok hBM hs R hB hB2 hpp hpn hrow ha
  have hnil := fun (W : World) (A : Option Addr) (n c : Nat) => Lib.run_eql_slice_nil (P := Try.prog) W 50 3 A n c 0 0 Try.underlying50
  go_enter Try.func19, Try.ntmps19
  go_wp2_with (fail)
  refine (cpv_calls w s HSZ.out).mono ?_
  rintro e w1 ⟨hb1, ⟨_, rfl⟩ | ⟨h, _⟩⟩
  rotate_left
  · rw [HOK.out] at h; cases h
  have HA1 := Aside0.mk (HA0.out w1 hb1)
  clear hb1
  go_upto_block 0 with (fail)
  rename_i K0 hK0
  refine wp_block ?_
  change Code.wp Try.prog (.loop aL) _ _ _
  refine aloop_wp (w := w) (gr := gr) (t := t) (φ := φ) (K := K) (t' := t') (n' := n') (BM := BM) (ok := ok) (d := d) (s := s) (g := g) (hc := hc) HSZ.out HBM.out _ ⟨s, none, 0, 0, [], 47 :: u, ⟨rfl, rfl, rfl, rfl, rfl, rfl, rfl, rfl, rfl⟩, HA1.out⟩ ?_ ?_ ?_
  · intro a' w' p A6 n6 c6 done g0 HA
    obtain ⟨ns, tc, nc, Bc, φc, Kc, f, h1, h2, h3, h4, h5, hu, h6, h7, h8, h9⟩ := HA.ex
    cases f with
    | zero => exact absurd h1 (Nat.not_lt_zero _)
    | succ f =>
    have hpd : L p = done := by rw [HA.path, List.append_nil]
    have hp2 : p.size ≤ 1000000 := Nat.le_trans HA.size HSZ.out
    obtain ⟨k1, k2⟩ := @addL_last d done 0 tc nc t' n' ok (show addL d [(done, 0, true)] tc nc = _ from h2)
    rw [← hpd] at k1
    have hxs : ns = d.pn := by rw [← h3]; exact (List.append_nil _).symm
    rw [hxs] at h6
    have hd0 : 0 < p.size := by
      rw [size_L, hpd]
      cases hq : done with
      | nil => obtain ⟨r, hr⟩ := HA.first hq; cases hr
      | cons a b => simp
    letI := bT
    have R5 := RS.chg (b' := bT) h4 fun _ _ _ => trivial
    have G5 := got_chg (b' := bT) h5 fun _ _ _ => trivial
    have hI := insert_step R5 h7 (by have := HBM.out; omega) p s hd0 hp2 HSZ.out 0 (.inl rfl) (some d) _ _ _ _ _ _ h6 _ k1
    have HC := Aside0.mk hI
    have HF := Aside0.mk (fun e w2 (hP : @IP bT w' gr nc Bc tc φc Kc t' (!ok) e w2) => post_last hP R5 G5 hu k2 (BM := BM) (by omega))
    clear hI h1 h2 h3 h4 h5 h6 h7 h8 h9 k1 hxs hpd k2 R5 G5 hd0 hp2 HA
    obtain ⟨x, rfl⟩ := g0.lit
    clear g0
    show K0 _ _
    refine hK0 _ _ ?_
    go_wp2_with (fail)
    refine HC.out.mono ?_
    intro e w2 hP
    have HPO := Aside0.mk (HF.out e w2 hP)
    rcases hP with ⟨hx1, ⟨u1, pv, rfl⟩, hx2⟩ | ⟨hx1, rfl, hx2⟩ <;> clear hx1 hx2
    · go_wp2_with (fail)
      exact ⟨rfl, HPO.out⟩
    · go_wp2_with (fail)
      exact ⟨rfl, _, results_none rfl _ _ _, HPO.out⟩
  · intro a' w' hdf hP
    exact ⟨hdf, _, results_none rfl _ _ _, hP⟩
  · intro a' w' ch hdf hP
    exact ⟨hdf, hP⟩
end Go.Proofs.Ytekjffooblcmnaa.Q
end
section
namespace Go.Proofs.Ytekjffooblcmnaa.Q
open Go.RowKit Go.Proofs.YtekjffooblcmnaaW.PrintWords Go.Proofs.YtekjffooblcmnaaW.PrintLast Go.Proofs.YtekjffooblcmnaaW.PrintMore
open Go.Proofs.YtekjffooblcmnaaKit (L size_L L_extract L_append)
open Go.Proofs.Ytekjffooblcmnaa.Ob
open Go.Proofs.Ytekjffooblcmnaa.Rh (ptr NR HT Own Srt ncell Got DR Blk bT bB)
open Go.Proofs.Ytekjffooblcmnaa.Rt (Nd Dat Tb Ch Str lcp ins put rep kidL addL steps names)
set_option linter.unusedVariables false
set_option linter.unusedSimpArgs false
set_option maxHeartbeats 16000000 in
theorem zzCount_calls (w : World) (a b : ByteArray) (hb : b.size = 1) (ha : a.size ≤ 1000000) : Calls Try.prog 23 #[.string a, .string b] w (fun e w' => (∃ n : Int, e = .returned (.int .i64 n)) ∧ Below w.heap.size w w') := by
  have HB := Aside0.mk (Below.refl w.heap.size w)
  have HAZ := Aside0.mk ha
  clear ha
  go_enter Try.func23, Try.ntmps23
  go_wp2
  go_loopw [5, 6] (fun v5 v6 wr => ∃ (i : Nat) (n : Int), v5 = .int .i64 n ∧ v6 = .int .i64 (i : Int) ∧ wr = w ∧ Aside0 (i ≤ a.size)) (fun _ v6 _ => a.size - natV v6)
  case atStart => exact ⟨0, 0, rfl, rfl, rfl, ⟨Nat.zero_le _⟩⟩
  case round =>
    obtain ⟨i, n, rfl, rfl, rfl, HI⟩ := hrel
    have hi0 := HI.out
    have wx : wrap64 ((i : Int) + 1) = (i : Int) + 1 := by have := HAZ.out; unfold wrap64; omega
    have wy : wrap64 ((i : Int) + ((1 : Nat) : Int)) = (i : Int) + 1 := by rw [← wx]; rfl
    by_cases hi : i < a.size
    · have b1 : decide ((i : Int) + 1 ≤ (a.size : Int)) = true := decide_eq_true (by omega)
      have hsl : ∀ W : World, (Instr.slice 9 (.string a) (some (.int .i64 (i : Int))) (some (.int .i64 ((i : Int) + 1))) none).run Try.prog W = .ok (.string (a.extract i (i + 1))) W := fun W => by
        have := run_slice_string (P := Try.prog) (w := W) 9 a .i64 .i64 (i : Int) ((i : Int) + 1) Try.underlying9 (by omega) (by omega) (by omega)
        rwa [show ((i : Int) + 1).toNat = i + 1 by omega, Int.toNat_natCast] at this
      go_wp2
      all_goals first
        | (go_roundw
           case measure => simp only [natV]; omega
           case rel => exact ⟨i + 1, _, rfl, by first | rfl | (congr 1), by trivial, ⟨by omega⟩⟩)
    · have b1 : decide ((i : Int) + 1 ≤ (a.size : Int)) = false := decide_eq_false (by omega)
      go_wp2
      go_ret
      exact ⟨⟨n, rfl⟩, HB.out⟩
set_option maxHeartbeats 16000000 in
theorem countParams_calls (w : World) (a : ByteArray) (ha : a.size ≤ 1000000) : Calls Try.prog 20 #[.string a] w (fun e w' => (∃ n : Int, e = .returned (.int .u16 n)) ∧ Below w.heap.size w w') := by
  go_enter Try.func20, Try.ntmps20
  go_wp2_with (fail)
  refine (zzCount_calls w a ⟨#[58]⟩ rfl ha).mono ?_
  rintro e w1 ⟨⟨n1, rfl⟩, hb1⟩
  have HB1 := Aside0.mk hb1
  clear hb1
  go_wp2_with (fail)
  refine (zzCount_calls w1 a ⟨#[42]⟩ rfl ha).mono ?_
  rintro e w2 ⟨⟨n2, rfl⟩, hb2⟩
  have HB2 := Aside0.mk (below_step HB1.out hb2)
  clear hb2
  go_wp2_with (fail)
  go_ret
  exact ⟨⟨_, rfl⟩, HB2.out⟩
section
variable [b0 : Blk] {W W' : World} {t : Tb} {φ : Nat → Nat} {K : Nat → Value}
def OT (W : World) (S : Nat → Prop) : Prop := ∀ k, k < W.heap.size → S k → ∃ C e f, W.heap[k]? = some (.cells C e f) ∧ e ≠ 52 ∧ e ≠ 46 ∧ e ≠ 3 ∧ e ≠ 9 ∧ e ≠ 54
theorem DR.onlyT {S : Nat → Prop} {o : Option Dat} {pp : ByteArray} {pv hv : Value} (h : DR W o pp pv hv) (ho : Only S W W') (hs : OT W S) : DR W' o pp pv hv := by
  have key : ∀ (e : TypeId) n v xs, (e = 3 ∨ e = 9) → W.ownsRow 0 e 1 v n xs → W'.ownsRow 0 e 1 v n xs := fun e n v xs he h1 => own_move h1 fun k hk => by
    obtain ⟨C, hC⟩ := own_typed h1 k hk
    refine ho.block k (Array.getElem?_eq_some_iff.1 hC).1 fun hS => ?_
    obtain ⟨C', e', f', h3, _, _, h4, h5, _⟩ := hs k (Array.getElem?_eq_some_iff.1 hC).1 hS
    rw [hC] at h3
    cases h3
    exact he.elim h4 h5
  cases o with
  | none => exact h
  | some d =>
    obtain ⟨h1, h2, xs, h3, h4, h5⟩ := h
    exact ⟨h1, key _ _ _ _ (.inl rfl) h2, xs, h3, key _ _ _ _ (.inr rfl) h4, h5⟩
theorem HT.onlyT {S : Nat → Prop} (h : HT W t φ K) (ho : Only S W W') (hs : OT W S) : HT W' t φ K := by
  refine ⟨h.inj, fun b nd hb => ?_, h.sep⟩
  have hn := h.node b nd hb
  obtain ⟨lab, pre, pp, pv, hv, lf, h1, h2, h3, h4, h5⟩ := id hn
  refine ⟨lab, pre, pp, pv, hv, lf, (ho.block _ hn.lt fun e => ?_).trans h1, h2, h3, DR.onlyT h4 ho hs, own_move h5 fun k hk => ho.block k (hn.ltK hk) fun e => ?_⟩
  · obtain ⟨C', e', f', k3, k4, _⟩ := hs _ hn.lt e
    rw [h1] at k3
    cases k3
    exact k4 rfl
  · obtain ⟨C, hC⟩ := own_typed h5 k hk
    obtain ⟨C', e', f', k3, _, k4, _⟩ := hs _ (hn.ltK hk) e
    rw [hC] at k3
    cases k3
    exact k4 rfl
theorem RS.onlyT {S : Nat → Prop} {gr n B : Nat} (h : RS W gr t n B φ K) (ho : Only S W W') (hs : OT W S) : RS W' gr t n B φ K :=
  ⟨HT.onlyT h.ht ho hs, h.wf, h.sb, h.root, by
    obtain ⟨C, f, hg, hc⟩ := h.cell
    refine ⟨C, f, (ho.block gr h.lt fun e => ?_).trans hg, hc⟩
    obtain ⟨C', e', f', k3, _, _, _, _, k4⟩ := hs _ h.lt e
    rw [hg] at k3
    cases k3
    exact k4 rfl⟩
end
structure ZS (base : Nat) (w : World) (zr gr : Nat) (t : Tb) (n B : Nat) : Prop where
  ex : ∃ (φ : Nat → Nat) (K : Nat → Value) (mp : Int), @RS bT w gr t n B φ K ∧ w.heap[zr]? = some (.cells #[.pointer (some ⟨gr, 0, none⟩), .int .u16 mp] 57 (0, 0)) ∧ (∀ k, Own t φ K k → base ≤ k) ∧ base ≤ zr ∧ base ≤ w.heap.size
theorem ZS.onlyT {base : Nat} {w w' : World} {zr gr : Nat} {t : Tb} {n B : Nat} (h : ZS base w zr gr t n B) {S : Nat → Prop} (ho : Only S w w') (hs : OT w S) (hz : ¬ S zr) : ZS base w' zr gr t n B := by
  obtain ⟨φ, K, mp, h1, h2, h3, h4, h5⟩ := h.ex
  exact ⟨φ, K, mp, @RS.onlyT bT w w' t φ K S gr n B h1 ho hs, (ho.block zr (Array.getElem?_eq_some_iff.1 h2).1 hz).trans h2, h3, h4, Nat.le_trans h5 ho.size⟩
theorem ZS.below {base : Nat} {w w' : World} {zr gr : Nat} {t : Tb} {n B : Nat} (h : ZS base w zr gr t n B) (hb : Below w.heap.size w w') : ZS base w' zr gr t n B := h.onlyT (Only.of_below (S := fun _ => False) hb) (fun _ _ e => e.elim) id
theorem ZS.mono {base : Nat} {w : World} {zr gr : Nat} {t : Tb} {n B B' : Nat} (h : ZS base w zr gr t n B) (hB : B ≤ B') : ZS base w zr gr t n B' := by
  obtain ⟨φ, K, mp, h1, r⟩ := h.ex
  exact ⟨φ, K, mp, @RS.more bT w gr n B t φ K h1 _ _ (Nat.le_refl _) hB, r⟩
end Go.Proofs.Ytekjffooblcmnaa.Q
end
