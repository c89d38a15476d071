/- FnUriMade: the law's function, called with any arguments, returns true and leaves its arguments as they were: every input, no condition. Part 2 of 11. -/
import Derived.Test.YtbkeakeldegkeaaZFnUriMade0
import Derived.Laws.StructEq
import Derived.Test.YtbkeakeldegkeaaProg
import Derived.Below
import Derived.Deep.Draws
import Derived.Deep.AppendLies
import Derived.Maps.AppendAt
import Derived.OwnWalk
import Derived.Laws.BytesArg
import Derived.Laws.MakeOwn
import Derived.Laws.OwnMore
import Derived.Deep.OwnRows
import Derived.Tactics
import Derived.Lib.ConvBytes
import Derived.Laws.Slices
import Derived.WalkKit
import Derived.KernelRfl
import Derived.RowKit3
import Derived.Deep.LoopGhost
import Derived.Deep.QuietTactic
import Derived.BigQuiet
import Derived.WideLaws
import Derived.Deep.DeepCutAuto
import Derived.Deep.CutBlock
import Derived.Deep.RegionHeld3
import Derived.Laws.Rows
import Derived.Lib.AppendStr
import Derived.ArgAppend
import Derived.Laws.IdiomCopy
import Derived.OrdersHeld
import Derived.Laws.BitsLemmas
import Derived.RowKit
import Derived.Laws.Externs
import Derived.Lib.BytesEntry
import Derived.Lib.Bytealg
import Derived.WalkSpells
import Derived.Lib.LazyBuf
import Derived.StillTailTactics
section
namespace Go.Proofs.YtbkeakeldegkeaaW.PrintLast
open Go.Proofs.YtbkeakeldegkeaaW.PrintWords (Aside0)
def needsOf (md : Region.Mode) (o : Oper) : List Nat := (o.after.toList.filter (fun e => Region.binds md e)).map (fun e => e.on)
def clashOf (md : Region.Mode) (ops : Array Oper) (i : Nat) (oi : Oper) : List Nat := (List.range ops.size).filter fun j => !(j == i) && match ops[j]? with
  | some oj => !(oj.after.any (fun e => Region.binds md e && e.on == i) || oi.apart ops oj)
  | none => false
def rtab (md : Region.Mode) (ops : Array Oper) : Bool × List (List Nat × List Nat) := (Region.noSelect ops, (List.range ops.size).map fun i => match ops[i]? with
  | some o => (needsOf md o, clashOf md ops i o)
  | none => ([], []))
def readyAt (T : List (List Nat × List Nat)) (l : List Bool) (i : Nat) : Bool := !l.getD i true && match T[i]? with
  | some r => r.1.all (fun j => l.getD j false)
  | none => false
def readyT (T : List (List Nat × List Nat)) (l : List Bool) : List Nat := (List.range T.length).filter (readyAt T l)
def freeT (T : List (List Nat × List Nat)) (l : List Bool) (i : Nat) : Bool := match T[i]? with
  | some r => r.2.all (fun j => l.getD j true)
  | none => false
def closedT (T : List (List Nat × List Nat)) (l : List Bool) : Bool := (List.range T.length).all fun j => !l.getD j false || match T[j]? with
  | some r => r.1.all (fun k => l.getD k false)
  | none => true
def reachT (T : List (List Nat × List Nat)) (i : Nat) : Nat → Nat → Bool
  | 0, _ => false
  | fuel + 1, d => match T[d]? with
    | some r => r.1.any fun j => j == i || reachT T i fuel j
    | none => false
def lastT (T : List (List Nat × List Nat)) (l : List Bool) (ds : List Nat) (i : Nat) : Bool := ds.all fun d => l.getD d true || reachT T i T.length d
section
variable {md : Region.Mode} {ops : Array Oper} {T : Bool × List (List Nat × List Nat)} {l l' li lj lk : Array Bool} {ds : List Nat} {i j k : Nat}
theorem gd (l : Array Bool) (j : Nat) (b : Bool) : l.getD j b = l.toList.getD j b := by simp [Array.getD_eq_getD_getElem?, List.getD_eq_getElem?_getD]
theorem needs_all (o : Oper) (p : Nat → Bool) : o.after.all (fun e => !Region.binds md e || p e.on) = (needsOf md o).all p := by
  unfold needsOf
  rw [← Array.all_toList]
  induction o.after.toList with
  | nil => rfl
  | cons e r ih =>
    rw [List.all_cons, ih, List.filter_cons]
    cases h : Region.binds md e <;> simp
theorem needs_any (o : Oper) (p : Nat → Bool) : o.after.any (fun e => Region.binds md e && p e.on) = (needsOf md o).any p := by
  unfold needsOf
  rw [← Array.any_toList]
  induction o.after.toList with
  | nil => rfl
  | cons e r ih =>
    rw [List.any_cons, ih, List.filter_cons]
    cases h : Region.binds md e <;> simp
theorem rtab_length : (rtab md ops).2.length = ops.size := by simp [rtab]
theorem rtab_some {o : Oper} (h : ops[i]? = some o) : (rtab md ops).2[i]? = some (needsOf md o, clashOf md ops i o) := by
  have hi := (Array.getElem?_eq_some_iff.1 h).1
  unfold rtab
  rw [List.getElem?_map, List.getElem?_range hi, Option.map_some, h]
theorem rtab_none (h : ops[i]? = none) : (rtab md ops).2[i]? = none := by
  have hi : ops.size ≤ i := Array.getElem?_eq_none_iff.1 h
  exact List.getElem?_eq_none (by rw [rtab_length]; exact hi)
theorem readyAt_eq : readyAt (rtab md ops).2 l.toList i = (!l.getD i true && ((ops[i]?).map (·.after.all fun e => !Region.binds md e || l.getD e.on false)).getD false) := by
  unfold readyAt
  rw [gd]
  cases h : ops[i]? with
  | none => rw [rtab_none h]; rfl
  | some o =>
    rw [rtab_some h]
    simp only [Option.map_some, Option.getD_some]
    rw [← needs_all]
    simp only [gd]
theorem ready_eq : Region.ready md ops l = readyT (rtab md ops).2 l.toList := by
  unfold Region.ready readyT
  rw [rtab_length]
  refine List.filter_congr (fun i _ => ?_)
  rw [readyAt_eq]
theorem free_eq : Region.free md ops l i = freeT (rtab md ops).2 l.toList i := by
  unfold Region.free freeT
  cases h : ops[i]? with
  | none => rw [rtab_none h]
  | some oi =>
    rw [rtab_some h]
    simp only [clashOf]
    rw [List.all_filter]
    congr 1
    funext j
    rw [gd]
    cases hj : ops[j]? with
    | none => cases (j == i) <;> cases (l.toList.getD j true) <;> simp
    | some oj =>
      cases (j == i) <;> cases (l.toList.getD j true) <;> cases (oj.after.any (fun e => Region.binds md e && e.on == i) || oi.apart ops oj) <;> simp_all
theorem closed_eq : Region.closedB md ops l = closedT (rtab md ops).2 l.toList := by
  unfold Region.closedB closedT
  rw [rtab_length]
  congr 1
  funext j
  rw [gd]
  cases h : ops[j]? with
  | none => rw [rtab_none h]
  | some o =>
    rw [rtab_some h]
    simp only
    rw [← needs_all]
    simp only [gd]
theorem reach_eq : ∀ (fuel d : Nat), Region.reachB md ops i fuel d = reachT (rtab md ops).2 i fuel d
  | 0, _ => rfl
  | fuel + 1, d => by
    unfold Region.reachB reachT
    cases h : ops[d]? with
    | none => rw [rtab_none h]
    | some o =>
      rw [rtab_some h]
      simp only
      rw [← needs_any]
      congr 1
      funext e
      rw [reach_eq fuel]
theorem last_eq : Region.lastB md ops l ds i = lastT (rtab md ops).2 l.toList ds i := by
  unfold Region.lastB lastT
  rw [rtab_length]
  congr 1
  funext d
  rw [gd, reach_eq]
theorem readyAt_mem (h : readyAt T.2 l.toList i = true) (hT : rtab md ops = T) : (Region.ready md ops l).contains i = true := by
  subst hT
  rw [ready_eq]
  unfold readyT
  rw [List.contains_iff_mem, List.mem_filter, List.mem_range]
  refine ⟨?_, h⟩
  unfold readyAt at h
  rw [Bool.and_eq_true] at h
  cases hq : (rtab md ops).2[i]? with
  | none => rw [hq] at h; simp at h
  | some r => exact (List.getElem?_eq_some_iff.1 hq).1
theorem set_of (h : (l.toList.set i true == l'.toList) = true) : (l.setIfInBounds i true == l') = true := by
  rw [beq_iff_eq] at h ⊢
  apply Array.ext'
  rw [Array.toList_setIfInBounds]
  exact h
def anyT (T : Bool × List (List Nat × List Nat)) (l l' : List Bool) (i : Nat) : Bool := T.1 && freeT T.2 l i && readyAt T.2 l i && (l.set i true == l')
theorem any_of (hT : rtab md ops = T) (h : anyT T l.toList l'.toList i = true) : anyB md ops l l' i = true := by
  simp only [anyT, Bool.and_eq_true] at h
  obtain ⟨⟨⟨h1, h2⟩, h3⟩, h4⟩ := h
  have h5 := readyAt_mem h3 hT
  have h6 := set_of h4
  subst hT
  simp only [anyB, Bool.and_eq_true]
  exact ⟨⟨⟨h1, by rw [free_eq]; exact h2⟩, h5⟩, h6⟩
def takeT (T : Bool × List (List Nat × List Nat)) (ds : List Nat) (l l' : List Bool) (i : Nat) : Bool := T.1 && freeT T.2 l i && readyAt T.2 l i && closedT T.2 l && lastT T.2 l ds i && (l.set i true == l')
theorem take_of (hT : rtab md ops = T) (h : takeT T ds l.toList l'.toList i = true) : takeB md ops ds l l' i = true := by
  simp only [takeT, Bool.and_eq_true] at h
  obtain ⟨⟨⟨⟨⟨h1, h2⟩, h3⟩, h4⟩, h5⟩, h6⟩ := h
  have h7 := readyAt_mem h3 hT
  have h8 := set_of h6
  subst hT
  simp only [takeB, Bool.and_eq_true]
  exact ⟨⟨⟨⟨⟨h1, by rw [free_eq]; exact h2⟩, h7⟩, by rw [closed_eq]; exact h4⟩, by rw [last_eq]; exact h5⟩, h8⟩
theorem one_of (hT : rtab md ops = T) (h : (readyT T.2 l.toList == [i] && l.toList.set i true == l'.toList) = true) : readyB md ops l l' i = true := by
  simp only [Bool.and_eq_true] at h
  obtain ⟨h1, h2⟩ := h
  subst hT
  simp only [readyB, Bool.and_eq_true]
  exact ⟨by rw [ready_eq]; exact h1, set_of h2⟩
theorem done_of (hT : rtab md ops = T) (h : (readyT T.2 l.toList == []) = true) : (Region.ready md ops l == []) = true := by
  subst hT
  rw [ready_eq]
  exact h
def upM (B : List Nat) (d : Nat) : List Nat → Nat
  | [] => 0
  | n :: r => (2 ^ n ||| (if n < d then B.getD n 0 else 0)) ||| upM B d r
def waitsOk (T : List (List Nat × List Nat)) (B : List Nat) : Bool := (List.range T.length).all fun d => match T[d]? with
  | some r => (B.getD d 0 ||| upM B d r.1) == upM B d r.1
  | none => false
theorem upM_bit {B : List Nat} {d i : Nat} : ∀ {ns : List Nat}, (upM B d ns).testBit i = true → ∃ n ∈ ns, n = i ∨ (n < d ∧ (B.getD n 0).testBit i = true)
  | [], h => by simp [upM] at h
  | n :: r, h => by
    unfold upM at h
    rw [Nat.testBit_or, Nat.testBit_or, Bool.or_eq_true, Bool.or_eq_true] at h
    rcases h with (h | h) | h
    · rw [Nat.testBit_two_pow] at h
      exact ⟨n, List.mem_cons_self, .inl (by simpa using h)⟩
    · by_cases hn : n < d
      · rw [if_pos hn] at h
        exact ⟨n, List.mem_cons_self, .inr ⟨hn, h⟩⟩
      · rw [if_neg hn] at h
        simp at h
    · obtain ⟨m, hm, h2⟩ := upM_bit h
      exact ⟨m, List.mem_cons_of_mem _ hm, h2⟩
theorem reach_bit {T : List (List Nat × List Nat)} {B : List Nat} (hB : waitsOk T B = true) : ∀ (fuel d : Nat), d < fuel → d < T.length → (B.getD d 0).testBit i = true → reachT T i fuel d = true
  | 0, d, h, _, _ => by omega
  | fuel + 1, d, h, hd, hb => by
    have h1 := List.all_eq_true.1 hB d (List.mem_range.2 hd)
    cases hr : T[d]? with
    | none => rw [hr] at h1; simp at h1
    | some r =>
      rw [hr] at h1
      simp only [beq_iff_eq] at h1
      have h2 : (upM B d r.1).testBit i = true := by rw [← h1, Nat.testBit_or, hb, Bool.true_or]
      obtain ⟨n, hn, h3⟩ := upM_bit h2
      unfold reachT
      rw [hr]
      simp only
      rw [List.any_eq_true]
      refine ⟨n, hn, ?_⟩
      rcases h3 with rfl | ⟨h4, h5⟩
      · simp
      · rw [reach_bit hB fuel n (by omega) (by omega) h5, Bool.or_true]
def lastW (T : List (List Nat × List Nat)) (B : List Nat) (l : List Bool) (ds : List Nat) (i : Nat) : Bool := ds.all fun d => l.getD d true || (decide (d < T.length) && (B.getD d 0).testBit i)
def takeW (T : Bool × List (List Nat × List Nat)) (B : List Nat) (ds : List Nat) (l l' : List Bool) (i : Nat) : Bool := T.1 && freeT T.2 l i && readyAt T.2 l i && closedT T.2 l && lastW T.2 B l ds i && (l.set i true == l')
theorem take_ofW {B : List Nat} (hT : rtab md ops = T) (hB : waitsOk T.2 B = true) (h : takeW T B ds l.toList l'.toList i = true) : takeB md ops ds l l' i = true := by
  refine take_of hT ?_
  simp only [takeW, takeT, Bool.and_eq_true] at h ⊢
  obtain ⟨⟨⟨⟨⟨h1, h2⟩, h3⟩, h4⟩, h5⟩, h6⟩ := h
  refine ⟨⟨⟨⟨⟨h1, h2⟩, h3⟩, h4⟩, ?_⟩, h6⟩
  unfold lastW at h5
  unfold lastT
  rw [List.all_eq_true] at h5 ⊢
  intro d hd
  have h7 := h5 d hd
  rw [Bool.or_eq_true, Bool.and_eq_true, decide_eq_true_eq] at h7
  rcases h7 with h7 | ⟨h8, h9⟩
  · rw [h7, Bool.true_or]
  · rw [reach_bit hB _ d h8 h8 h9, Bool.or_true]
theorem with_tabW {P : Program} {Q : Exit → Act → World → Prop} {S : World → Prop} {n : Nat} {a : Act} {w : World} {B : List Nat} (hT : rtab md ops = T) (hB : waitsOk T.2 B = true) (h : Aside0 (rtab md ops = T) → Aside0 (waitsOk T.2 B = true) → wpAnyLast P md ops Q S ds n l a w) : wpAnyLast P md ops Q S ds n l a w := h ⟨hT⟩ ⟨hB⟩
end
def opsIn : Code → Nat → Option (Array Oper)
  | .region id ops _, k => if id == k then some ops else none
  | .seq a b, k => match opsIn a k with
    | some o => some o
    | none => opsIn b k
  | .cond _ a b, k => match opsIn a k with
    | some o => some o
    | none => opsIn b k
  | .block _ c, k => opsIn c k
  | .loop c, k => opsIn c k
  | .scope c, k => opsIn c k
  | .rangeFunc _ _ a b, k => match opsIn a k with
    | some o => some o
    | none => opsIn b k
  | _, _ => none
def opsOf (f : Func) (k : Nat) : Array Oper := ((f.body.bind fun c => opsIn c k)).getD #[]
end Go.Proofs.YtbkeakeldegkeaaW.PrintLast
end
section
namespace Go.Proofs.YtbkeakeldegkeaaW.PrintWords
open Go.RowKit
section
variable {P : Program} {d : Nat} {xs ys : Array Value} {f : Field} {fs : List Field} {a b : Value} {r s : Bool} {w : World}
theorem eqf_last (hn : (f.name == "_") = false) (ha : (part f.type xs f.offset).run P w = .ok a w) (hb : (part f.type ys f.offset).run P w = .ok b w) (he : (Op.equalIn d f.type a b).run P w = .ok r w) : (Op.eqFields d xs ys [f]).run P w = .ok r w := by
  have hn' : f.name ≠ "_" := by simpa using hn
  simp only [Op.eqFields, if_pos hn', Sem.run_bind, ha, hb, he, Result.andThen_ok]
  cases r <;> simp
theorem eqf_cons (hn : (f.name == "_") = false) (ha : (part f.type xs f.offset).run P w = .ok a w) (hb : (part f.type ys f.offset).run P w = .ok b w) (he : (Op.equalIn d f.type a b).run P w = .ok r w) (hr : (Op.eqFields d xs ys fs).run P w = .ok s w) : (Op.eqFields d xs ys (f :: fs)).run P w = .ok (r && s) w := by
  have hn' : f.name ≠ "_" := by simpa using hn
  rw [Op.eqFields]
  simp only [if_pos hn', Sem.run_bind, ha, hb, he, Result.andThen_ok]
  cases r
  · simp
  · simpa using hr
theorem eqA_of {t : TypeId} {fs : Array Field} (hu : P.underlying t = some (.struct fs)) (hp : P.stoodInHeld t = false) (h : (Op.eqFields d xs ys fs.toList).run P w = .ok r w) : (Op.equalIn (d + 1) t (.agg xs) (.agg ys)).run P w = .ok r w := by
  have hf : P.fieldsOf t = fs := by simp [Program.fieldsOf, hu]
  rw [run_equalIn_struct (P := P) w d t xs ys (by rw [hf]; exact hu) hp, hf]
  exact h
end
end Go.Proofs.YtbkeakeldegkeaaW.PrintWords
end
section
namespace Go.Proofs.YtbkeakeldegkeaaW.PrintWords
theorem Reps.one {α : Type} {R : α → List Value → Prop} {ps : List α} {cs : List Value} {p : α} {v : Value} (hp : R p [v]) (h : Reps R 1 ps cs) : Reps R 1 (p :: ps) (v :: cs) := by
  refine ⟨by simp [h.1], fun j q hq => ?_⟩
  cases j with
  | zero =>
    simp only [List.getElem?_cons_zero, Option.some.injEq] at hq
    subst hq
    simpa using hp
  | succ j =>
    simp only [List.getElem?_cons_succ] at hq
    have h1 := h.2 j q hq
    simpa [Nat.mul_one] using h1
theorem Reps.front {α : Type} {R : α → List Value → Prop} {size : Nat} {ps : List α} {cs c all : List Value} {p : α} (hp : R p c) (hc : c.length = size) (h : Reps R size ps cs) (ha : c ++ cs = all) : Reps R size (p :: ps) all := by
  subst ha
  refine ⟨by rw [List.length_append, hc, h.1, List.length_cons, Nat.succ_mul, Nat.add_comm], fun j q hq => ?_⟩
  cases j with
  | zero =>
    simp only [List.getElem?_cons_zero, Option.some.injEq] at hq
    subst hq
    rw [Nat.zero_mul, List.drop_zero, List.take_append_of_le_length (by omega), List.take_of_length_le (by omega)]
    exact hp
  | succ j =>
    simp only [List.getElem?_cons_succ] at hq
    have h1 := h.2 j q hq
    rw [Nat.succ_mul, List.drop_append, List.drop_of_length_le (by rw [hc]; exact Nat.le_add_left _ _), List.nil_append, hc, Nat.add_sub_cancel]
    exact h1
theorem Reps.c2 {α : Type} {R : α → List Value → Prop} {ps : List α} {cs : List Value} {p : α} {va vb : Value} (hp : R p [va, vb]) (h : Reps R 2 ps cs) : Reps R 2 (p :: ps) (va :: vb :: cs) := Reps.front hp rfl h rfl
theorem Reps.c3 {α : Type} {R : α → List Value → Prop} {ps : List α} {cs : List Value} {p : α} {va vb vc : Value} (hp : R p [va, vb, vc]) (h : Reps R 3 ps cs) : Reps R 3 (p :: ps) (va :: vb :: vc :: cs) := Reps.front hp rfl h rfl
theorem Reps.c4 {α : Type} {R : α → List Value → Prop} {ps : List α} {cs : List Value} {p : α} {va vb vc vd : Value} (hp : R p [va, vb, vc, vd]) (h : Reps R 4 ps cs) : Reps R 4 (p :: ps) (va :: vb :: vc :: vd :: cs) := Reps.front hp rfl h rfl
theorem Reps.c5 {α : Type} {R : α → List Value → Prop} {ps : List α} {cs : List Value} {p : α} {va vb vc vd ve : Value} (hp : R p [va, vb, vc, vd, ve]) (h : Reps R 5 ps cs) : Reps R 5 (p :: ps) (va :: vb :: vc :: vd :: ve :: cs) := Reps.front hp rfl h rfl
theorem Reps.c6 {α : Type} {R : α → List Value → Prop} {ps : List α} {cs : List Value} {p : α} {va vb vc vd ve vf : Value} (hp : R p [va, vb, vc, vd, ve, vf]) (h : Reps R 6 ps cs) : Reps R 6 (p :: ps) (va :: vb :: vc :: vd :: ve :: vf :: cs) := Reps.front hp rfl h rfl
theorem Reps.c7 {α : Type} {R : α → List Value → Prop} {ps : List α} {cs : List Value} {p : α} {va vb vc vd ve vf vg : Value} (hp : R p [va, vb, vc, vd, ve, vf, vg]) (h : Reps R 7 ps cs) : Reps R 7 (p :: ps) (va :: vb :: vc :: vd :: ve :: vf :: vg :: cs) := Reps.front hp rfl h rfl
theorem Reps.c8 {α : Type} {R : α → List Value → Prop} {ps : List α} {cs : List Value} {p : α} {va vb vc vd ve vf vg vh : Value} (hp : R p [va, vb, vc, vd, ve, vf, vg, vh]) (h : Reps R 8 ps cs) : Reps R 8 (p :: ps) (va :: vb :: vc :: vd :: ve :: vf :: vg :: vh :: cs) := Reps.front hp rfl h rfl
theorem Reps.c9 {α : Type} {R : α → List Value → Prop} {ps : List α} {cs : List Value} {p : α} {va vb vc vd ve vf vg vh vi : Value} (hp : R p [va, vb, vc, vd, ve, vf, vg, vh, vi]) (h : Reps R 9 ps cs) : Reps R 9 (p :: ps) (va :: vb :: vc :: vd :: ve :: vf :: vg :: vh :: vi :: cs) := Reps.front hp rfl h rfl
theorem Reps.c10 {α : Type} {R : α → List Value → Prop} {ps : List α} {cs : List Value} {p : α} {va vb vc vd ve vf vg vh vi vj : Value} (hp : R p [va, vb, vc, vd, ve, vf, vg, vh, vi, vj]) (h : Reps R 10 ps cs) : Reps R 10 (p :: ps) (va :: vb :: vc :: vd :: ve :: vf :: vg :: vh :: vi :: vj :: cs) := Reps.front hp rfl h rfl
end Go.Proofs.YtbkeakeldegkeaaW.PrintWords
end
section
namespace Go.Proofs.YtbkeakeldegkeaaW.PrintLast
def up (b : Nat → Bool) (i : Nat) : Nat → Bool := fun j => if j = i then true else b j
section
variable {P : Program} {ops : Array Oper} {Q : Exit → Act → World → Prop} {md : Region.Mode} {T : Bool × List (List Nat × List Nat)} {B : List Nat} {O : List Nat} {b : Nat → Bool} {i j n : Nat}
end
end Go.Proofs.YtbkeakeldegkeaaW.PrintLast
end
section
namespace Go.Proofs.YtbkeakeldegkeaaW.PrintWords
open Go.RowKit
section
variable {P : Program} {ops : Array Oper} {rest : List Oper} {o : Oper} {a : Act} {Q : Exit → Act → World → Prop} {W : World}
theorem gate_guard (hw : Region.wanted o (yielded ops a.tmps) = true) (h : wpList P ops Q ({ o with guard := none } :: rest) a W) : wpList P ops Q (o :: rest) a W := by
  have h1 : Region.wanted { o with guard := none } (yielded ops a.tmps) = true := rfl
  unfold wpList at h ⊢
  rw [if_pos h1] at h
  rw [if_pos hw]
  exact h
end
end Go.Proofs.YtbkeakeldegkeaaW.PrintWords
end
section
namespace Go.Proofs.Ytbkeakeldegkeaa.Q
open Go.RowKit Go.Proofs.YtbkeakeldegkeaaW.PrintWords Go.Proofs.YtbkeakeldegkeaaW.PrintLast Go.Proofs.YtbkeakeldegkeaaW.PrintMore
attribute [local go_sem] max2_int min2_int max_two min_two max_three min_three max_four min_four
set_option linter.unusedVariables false
set_option linter.unusedSimpArgs false
def errW : Option Int → Value
  | none => .nilIface
  | some c => .iface 0 (.int .i64 c)
theorem errW_none : errW none = .nilIface := rfl
theorem errW_some (c : Int) : errW (some c) = .iface 0 (.int .i64 c) := rfl
theorem info5 : (Try.prog.info? 5).map (fun i => (i.zero, i.size, i.bytes)) = some (some (.int .u8 0), 1, 1) := by kernel_rfl
def tab1 : ByteArray := ⟨#[16, 16, 16, 16, 16, 16, 16, 16, 16, 16, 16, 16, 16, 16, 16, 16, 16, 16, 16, 16, 16, 16, 16, 16, 16, 16, 16, 16, 16, 16, 16, 16, 16, 16, 16, 16, 16, 16, 16, 16, 16, 16, 16, 16, 16, 16, 16, 16, 0, 1, 2, 3, 4, 5, 6, 7, 8, 9, 16, 16, 16, 16, 16, 16, 16, 10, 11, 12, 13, 14, 15, 16, 16, 16, 16, 16, 16, 16, 16, 16, 16, 16, 16, 16, 16, 16, 16, 16, 16, 16, 16, 16, 16, 16, 16, 16, 16, 10, 11, 12, 13, 14, 15, 16, 16, 16, 16, 16, 16, 16, 16, 16, 16, 16, 16, 16, 16, 16, 16, 16, 16, 16, 16, 16, 16, 16, 16, 16, 16, 16, 16, 16, 16, 16, 16, 16, 16, 16, 16, 16, 16, 16, 16, 16, 16, 16, 16, 16, 16, 16, 16, 16, 16, 16, 16, 16, 16, 16, 16, 16, 16, 16, 16, 16, 16, 16, 16, 16, 16, 16, 16, 16, 16, 16, 16, 16, 16, 16, 16, 16, 16, 16, 16, 16, 16, 16, 16, 16, 16, 16, 16, 16, 16, 16, 16, 16, 16, 16, 16, 16, 16, 16, 16, 16, 16, 16, 16, 16, 16, 16, 16, 16, 16, 16, 16, 16, 16, 16, 16, 16, 16, 16, 16, 16, 16, 16, 16, 16, 16, 16, 16, 16, 16, 16, 16, 16, 16, 16, 16, 16, 16, 16, 16, 16, 16, 16, 16, 16, 16, 16, 16, 16, 16, 16, 16, 16]⟩
def tab2 : ByteArray := ⟨#[1, 1, 1, 1, 1, 1, 1, 1, 1, 1, 1, 1, 1, 1, 1, 1, 1, 1, 1, 1, 1, 1, 1, 1, 1, 1, 1, 1, 1, 1, 1, 1, 1, 1, 1, 1, 0, 1, 0, 1, 1, 1, 1, 0, 0, 0, 0, 0, 0, 0, 0, 0, 0, 0, 0, 0, 0, 0, 0, 0, 1, 0, 1, 1, 0, 0, 0, 0, 0, 0, 0, 0, 0, 0, 0, 0, 0, 0, 0, 0, 0, 0, 0, 0, 0, 0, 0, 0, 0, 0, 0, 1, 1, 1, 1, 0, 1, 0, 0, 0, 0, 0, 0, 0, 0, 0, 0, 0, 0, 0, 0, 0, 0, 0, 0, 0, 0, 0, 0, 0, 0, 0, 0, 1, 1, 1, 0, 1, 1, 1, 1, 1, 1, 1, 1, 1, 1, 1, 1, 1, 1, 1, 1, 1, 1, 1, 1, 1, 1, 1, 1, 1, 1, 1, 1, 1, 1, 1, 1, 1, 1, 1, 1, 1, 1, 1, 1, 1, 1, 1, 1, 1, 1, 1, 1, 1, 1, 1, 1, 1, 1, 1, 1, 1, 1, 1, 1, 1, 1, 1, 1, 1, 1, 1, 1, 1, 1, 1, 1, 1, 1, 1, 1, 1, 1, 1, 1, 1, 1, 1, 1, 1, 1, 1, 1, 1, 1, 1, 1, 1, 1, 1, 1, 1, 1, 1, 1, 1, 1, 1, 1, 1, 1, 1, 1, 1, 1, 1, 1, 1, 1, 1, 1, 1, 1, 1, 1, 1, 1, 1, 1, 1, 1, 1, 1, 1]⟩
end Go.Proofs.Ytbkeakeldegkeaa.Q
end
section
namespace Go.Proofs.Ytbkeakeldegkeaa.Q
open Go.RowKit Go.Proofs.YtbkeakeldegkeaaW.PrintWords Go.Proofs.YtbkeakeldegkeaaW.PrintLast Go.Proofs.YtbkeakeldegkeaaW.PrintMore
structure BR (w : World) (g : Nat) (e : TypeId) (l : List UInt8) : Prop where
  out : ∃ C lo hi, w.heap[g]? = some (.cells C e (lo, hi)) ∧ l.length ≤ C.size ∧ (l.length ≤ lo ∨ hi = 0) ∧ ∀ j (h : j < l.length), C[j]? = some (.int .u8 (l[j].toNat : Int))
theorem BR.cell {w : World} {g : Nat} {e : TypeId} {l : List UInt8} (h : BR w g e l) (j : Nat) (hj : j < l.length) : w.cell? ⟨g, j, none⟩ = some (.int .u8 (l[j].toNat : Int)) := by
  obtain ⟨C, lo, hi, hg, _, _, hc⟩ := h.out
  unfold World.cell?
  rw [hg]
  simpa using hc j hj
theorem BR.frozen {w : World} {g : Nat} {e : TypeId} {l : List UInt8} (h : BR w g e l) (j : Nat) (hj : j < l.length) : w.frozen? ⟨g, j, none⟩ = false := by
  obtain ⟨C, lo, hi, hg, _, hf, _⟩ := h.out
  unfold World.frozen?
  rw [hg]
  show (decide (lo ≤ j) && decide (j < hi)) = false
  rcases hf with hf | hf
  · rw [decide_eq_false (by omega)]; rfl
  · rw [hf, Bool.and_eq_false_iff]; right; exact decide_eq_false (by omega)
theorem BR.put {w : World} {g : Nat} {e : TypeId} {l : List UInt8} (h : BR w g e l) (k : Nat) (hk : k < l.length) (b : UInt8) : BR (w.setCell ⟨g, k, none⟩ (.int .u8 (b.toNat : Int))) g e (l.set k b) := by
  obtain ⟨C, lo, hi, hg, hs, hf, hc⟩ := h.out
  have hgl := (Array.getElem?_eq_some_iff.1 hg).1
  refine ⟨C.setIfInBounds k (.int .u8 (b.toNat : Int)), lo, hi, ?_, by simpa using hs, by simpa using hf, fun j hj => ?_⟩
  · have := (Array.getElem?_eq_some_iff.1 hg).2
    simp only [World.setCell, Array.getElem?_modify, if_pos, hg, Option.map_some]
    simp
  · have hjl : j < l.length := by simpa using hj
    rw [Array.getElem?_setIfInBounds, List.getElem_set]
    by_cases e1 : k = j
    · subst e1
      rw [if_pos rfl, if_pos (by omega), if_pos rfl]
    · rw [if_neg e1, if_neg e1]
      exact hc j hjl
theorem BR.heap {w w' : World} {g : Nat} {e : TypeId} {l : List UInt8} (h : BR w g e l) (hh : w'.heap[g]? = w.heap[g]?) : BR w' g e l := by
  obtain ⟨C, lo, hi, hg, r⟩ := h.out
  exact ⟨C, lo, hi, hh.trans hg, r⟩
theorem BR.drewN {w : World} {g : Nat} {e : TypeId} {l : List UInt8} (h : BR w g e l) (m : Nat) : BR (w.drewN m) g e l := h.heap rfl
theorem BR.lt {w : World} {g : Nat} {e : TypeId} {l : List UInt8} (h : BR w g e l) : g < w.heap.size := by
  obtain ⟨C, lo, hi, hg, r⟩ := h.out
  exact (Array.getElem?_eq_some_iff.1 hg).1
theorem BR.below {w w' : World} {g : Nat} {e : TypeId} {l : List UInt8} (h : BR w g e l) (hb : Below w.heap.size w w') : BR w' g e l := h.heap (hb.block g h.lt)
theorem BR.conv (w : World) (e : TypeId) (s : ByteArray) : BR (Lib.bytesWorld w e s) w.heap.size e s.data.toList := by
  refine ⟨_, _, _, Lib.bytesWorld_at_new w e s, ?_, .inl ?_, fun j hj => ?_⟩
  · simp [Lib.bytesCells]
  · simp [Lib.bytesCells]
  · have hj' : j < s.data.size := by simpa using hj
    have hsz : (s.data.map fun b => Value.int .u8 b.toNat).size = s.data.size := Array.size_map ..
    unfold Lib.bytesCells
    rw [Array.getElem?_append, if_pos (by rw [hsz]; exact hj'), Array.getElem?_map, Array.getElem?_eq_getElem hj']
    simp
theorem conv_BR {P : Program} (src dst e : TypeId) (hs : P.underlying src = some .string) (hd : P.underlying dst = some (.slice e)) (he : P.underlying e = some (.int .u8)) (s : ByteArray) (w : World) :
    Go.Proofs.YtbkeakeldegkeaaX.ConvCalls P src dst s w fun en w' => ∃ c, en = .returned (.slice (some ⟨w.heap.size, 0, none⟩) s.size c) ∧ BR w' w.heap.size e s.data.toList ∧ Below w.heap.size w w' := by
  refine ⟨_, _, Lib.run_convert_string_bytes w src dst e s hs hd he, _, rfl, BR.conv w e s, ?_⟩
  exact ⟨rfl, rfl, rfl, by rw [Lib.bytesWorld_size]; omega, fun k hk => Lib.bytesWorld_at_old w e s k hk⟩
theorem conv_BR2 {P : Program} (src dst e : TypeId) (hs : P.underlying src = some .string) (hd : P.underlying dst = some (.slice e)) (he : P.underlying e = some (.int .u8)) (s : ByteArray) (w : World) :
    Go.Proofs.YtbkeakeldegkeaaX.ConvCalls P src dst s w fun en w' => ∃ c, en = .returned (.slice (some ⟨w.heap.size, 0, none⟩) s.size c) ∧ s.size ≤ c ∧ BR w' w.heap.size e s.data.toList ∧ Below w.heap.size w w' := by
  refine ⟨_, _, Lib.run_convert_string_bytes w src dst e s hs hd he, _, rfl, grownCap_ge _ _ _ _, BR.conv w e s, ?_⟩
  exact ⟨rfl, rfl, rfl, by rw [Lib.bytesWorld_size]; omega, fun k hk => Lib.bytesWorld_at_old w e s k hk⟩
theorem BR.back {P : Program} {w : World} {g : Nat} {e : TypeId} {l : List UInt8} (h : BR w g e l) (src dst : TypeId) (cap : Nat) (hs : P.underlying src = some (.slice e)) (he : P.underlying e = some (.int .u8)) (hd : P.underlying dst = some .string) :
    (convert src dst (.slice (some ⟨g, 0, none⟩) l.length cap)).run P w = .ok (.string ⟨l.toArray⟩) w := by
  refine run_convert_bytes_back w src dst e ⟨g, 0, none⟩ cap l hs he hd fun j hj => ?_
  rw [show (⟨g, 0, none⟩ : Addr).add j = ⟨g, j, none⟩ by unfold Addr.add; by_cases hj0 : j = 0 <;> simp [hj0]]
  exact h.cell j hj
theorem BR.alloc {w : World} {e : TypeId} {n : Nat} : BR (w.alloc (.cells (madeCells #[.int .u8 0] n) e)) w.heap.size e (List.replicate n 0) := by
  refine ⟨_, 0, 0, heap_alloc_new w _, by simp [size_madeCells], .inr rfl, fun j hj => ?_⟩
  have hjn : j < n := by simpa using hj
  rw [← Array.getElem?_toList, toList_madeCells_one, List.getElem?_replicate, if_pos hjn]
  simp
theorem BR.copied {g : Nat} {e : TypeId} : ∀ (t old pre : List UInt8) (w : World), BR w g e (pre ++ old) → old.length = t.length → BR (w.setCells g pre.length (t.map fun x => Value.int .u8 (x.toNat : Int))) g e (pre ++ t)
  | [], [], pre, w, h, _ => h
  | x :: t, y :: old, pre, w, h, hl => by
    have h1 := h.put pre.length (by simp) x
    rw [show (pre ++ y :: old).set pre.length x = (pre ++ [x]) ++ old by simp] at h1
    have h2 := BR.copied t old (pre ++ [x]) _ h1 (by simpa using hl)
    rw [show (pre ++ [x]) ++ t = pre ++ x :: t by simp, show (pre ++ [x]).length = pre.length + 1 by simp] at h2
    exact h2
  | [], _ :: _, _, _, _, hl => by simp at hl
  | _ :: _, [], _, _, _, hl => by simp at hl
section
variable {P : Program} {ops : Array Oper} {rest : List Oper} {o : Oper} {a : Act} {Q : Exit → Act → World → Prop} {W : World}
end
end Go.Proofs.Ytbkeakeldegkeaa.Q
end
section
namespace Go.Proofs.YtbkeakeldegkeaaKit
open Go.RowKit Go.Proofs.YtbkeakeldegkeaaW.PrintWords Go.Proofs.YtbkeakeldegkeaaW.PrintLast
abbrev L (s : ByteArray) : List UInt8 := s.data.toList
theorem toList_loop (s : ByteArray) : ∀ (d i : Nat) (r : List UInt8), s.size - i = d → ByteArray.toList.loop s i r = r.reverse ++ (L s).drop i := by
  intro d
  induction d with
  | zero =>
    intro i r h
    rw [ByteArray.toList.loop]
    rw [if_neg (by omega), List.drop_eq_nil_of_le (by rw [data_length]; omega), List.append_nil]
  | succ d ih =>
    intro i r h
    rw [ByteArray.toList.loop, if_pos (by omega), ih (i + 1) _ (by omega)]
    have hi : i < (L s).length := by rw [data_length]; omega
    rw [List.drop_eq_getElem_cons hi, List.reverse_cons, List.append_assoc]
    congr 1
    simp only [List.singleton_append, List.cons.injEq, and_true]
    have hi2 : i < s.data.size := by rw [← Array.length_toList]; exact hi
    show s.data[i]! = _
    rw [getElem!_pos s.data i hi2]
    exact (Array.getElem_toList hi2).symm
theorem tl (s : ByteArray) : s.toList = L s := by
  unfold ByteArray.toList
  rw [toList_loop s _ 0 [] rfl]
  simp
theorem ext {a b : ByteArray} (h : L a = L b) : a = b := by
  cases a; cases b
  simp only [L] at h
  rw [Array.ext' h]
theorem size_L (s : ByteArray) : s.size = (L s).length := (data_length s).symm
theorem L_append (a b : ByteArray) : L (a ++ b) = L a ++ L b := ByteArray.toList_data_append
theorem size_append (a b : ByteArray) : (a ++ b).size = a.size + b.size := by rw [size_L, L_append, List.length_append, ← size_L, ← size_L]
theorem wrap_id {x : Int} (h0 : -9223372036854775808 ≤ x) (h : x ≤ 9223372036854775807) : wrap64 x = x := by unfold wrap64; omega
theorem wrap_succ {n m : Nat} (h : n < m) (hm : m ≤ 9223372036854775807) : wrap64 ((n : Int) + 1) = ((n + 1 : Nat) : Int) := by
  rw [wrap_id (by omega) (by omega)]; omega
theorem bt_nat (s : ByteArray) (n : Nat) (h : n < (L s).length) : bt s (n : Int) = ((L s)[n].toNat : Int) := by
  unfold bt
  have h2 : (n : Int).toNat < s.size := by rw [size_L]; omega
  rw [dif_pos h2]
  rfl
section
variable {s : ByteArray} {pre t : List UInt8} {c : UInt8}
theorem sz_mid (h : L s = pre ++ c :: t) : (pre.length : Int) < (s.size : Int) := by rw [size_L, h]; simp; omega
theorem nz_mid (h : L s = pre ++ c :: t) : pre.length < s.size := by rw [size_L, h]; simp
theorem sz_not (h : L s = pre ++ []) : ¬ (pre.length : Int) < (s.size : Int) := by rw [size_L, h]; simp
theorem bt_mid (h : L s = pre ++ c :: t) : bt s (pre.length : Int) = (c.toNat : Int) := by
  have hl : pre.length < (L s).length := by rw [h]; simp
  rw [bt_nat s _ hl]
  congr 2
  simp [h]
theorem wrap_mid (h : L s = pre ++ c :: t) (hs : s.size ≤ 140737488351232) : wrap64 ((pre.length : Int) + 1) = ((pre ++ [c]).length : Int) := by
  rw [wrap_succ (nz_mid h) (by omega)]; simp
theorem mid_next (h : L s = pre ++ c :: t) : L s = (pre ++ [c]) ++ t := by rw [h]; simp
end
section
variable {α : Type} {xs pre t : List α} {x : α}
theorem ln_mid (h : xs = pre ++ x :: t) : (pre.length : Int) < (xs.length : Int) := by rw [h]; simp; omega
theorem ln_nat (h : xs = pre ++ x :: t) : pre.length < xs.length := by rw [h]; simp
theorem ln_not (h : xs = pre ++ []) : ¬ (pre.length : Int) < (xs.length : Int) := by rw [h]; simp
theorem get_mid (h : xs = pre ++ x :: t) (z : α) : xs.getD (pre.length : Int).toNat z = x := by rw [h]; simp
theorem wrap_lmid (h : xs = pre ++ x :: t) (hs : xs.length ≤ 9223372036854775807) : wrap64 ((pre.length : Int) + 1) = ((pre ++ [x]).length : Int) := by
  rw [wrap_succ (ln_nat h) hs]; simp
theorem lmid_next (h : xs = pre ++ x :: t) : xs = (pre ++ [x]) ++ t := by rw [h]; simp
end
theorem maxLen_le {n : Nat} (h : n ≤ maxLen) : n ≤ 9223372036854775807 := by unfold maxLen at h; exact h
section
variable {α β : Type}
theorem Ev.pos {c : Prop} [Decidable c] {f g : Nat → Option α} {r : α} (h : c) (k : Ev f r) : Ev (fun n => if c then f n else g n) r := by
  simp only [if_pos h]; exact k
theorem Ev.neg {c : Prop} [Decidable c] {f g : Nat → Option α} {r : α} (h : ¬ c) (k : Ev g r) : Ev (fun n => if c then f n else g n) r := by
  simp only [if_neg h]; exact k
theorem Ev.some {a : Option α} {r : α} (h : a = Option.some r) : Ev (fun _ => a) r := ⟨0, fun _ _ => h⟩
theorem Ev.call {g : Nat → Option α} {f : Nat → α → Option β} {a : α} {r : β} (h : Ev g a) (k : Ev (fun n => f n a) r) : Ev (fun n => (g n).bind fun x => f n x) r := Ev.bind h k
theorem Ev.same {g : Nat → Option α} {r q : α} (h : Ev g r) (e : r = q) : Ev g q := e ▸ h
end
end Go.Proofs.YtbkeakeldegkeaaKit
end
section
namespace Go.Proofs.Ytbkeakeldegkeaa.SpA
open Go.RowKit Go.Proofs.YtbkeakeldegkeaaW.PrintWords Go.Proofs.YtbkeakeldegkeaaW.PrintLast Go.Proofs.YtbkeakeldegkeaaKit
def toI (l : List UInt8) : List Int := l.map fun c => (c.toNat : Int)
theorem toI_length (l : List UInt8) : (toI l).length = l.length := by simp [toI]
theorem toI_append (a b : List UInt8) : toI (a ++ b) = toI a ++ toI b := by simp [toI]
theorem L_strOf (l : List UInt8) : L (strOfNums (toI l)) = l := by
  unfold strOfNums toI
  simp [L, List.map_map, Function.comp_def]
theorem rd_mid {xs pre t : List UInt8} {c : UInt8} (h : xs = pre ++ c :: t) : rd (toI xs) (pre.length : Int) = (c.toNat : Int) := by
  unfold rd
  rw [h, toI_append, Int.toNat_natCast, List.getD_eq_getElem?_getD, List.getElem?_append_right (by rw [toI_length]; exact Nat.le_refl _), toI_length, Nat.sub_self]
  rfl
end Go.Proofs.Ytbkeakeldegkeaa.SpA
end
section
namespace Go.Proofs.Ytbkeakeldegkeaa.Ob
open Go.RowKit Go.Proofs.YtbkeakeldegkeaaW.PrintWords Go.Proofs.YtbkeakeldegkeaaW.PrintLast Go.Proofs.YtbkeakeldegkeaaW.PrintMore
open Go.Proofs.Ytbkeakeldegkeaa.SpA (toI toI_length toI_append)
open Go.Proofs.Ytbkeakeldegkeaa.Q (BR)
set_option linter.unusedVariables false
set_option linter.unusedSimpArgs false
structure Only (S : Nat → Prop) (w w' : World) : Prop where
  os : w'.os = w.os
  tape : w'.tape = w.tape
  output : w'.output = w.output
  size : w.heap.size ≤ w'.heap.size
  block : ∀ k, k < w.heap.size → ¬ S k → w'.heap[k]? = w.heap[k]?
section
variable {S T : Nat → Prop} {a b c w : World}
theorem Only.refl (S : Nat → Prop) (w : World) : Only S w w := ⟨rfl, rfl, rfl, Nat.le_refl _, fun _ _ _ => rfl⟩
theorem Only.trans (h : Only S a b) (k : Only T b c) (hs : ∀ i, i < a.heap.size → T i → S i) : Only S a c := ⟨k.os.trans h.os, k.tape.trans h.tape, k.output.trans h.output, Nat.le_trans h.size k.size, fun i hi hn => (k.block i (Nat.lt_of_lt_of_le hi h.size) (fun e => hn (hs i hi e))).trans (h.block i hi hn)⟩
theorem Only.mono (h : Only S a b) (hs : ∀ k, k < a.heap.size → S k → T k) : Only T a b := ⟨h.os, h.tape, h.output, h.size, fun k hk hn => h.block k hk (fun e => hn (hs k hk e))⟩
theorem Only.drewN (h : Only S a w) (m : Nat) : Only S a (w.drewN m) := ⟨h.os, h.tape, h.output, h.size, h.block⟩
theorem Only.set (h : Only S a w) {g : Nat} (hg : S g ∨ a.heap.size ≤ g) (j : Nat) (u : Value) : Only S a (w.setCell ⟨g, j, none⟩ u) :=
  ⟨h.os, h.tape, h.output, by simpa [World.setCell] using h.size, fun k hk hn => by
    rw [Below.heap_setCell _ _ _ _ (show k ≠ g from fun e => hg.elim (fun hs => hn (e ▸ hs)) (fun hl => by omega))]
    exact h.block k hk hn⟩
theorem Only.alloc (h : Only S a w) (o : Obj) : Only S a (w.alloc o) :=
  ⟨h.os, h.tape, h.output, by have := h.size; simp; omega, fun k hk hn => by
    rw [Below.heap_alloc _ _ _ (Nat.lt_of_lt_of_le hk h.size)]
    exact h.block k hk hn⟩
theorem Only.of_below (h : Below a.heap.size a w) : Only S a w := ⟨h.os, h.tape, h.output, h.size, fun k hk _ => h.block k hk⟩
theorem Only.below (h : Only S a w) {B : Nat} (hB : ∀ k, S k → B ≤ k) (hs : B ≤ a.heap.size) : Below B a w := ⟨h.os, h.tape, h.output, h.size, fun k hk => h.block k (by omega) (fun e => by have := hB k e; omega)⟩
theorem Only.of_grown {row : Option Nat} (hg : a.grownBy b row) : Only (fun j => row = some j) a b := ⟨hg.os, hg.tape, hg.output, hg.size, fun k hk hn => hg.block k hk (fun e => hn e.symm)⟩
end
def BV (W : World) (v : Value) (l : List UInt8) : Prop := W.ownsRow 0 5 1 v l.length (encs (Value.int .u8) (toI l))
theorem enc_len (l : List UInt8) : (encs (Value.int .u8) (toI l)).length = l.length := by rw [encs_length, toI_length]
section
variable {W W' : World} {v : Value} {l : List UInt8}
theorem BV.nil (W : World) : BV W (.slice none 0 0) [] := ⟨rfl, .inl ⟨rfl, rfl⟩⟩
theorem BV.R (h : BV W v l) : Kd.R (Kd.int .u8) 5 W 0 (fun _ => True) v (toI l) := Kd.R_of_own (xs := toI l) (by unfold BV at h; rwa [toI_length]) (fun _ _ => trivial)
theorem BV.of_R {base : Nat} {ok : Nat → Prop} (h : Kd.R (Kd.int .u8) 5 W base ok v (toI l)) : BV W v l := by
  obtain ⟨h1, h2⟩ := Kd.own_of_R h
  rw [toI_length] at h1 h2
  refine ⟨h1, h2.imp id ?_⟩
  rintro ⟨g, cap, cur, e, _, r⟩
  exact ⟨g, cap, cur, e, Nat.zero_le _, r⟩
theorem BV.move (h : BV W v l) (hm : ∀ k, v.ownBlock = some k → W'.heap[k]? = W.heap[k]?) : BV W' v l := by
  refine ⟨h.1, h.2.imp id ?_⟩
  rintro ⟨g, cap, cur, e, hb, hg, r⟩
  exact ⟨g, cap, cur, e, hb, (hm g (by rw [e]; rfl)).trans hg, r⟩
theorem BV.lt (h : BV W v l) : ∀ k, v.ownBlock = some k → k < W.heap.size := by
  rcases h.2 with ⟨rfl, _⟩ | ⟨g, cap, cur, rfl, _, hg, _⟩
  · intro k hk; cases hk
  · intro k hk
    have : g = k := by simpa [Value.ownBlock] using hk
    subst this
    exact (Array.getElem?_eq_some_iff.1 hg).1
theorem BV.type (h : BV W v l) {k : Nat} (hk : v.ownBlock = some k) : ∃ C, W.heap[k]? = some (.cells C 5 (0, 0)) := by
  rcases h.2 with ⟨rfl, _⟩ | ⟨g, cap, cur, rfl, _, hg, _⟩
  · cases hk
  · have : g = k := by simpa [Value.ownBlock] using hk
    subst this
    exact ⟨_, hg⟩
theorem BV.slice (h : BV W v l) : ∃ A c, v = .slice A l.length c ∧ l.length ≤ c ∧ (∀ a, A = some a → a.off = 0 ∧ a = ⟨a.block, 0, none⟩) := by
  rcases h.2 with ⟨e, hn⟩ | ⟨g, cap, cur, e, _, hg, hc, _⟩
  · exact ⟨none, 0, by rw [e, hn], by omega, fun a ha => by cases ha⟩
  · exact ⟨_, _, e, hc, fun a ha => by cases ha; exact ⟨rfl, rfl⟩⟩
theorem BV.form (h : BV W v l) : ∃ A n c, v = .slice A n c := by
  obtain ⟨A, c, e, _⟩ := h.slice
  exact ⟨A, _, c, e⟩
theorem BV.C {A : Option Addr} {n c : Nat} (h : BV W (.slice A n c) l) : Kd.C (Kd.int .u8) W A n (toI l) := by
  obtain ⟨hn, _, hc⟩ := Kd.R_reads' h.R
  rw [hn]; exact hc
theorem BV.cap {A : Option Addr} {n c : Nat} (h : BV W (.slice A n c) l) : n = l.length ∧ n ≤ c := by
  obtain ⟨hn, hc, _⟩ := Kd.R_reads' h.R
  exact ⟨by rw [hn, toI_length], hc⟩
theorem BV.cut0 {A : Option Addr} {n c : Nat} (h : BV W (.slice A n c) l) : BV W (.slice A 0 c) [] := by
  rcases h.2 with ⟨e, hn⟩ | ⟨g, cap, cur, e, hb, hg, hc, hm, hs, ht⟩
  · cases e
    exact BV.nil W
  · cases e
    exact ⟨rfl, .inr ⟨g, c, cur, rfl, hb, hg, Nat.zero_le _, hm, hs, rfl⟩⟩
theorem BV.BR {g n c : Nat} (h : BV W (.slice (some ⟨g, 0, none⟩) n c) l) : BR W g 5 l := by
  rcases h.2 with ⟨e, hn⟩ | ⟨g', cap, cur, e, hb, hg, hc, hm, hs, ht⟩
  · cases e
  · cases e
    refine ⟨cur, 0, 0, hg, by omega, .inr rfl, fun j hj => ?_⟩
    have hj2 : j < cur.toList.length := by simp; omega
    have h1 : (cur.toList.take (l.length * 1))[j]? = (encs (Value.int .u8) (toI l))[j]? := by rw [ht]
    rw [List.getElem?_take, if_pos (by omega)] at h1
    rw [← Array.getElem?_toList, h1]
    simp [encs, toI, hj]
end
def RV (W : World) (v : Value) (l : List UInt8) : Prop := (v = .slice none 0 0 ∧ l = []) ∨ ∃ g c, v = .slice (some ⟨g, 0, none⟩) l.length c ∧ l.length ≤ c ∧ Go.Proofs.Ytbkeakeldegkeaa.Q.BR W g 5 l
def RW (b : Bool) (W : World) (v : Value) (l : List UInt8) : Prop := if b = true then BV W v l else RV W v l ∧ l.length ≤ 4611686018427387904
section
variable {W W' : World} {v : Value} {l : List UInt8} {b : Bool}
theorem RW.bv (h : RW true W v l) : BV W v l := h
theorem BV.rw (h : BV W v l) : RW true W v l := h
theorem RW.move (h : RW b W v l) (hm : ∀ k, v.ownBlock = some k → W'.heap[k]? = W.heap[k]?) : RW b W' v l := by
  cases b
  · refine ⟨h.1.imp id ?_, h.2⟩
    rintro ⟨g, c, e, hc, hb⟩
    exact ⟨g, c, e, hc, hb.heap (hm g (by rw [e]; rfl))⟩
  · exact BV.move h hm
theorem RW.lt (h : RW b W v l) : ∀ k, v.ownBlock = some k → k < W.heap.size := by
  cases b
  · rcases h.1 with ⟨rfl, _⟩ | ⟨g, c, rfl, hc, hb⟩
    · intro k hk; cases hk
    · intro k hk
      have : g = k := by simpa [Value.ownBlock] using hk
      subst this
      exact hb.lt
  · exact BV.lt h
theorem RW.type (h : RW b W v l) {k : Nat} (hk : v.ownBlock = some k) : ∃ C f, W.heap[k]? = some (.cells C 5 f) := by
  cases b
  · rcases h.1 with ⟨rfl, _⟩ | ⟨g, c, rfl, hc, hb⟩
    · cases hk
    · have : g = k := by simpa [Value.ownBlock] using hk
      subst this
      obtain ⟨C, lo, hi, hg, _⟩ := hb.out
      exact ⟨C, _, hg⟩
  · obtain ⟨C, hC⟩ := BV.type h hk
    exact ⟨C, _, hC⟩
theorem RW.slice (h : RW b W v l) : ∃ A c, v = .slice A l.length c ∧ l.length ≤ c ∧ (∀ a, A = some a → a = ⟨a.block, 0, none⟩) := by
  cases b
  · rcases h.1 with ⟨rfl, rfl⟩ | ⟨g, c, rfl, hc, hb⟩
    · exact ⟨none, 0, rfl, Nat.le_refl _, fun a ha => by cases ha⟩
    · exact ⟨_, c, rfl, hc, fun a ha => by cases ha; rfl⟩
  · obtain ⟨A, c, e, hc, ha⟩ := BV.slice h
    exact ⟨A, c, e, hc, fun a h => (ha a h).2⟩
theorem RW.C {A : Option Addr} {n c : Nat} (h : RW b W (.slice A n c) l) : Kd.C (Kd.int .u8) W A n (toI l) := by
  cases b
  · rcases h.1 with ⟨e, rfl⟩ | ⟨g, c, e, hc, hb⟩
    · cases e
      exact (BV.nil W).C
    · cases e
      have hl := h.2
      refine Kd.C_of_reads (enc := Value.int .u8) (d := (0 : Int)) (h1 := fun _ => rfl) ⟨by rw [toI_length], by omega, fun _ => ⟨_, rfl, fun j hj => ?_⟩⟩
      rw [show (Addr.add ⟨g, 0, none⟩ j : Addr) = ⟨g, j, none⟩ by unfold Addr.add; by_cases hj0 : j = 0 <;> simp [hj0]]
      rw [hb.cell j hj]
      simp [toI, hj]
  · exact BV.C h
theorem RW.cap {A : Option Addr} {n c : Nat} (h : RW b W (.slice A n c) l) : n = l.length ∧ n ≤ c := by
  obtain ⟨A', c', e, hc, _⟩ := h.slice
  cases e
  exact ⟨rfl, hc⟩
end
section
variable {P : Program} {ops : Array Oper} {rest : List Oper} {o : Oper} {a : Act} {Q : Exit → Act → World → Prop} {W : World}
theorem app_BV (hgd : o.guard = none) (s x : Operand) (t : TypeId) (ho : o.op = .call { callee := .builtin .append, args := #[s, x], argTypes := #[t, t] })
    (ht : P.underlying t = some (.slice 5)) (hinfo : (P.info? 5).map (fun i => (i.zero, i.size, i.bytes)) = some (some (.int .u8 0), 1, 1))
    (v : Value) (l m : List UInt8) (A : Option Addr) (n c : Nat) (hs : a.eval s = v) (hx : a.eval x = .slice A n c) (hv : BV W v l) (hm : Kd.C (Kd.int .u8) W A n (toI m)) (hl : l.length + m.length ≤ 140737488355328)
    (h : ∀ v1 W1, BV W1 v1 (l ++ m) → Only (fun j => v.ownBlock = some j) W W1 → (v1.ownBlock = v.ownBlock ∨ ∃ b, v1.ownBlock = some b ∧ W.heap.size ≤ b) → wpList P ops Q rest (a.put o.dst v1) W1) : wpList P ops Q (o :: rest) a W := by
  have hn : n = m.length := by have := hm.1; rw [toI_length] at this; exact this.symm
  refine Kd.R_append_rows (Kd.int .u8) (w0 := W) 0 hgd s x t 5 (.int .u8 0) 1 ho ht hinfo rfl (by decide) (by omega) v (toI l) (toI m) A n c (fun _ => True) (fun _ => False) hs hx hv.R hm (fun _ _ h => h) (fun _ h => h.elim) (fun _ _ => trivial) (Below.refl _ _) (Nat.zero_le _) (by rw [toI_length, hn]; omega) ?_
  intro v1 w1 hr _ hg hat
  refine h v1 w1 (BV.of_R (by rw [toI_append]; exact hr)) (Only.of_grown hg) hat
theorem cut0_run {P : Program} {t e : TypeId} {i : TypeInfo} (ht : P.underlying t = some (.slice e)) (hi : P.info? e = some i) (A : Option Addr) (m c n : Nat) (x : Int) (hx : x = (n : Int)) (hn : n ≤ c) :
    ∀ W : World, (Instr.slice t (.slice A m c) none (some (.int .i64 x)) none).run P W = .ok (.slice A n c) W := by
  intro W
  have hel : P.elem t = e := by simp [Program.elem, ht]
  have hu : P.underlying t = some (.slice (P.elem t)) := by rw [hel]; exact ht
  have ha : (A.map fun x => x.add 0) = A := by cases A <;> simp [Addr.add]
  rw [run_slice_h W t A m c hu .i64 x (by omega) (by omega), hel]
  simp [sizeOf, typeInfo, hi, sliced, Result.andThen, ha, hx]
theorem strCells_toI (s : ByteArray) : Lib.strCells s = encs (Value.int .u8) (toI s.data.toList) := by simp [Lib.strCells, encs, toI]
theorem encs_toI (l m : List UInt8) : encs (Value.int .u8) (toI (l ++ m)) = encs (Value.int .u8) (toI l) ++ encs (Value.int .u8) (toI m) := by simp [encs, toI]
theorem run_apps (t u ty : TypeId) (ht : P.underlying t = some (.slice 5)) (hu : P.underlying u = some .string) (hinfo : (P.info? 5).map (fun i => (i.zero, i.size, i.bytes)) = some (some (.int .u8 0), 1, 1))
    (v : Value) (l : List UInt8) (y : ByteArray) (hv : BV W v l) (hl : l.length + y.size ≤ 140737488355328) :
    ∃ v1 W1, (Builtin.append_ #[t, u] ty #[v, .string y]).run P W = .ok v1 W1 ∧ BV W1 v1 (l ++ y.data.toList) ∧ Only (fun j => v.ownBlock = some j) W W1 ∧ (v1.ownBlock = v.ownBlock ∨ ∃ b, v1.ownBlock = some b ∧ W.heap.size ≤ b) := by
  obtain ⟨i0, hi, hzz⟩ := Option.map_eq_some_iff.1 hinfo
  simp only [Prod.mk.injEq] at hzz
  obtain ⟨hz0, hz1, hz2⟩ := hzz
  have hyl : y.size = y.data.toList.length := by simp
  have fin : ∀ {b : Nat} {v1 : Value} {W1 : World}, W1.ownsRow b 5 1 v1 (l.length + y.size) (encs (Value.int .u8) (toI l) ++ Lib.strCells y) → BV W1 v1 (l ++ y.data.toList) := fun {b v1 W1} hown => by
    unfold BV
    rw [encs_toI, ← strCells_toI, List.length_append, ← hyl]
    refine ⟨hown.1, hown.2.imp id ?_⟩
    rintro ⟨g, cap, cur, e, _, r⟩
    exact ⟨g, cap, cur, e, Nat.zero_le _, r⟩
  rcases id hv.2 with ⟨rfl, hn⟩ | ⟨g, cap, cur, rfl, hb, hg, hc, hm, hsz, htk⟩
  · have hl0 : l = [] := List.length_eq_zero_iff.1 hn
    subst hl0
    obtain ⟨v1, W1, hr, hown, hgr, _⟩ := Lib.run_append_own_string (P := P) W W.heap.size t u ty 5 i0 ht hu hi hz0 hz1 hz2 (.slice none 0 0) 0 [] (World.ownsRow_nil W _ 5 1) y (by simp only [maxLen]; omega) (by omega) (Nat.le_refl _)
    refine ⟨v1, W1, hr, fin hown, Only.of_grown hgr, ?_⟩
    rcases hown.2 with ⟨rfl, _⟩ | ⟨g, cap, cur, rfl, hb, _⟩
    · exact .inl rfl
    · exact .inr ⟨g, rfl, hb⟩
  · obtain ⟨v1, W1, hr, hown, hgr, _⟩ := Lib.run_append_own_string (P := P) W 0 t u ty 5 i0 ht hu hi hz0 hz1 hz2 (.slice (some ⟨g, 0, none⟩) l.length cap) l.length (encs (Value.int .u8) (toI l)) hv y (by simp only [maxLen]; omega) (by omega) (Nat.zero_le _)
    refine ⟨v1, W1, hr, fin hown, Only.of_grown hgr, ?_⟩
    by_cases hroom : l.length + y.size ≤ cap
    · have h2 := Lib.run_append_room_string (P := P) (w := W) t u ty 5 i0 ht hu hi hz1 g l.length cap cur hg y hroom (by omega)
      rw [hr] at h2
      injection h2 with h3 h4
      rw [h3]
      exact .inl rfl
    · have holds : ∀ j u, (encs (Value.int .u8) (toI l))[j]? = some u → W.cell? ((⟨g, 0, none⟩ : Addr).add j) = some u := World.ownsRow.cells (g := g) hv rfl
      have h2 := Lib.run_append_grow_string (P := P) (w := W) t u ty 5 i0 (.int .u8 0) ht hu hi hz0 ⟨g, 0, none⟩ l.length cap _ (by rw [hz1, enc_len]; omega) holds y (by omega) (by omega) (by rw [hz2]; exact growslice_fits (by omega) (by omega))
      rw [hr] at h2
      injection h2 with h3 h4
      rw [h3]
      exact .inr ⟨_, rfl, Nat.le_refl _⟩
theorem apps_BV (hgd : o.guard = none) (s x : Operand) (t u : TypeId) (ho : o.op = .call { callee := .builtin .append, args := #[s, x], argTypes := #[t, u] })
    (ht : P.underlying t = some (.slice 5)) (hu : P.underlying u = some .string) (hinfo : (P.info? 5).map (fun i => (i.zero, i.size, i.bytes)) = some (some (.int .u8 0), 1, 1))
    (v : Value) (l : List UInt8) (y : ByteArray) (hs : a.eval s = v) (hx : a.eval x = .string y) (hv : BV W v l) (hl : l.length + y.size ≤ 140737488355328)
    (h : ∀ v1 W1, BV W1 v1 (l ++ y.data.toList) → Only (fun j => v.ownBlock = some j) W W1 → (v1.ownBlock = v.ownBlock ∨ ∃ b, v1.ownBlock = some b ∧ W.heap.size ≤ b) → wpList P ops Q rest (a.put o.dst v1) W1) : wpList P ops Q (o :: rest) a W := by
  obtain ⟨v1, W1, hr, h1, h2, h3⟩ := run_apps (P := P) (W := W) t u o.type ht hu hinfo v l y hv hl
  refine wpList_plain hgd fun K hK => ?_
  unfold Oper.wp execOp
  simp only [ho, resolve, invoke, builtin, Sem.run_bind, Sem.run_pure, Result.andThen_ok, List.map_toArray, List.map_cons, List.map_nil, hs, hx, hr]
  exact hK _ _ (h v1 W1 h1 h2 h3)
end
theorem lit_C {W : World} {g : Nat} (m : List UInt8) (C : Array Value) (hC : C.toList = encs (Value.int .u8) (toI m)) (hg : W.heap[g]? = some (.cells C 5 (0, 0))) (hm : m.length ≤ 4611686018427387904) : Kd.C (Kd.int .u8) W (some ⟨g, 0, none⟩) m.length (toI m) := by
  refine Kd.C_of_reads (enc := Value.int .u8) (d := (0 : Int)) (h1 := fun _ => rfl) ⟨by rw [toI_length], by omega, fun _ => ⟨_, rfl, fun j hj => ?_⟩⟩
  rw [show (Addr.add ⟨g, 0, none⟩ j : Addr) = ⟨g, j, none⟩ by unfold Addr.add; by_cases hj0 : j = 0 <;> simp [hj0]]
  unfold World.cell?
  rw [hg]
  show C[j]? = _
  rw [← Array.getElem?_toList, hC]
  simp [encs, toI, hj]
theorem BR.C {W : World} {g : Nat} {m : List UInt8} (h : Go.Proofs.Ytbkeakeldegkeaa.Q.BR W g 5 m) (hm : m.length ≤ 4611686018427387904) : Kd.C (Kd.int .u8) W (some ⟨g, 0, none⟩) m.length (toI m) := by
  refine Kd.C_of_reads (enc := Value.int .u8) (d := (0 : Int)) (h1 := fun _ => rfl) ⟨by rw [toI_length], by omega, fun _ => ⟨_, rfl, fun j hj => ?_⟩⟩
  rw [show (Addr.add ⟨g, 0, none⟩ j : Addr) = ⟨g, j, none⟩ by unfold Addr.add; by_cases hj0 : j = 0 <;> simp [hj0]]
  have := Go.Proofs.Ytbkeakeldegkeaa.Q.BR.cell h j hj
  rw [this]
  simp [toI, hj]
structure OBJ (W : World) (g : Nat) (T : TypeId) (vals : List Value) (rows : List (Option (Bool × List UInt8))) : Prop where
  heap : W.heap[g]? = some (.cells vals.toArray T (0, 0))
  row : ∀ (i : Nat) (b : Bool) (l : List UInt8), rows[i]? = some (some (b, l)) → ∃ v, vals[i]? = some v ∧ RW b W v l
  sep : ∀ (i j : Nat) (l m : Bool × List UInt8) v u k, rows[i]? = some (some l) → rows[j]? = some (some m) → i ≠ j → vals[i]? = some v → vals[j]? = some u → v.ownBlock = some k → u.ownBlock ≠ some k
def Apart (g : Nat) (vals : List Value) (rows : List (Option (Bool × List UInt8))) (v : Value) : Prop := (v.ownBlock ≠ some g) ∧ ∀ (i : Nat) l u k, rows[i]? = some (some l) → vals[i]? = some u → v.ownBlock = some k → u.ownBlock ≠ some k
section
variable {W W' : World} {g : Nat} {T : TypeId} {vals : List Value} {rows : List (Option (Bool × List UInt8))}
theorem OBJ.lt (h : OBJ W g T vals rows) : g < W.heap.size := (Array.getElem?_eq_some_iff.1 h.heap).1
theorem OBJ.move (h : OBJ W g T vals rows) (hg : W'.heap[g]? = W.heap[g]?) (hm : ∀ (i : Nat) l v k, rows[i]? = some (some l) → vals[i]? = some v → v.ownBlock = some k → W'.heap[k]? = W.heap[k]?) : OBJ W' g T vals rows := by
  refine ⟨hg.trans h.heap, fun i b l hi => ?_, h.sep⟩
  obtain ⟨v, hv, hb⟩ := h.row i b l hi
  exact ⟨v, hv, hb.move fun k hk => hm i (b, l) v k hi hv hk⟩
theorem OBJ.below (h : OBJ W g T vals rows) (hb : Below W.heap.size W W') : OBJ W' g T vals rows :=
  h.move (hb.block g h.lt) fun i l v k hi hv hk => by
    obtain ⟨v', hv', hb'⟩ := h.row i l.1 l.2 hi
    rw [hv] at hv'; cases hv'
    exact hb.block k (hb'.lt k hk)
theorem OBJ.drop (h : OBJ W g T vals rows) (i : Nat) : OBJ W g T vals (rows.set i none) := by
  have key : ∀ (j : Nat) l, (rows.set i none)[j]? = some (some l) → rows[j]? = some (some l) := fun j l hj => by
    rw [List.getElem?_set] at hj
    by_cases e : i = j
    · rw [if_pos e] at hj
      split at hj <;> cases hj
    · rwa [if_neg e] at hj
  exact ⟨h.heap, fun j b l hj => h.row j b l (key j (b, l) hj), fun a b l m v u k ha hb => h.sep a b l m v u k (key a l ha) (key b m hb)⟩
theorem OBJ.apart (h : OBJ W g T vals rows) (hT : T ≠ 5) (i : Nat) {l : Bool × List UInt8} {v u : Value} (hi : rows[i]? = some (some l)) (hv : vals[i]? = some v) (hu : u.ownBlock = v.ownBlock) : Apart g vals (rows.set i none) u := by
  obtain ⟨v', hv', hb⟩ := h.row i l.1 l.2 hi
  rw [hv] at hv'; cases hv'
  refine ⟨fun e => ?_, fun j m y k hj hy hk => ?_⟩
  · rw [hu] at e
    obtain ⟨C, f, hC⟩ := hb.type e
    rw [h.heap] at hC
    cases hC
    exact hT rfl
  · rw [List.getElem?_set] at hj
    by_cases e : i = j
    · rw [if_pos e] at hj
      split at hj <;> cases hj
    · rw [if_neg e] at hj
      rw [hu] at hk
      exact h.sep i j l m v y k hi hj e hv hy hk
theorem Apart.nil (g : Nat) (vals : List Value) (rows : List (Option (Bool × List UInt8))) (n c : Nat) : Apart g vals rows (.slice none n c) := ⟨fun e => by simp [Value.ownBlock] at e, fun i l u k _ _ hk => by simp [Value.ownBlock] at hk⟩
theorem OBJ.only (h : OBJ W g T vals rows) {v : Value} (ha : Apart g vals rows v) (ho : Only (fun j => v.ownBlock = some j) W W') : OBJ W' g T vals rows :=
  h.move (ho.block g h.lt (fun e => ha.1 e)) fun i l u k hi hu hk => by
    obtain ⟨v', hv', hb'⟩ := h.row i l.1 l.2 hi
    rw [hu] at hv'; cases hv'
    exact ho.block k (hb'.lt k hk) (fun e => ha.2 i l u k hi hu e hk)
theorem OBJ.apart_new (h : OBJ W g T vals rows) {v : Value} {b : Nat} (hv : v.ownBlock = some b) (hb : W.heap.size ≤ b) : Apart g vals rows v := by
  refine ⟨fun e => ?_, fun i l u k hi hu hk hc => ?_⟩
  · rw [hv] at e
    cases e
    have := h.lt
    omega
  · rw [hv] at hk
    cases hk
    obtain ⟨v', hv', hb'⟩ := h.row i l.1 l.2 hi
    rw [hu] at hv'; cases hv'
    have := hb'.lt b hc
    omega
theorem OBJ.store (h : OBJ W g T vals rows) (hT : T ≠ 5) (i : Nat) (hi : i < vals.length) (v : Value) (f : Bool) (l : List UInt8) (hv : RW f W v l) (ha : Apart g vals (rows.set i none) v) : OBJ (W.setCell ⟨g, i, none⟩ v) g T (vals.set i v) (rows.set i (some (f, l))) := by
  have hg : (W.setCell ⟨g, i, none⟩ v).heap[g]? = some (.cells (vals.set i v).toArray T (0, 0)) := by
    simp only [World.setCell, Array.getElem?_modify, if_pos]
    rw [h.heap]
    simp
  have oth : ∀ k, k ≠ g → (W.setCell ⟨g, i, none⟩ v).heap[k]? = W.heap[k]? := fun k hk => Below.heap_setCell _ _ _ _ hk
  have ng : ∀ {u : Value} {c : Bool} {m : List UInt8} {k : Nat}, RW c W u m → u.ownBlock = some k → k ≠ g := fun {u c m k} hb hk e => by
    obtain ⟨C, f', hC⟩ := hb.type hk
    rw [e, h.heap] at hC
    cases hC
    exact hT rfl
  have old : ∀ (j : Nat) m, j ≠ i → (rows.set i (some (f, l)))[j]? = some (some m) → rows[j]? = some (some m) := fun j m hj hr => by
    rw [List.getElem?_set, if_neg (fun e => hj e.symm)] at hr; exact hr
  have non : ∀ (j : Nat) m, j ≠ i → rows[j]? = some (some m) → (rows.set i none)[j]? = some (some m) := fun j m hj hr => by
    rw [List.getElem?_set, if_neg (fun e => hj e.symm)]; exact hr
  refine ⟨hg, fun j c m hj => ?_, ?_⟩
  · by_cases e : j = i
    · subst e
      have hm : (c, m) = (f, l) := by
        rw [List.getElem?_set, if_pos rfl] at hj
        split at hj
        · exact (Option.some.inj (Option.some.inj hj)).symm
        · cases hj
      cases hm
      exact ⟨v, by rw [List.getElem?_set, if_pos rfl, if_pos hi], hv.move fun k hk => oth k (fun e => ha.1 (e ▸ hk))⟩
    · obtain ⟨u, hu, hb⟩ := h.row j c m (old j (c, m) e hj)
      exact ⟨u, by rw [List.getElem?_set, if_neg (fun e' => e e'.symm)]; exact hu, hb.move fun k hk => oth k (ng hb hk)⟩
  · intro a b la lb va vb k hra hrb hab hva hvb hka
    by_cases ea : a = i
    · subst ea
      rw [List.getElem?_set, if_pos rfl, if_pos hi] at hva
      cases hva
      rw [List.getElem?_set, if_neg hab] at hvb
      exact ha.2 b lb vb k (non b lb (fun e => hab e.symm) (old b lb (fun e => hab e.symm) hrb)) hvb hka
    · rw [List.getElem?_set, if_neg (fun e => ea e.symm)] at hva
      by_cases eb : b = i
      · subst eb
        rw [List.getElem?_set, if_pos rfl, if_pos hi] at hvb
        cases hvb
        intro hc
        exact ha.2 a la va k (non a la ea (old a la ea hra)) hva hc hka
      · rw [List.getElem?_set, if_neg (fun e => eb e.symm)] at hvb
        exact h.sep a b la lb va vb k (old a la ea hra) (old b lb eb hrb) hab hva hvb hka
theorem OBJ.put (h : OBJ W g T vals rows) (hT : T ≠ 5) (i : Nat) (hi : i < vals.length) (v : Value) (hr : ∀ l, rows[i]? ≠ some (some l)) : OBJ (W.setCell ⟨g, i, none⟩ v) g T (vals.set i v) rows := by
  have hg : (W.setCell ⟨g, i, none⟩ v).heap[g]? = some (.cells (vals.set i v).toArray T (0, 0)) := by
    simp only [World.setCell, Array.getElem?_modify, if_pos]
    rw [h.heap]
    simp
  have nei : ∀ (j : Nat) l, rows[j]? = some (some l) → i ≠ j := fun j l hj e => hr l (e ▸ hj)
  have same : ∀ (j : Nat) l, rows[j]? = some (some l) → (vals.set i v)[j]? = vals[j]? := fun j l hj => by rw [List.getElem?_set, if_neg (nei j l hj)]
  refine ⟨hg, fun j c l hj => ?_, fun a b la lb va vb k hra hrb hab hva hvb => ?_⟩
  · obtain ⟨u, hu, hb⟩ := h.row j c l hj
    refine ⟨u, (same j (c, l) hj).trans hu, hb.move fun k hk => Below.heap_setCell _ _ _ _ (fun e => ?_)⟩
    obtain ⟨C, f, hC⟩ := hb.type hk
    rw [e, h.heap] at hC
    cases hC
    exact hT rfl
  · rw [same a la hra] at hva
    rw [same b lb hrb] at hvb
    exact h.sep a b la lb va vb k hra hrb hab hva hvb
theorem OBJ.cell (h : OBJ W g T vals rows) (i : Nat) (v : Value) (hv : vals[i]? = some v) : W.cell? ⟨g, i, none⟩ = some v := by
  unfold World.cell?
  rw [h.heap]
  show vals.toArray[i]? = some v
  rw [List.getElem?_toArray]
  exact hv
theorem OBJ.fz (h : OBJ W g T vals rows) (i : Nat) : W.frozen? ⟨g, i, none⟩ = false := by unfold World.frozen?; rw [h.heap]; simp
end
theorem OBJ.fresh {W : World} {g : Nat} {T : TypeId} {vals : List Value} {rows : List (Option (Bool × List UInt8))} (hg : W.heap[g]? = some (.cells vals.toArray T (0, 0))) (h0 : ∀ v ∈ vals, v.ownBlock = none) (hr : ∀ (i : Nat) (b : Bool) (l : List UInt8), rows[i]? = some (some (b, l)) → l = [] ∧ vals[i]? = some (.slice none 0 0)) : OBJ W g T vals rows := by
  refine ⟨hg, fun i b l hi => ?_, fun i j l m v u k _ _ _ hv _ hk => ?_⟩
  · obtain ⟨rfl, hv⟩ := hr i b l hi
    refine ⟨_, hv, ?_⟩
    cases b
    · exact ⟨.inl ⟨rfl, rfl⟩, Nat.zero_le _⟩
    · exact BV.nil W
  · rw [h0 v (List.mem_of_getElem? hv)] at hk
    cases hk
theorem OBJ.refill {W W1 : World} {g : Nat} {T : TypeId} {vals : List Value} {rows : List (Option (Bool × List UInt8))} (h : OBJ W g T vals rows) (hT : T ≠ 5) (i : Nat) {l : Bool × List UInt8} {v0 v v1 : Value} (hi : rows[i]? = some (some l)) (hv : vals[i]? = some v0) (hsame : v.ownBlock = v0.ownBlock)
    (ho : Only (fun j => v.ownBlock = some j) W W1) (hat : v1.ownBlock = v.ownBlock ∨ ∃ b, v1.ownBlock = some b ∧ W.heap.size ≤ b) : OBJ W1 g T vals (rows.set i none) ∧ Apart g vals (rows.set i none) v1 := by
  have ha := h.apart hT i hi hv hsame
  have hd := h.drop i
  refine ⟨hd.only ha ho, ?_⟩
  rcases hat with e | ⟨b, hb1, hb2⟩
  · exact ⟨by rw [e]; exact ha.1, fun j m u k hj hu hk => ha.2 j m u k hj hu (by rw [← e]; exact hk)⟩
  · exact hd.apart_new hb1 hb2
theorem OBJ.restore {W1 : World} {g : Nat} {T : TypeId} {vals : List Value} {rows : List (Option (Bool × List UInt8))} (hT : T ≠ 5) (i : Nat) (hi : i < vals.length) {v1 : Value} {f : Bool} {l1 : List UInt8} (h : OBJ W1 g T vals (rows.set i none)) (ha : Apart g vals (rows.set i none) v1) (hb : RW f W1 v1 l1) : OBJ (W1.setCell ⟨g, i, none⟩ v1) g T (vals.set i v1) (rows.set i (some (f, l1))) := by
  have := OBJ.store h hT i hi v1 f l1 hb (by rw [List.set_set]; exact ha)
  rwa [List.set_set] at this
section
variable {w0 w W W1 : World} {v0 v v1 : Value} {g : Nat} {T : TypeId} {vals : List Value} {rows : List (Option (Bool × List UInt8))} {acc acc1 : List UInt8}
variable {P : Program} {ops : Array Oper} {rest : List Oper} {o : Oper} {a : Act} {Q : Exit → Act → World → Prop}
end
theorem BV.grew {W W' : World} {v v' : Value} {l : List UInt8} (hr : Kd.R (Kd.int .u8) 5 W' 0 (fun k_ => (v.ownBlock = some k_ ∨ W.heap.size ≤ k_)) v' (toI l)) (hl : l ≠ []) (hb : Below 0 { W with heap := #[] } W') (hk : Kept W W' (fun k_ => v.ownBlock = some k_)) :
    BV W' v' l ∧ Only (fun j => v.ownBlock = some j) W W' ∧ (v'.ownBlock = v.ownBlock ∨ ∃ b, v'.ownBlock = some b ∧ W.heap.size ≤ b) := by
  refine ⟨BV.of_R hr, ⟨hb.os, hb.tape, hb.output, hk.1, fun k h1 h2 => hk.2 k h1 h2⟩, ?_⟩
  have hv := BV.of_R hr
  rcases hv.2 with ⟨_, hn⟩ | ⟨g, cap, cur, e, _⟩
  · exact absurd (List.length_eq_zero_iff.1 hn) hl
  · have hg : v'.ownBlock = some g := by rw [e]; rfl
    rcases hr.1 g hg with h1 | h1
    · exact .inl (hg.trans h1.symm)
    · exact .inr ⟨g, hg, h1⟩
theorem BV.R0 {W : World} {v : Value} {l : List UInt8} (h : BV W v l) : Kd.R (Kd.int .u8) 5 W 0 (fun k_ => v.ownBlock = some k_) v (toI l) := Kd.R_of_own (xs := toI l) (by unfold BV at h; rwa [toI_length]) (fun _ hk => hk)
end Go.Proofs.Ytbkeakeldegkeaa.Ob
end
section
namespace Go.Proofs.Ytbkeakeldegkeaa.Q
open Go.RowKit Go.Proofs.YtbkeakeldegkeaaW.PrintWords Go.Proofs.YtbkeakeldegkeaaW.PrintLast Go.Proofs.YtbkeakeldegkeaaW.PrintMore
attribute [local go_sem] max2_int min2_int max_two min_two max_three min_three max_four min_four
set_option linter.unusedVariables false
set_option linter.unusedSimpArgs false
mutual
def hertzconv_AppendQuotedPath.j0 : Nat → List Int → List Int → Bool → Option (List Int)
  | 0, _, _, _ => none
  | k + 1, x0, x1, x15 => if x15 = true then (if x0.length < 140737488355328 then (some (x0 ++ [42])) else (none)) else (hertzconv_AppendQuotedPath.l0 k x0 x1 (x1.length : Int) 0)
def hertzconv_AppendQuotedPath.l0 : Nat → List Int → List Int → Int → Int → Option (List Int)
  | 0, _, _, _, _ => none
  | k + 1, x0, x19, x20, x21 => if x21 < x20 then (if 0 ≤ x21 then (if x21 < (x19.length : Int) then (if 0 ≤ (wrap64 (rd x19 x21)) then (if (wrap64 (rd x19 x21)) < (tab2.size : Int) then (if (bt tab2 (wrap64 (rd x19 x21))) = 0 then (if x0.length < 140737488355328 then (hertzconv_AppendQuotedPath.l0 k (x0 ++ [rd x19 x21]) x19 x20 (wrap64 (x21 + 1))) else (none)) else (if 0 ≤ ((rd x19 x21) / 16) then (if ((rd x19 x21) / 16) < 16 then (if 0 ≤ (Go.bits .and .u8 (rd x19 x21) 15) then (if (Go.bits .and .u8 (rd x19 x21) 15) < 16 then ((some (([37, bt (⟨#[48, 49, 50, 51, 52, 53, 54, 55, 56, 57, 65, 66, 67, 68, 69, 70]⟩ : ByteArray) ((rd x19 x21) / 16), bt (⟨#[48, 49, 50, 51, 52, 53, 54, 55, 56, 57, 65, 66, 67, 68, 69, 70]⟩ : ByteArray) (Go.bits .and .u8 (rd x19 x21) 15)] : List Int) : List Int)).bind fun y237 => (if x0.length + y237.length < 140737488355328 then (hertzconv_AppendQuotedPath.l0 k (x0 ++ y237) x19 x20 (wrap64 (x21 + 1))) else (none))) else (none)) else (none)) else (none)) else (none))) else (none)) else (none)) else (none)) else (none)) else (some x0)
end
def hertzconv_AppendQuotedPath.f (k : Nat) (l0 : List Int) (l1 : List Int) : Option (List Int) := if (l1.length : Int) = 1 then (if 0 < (l1.length : Int) then (hertzconv_AppendQuotedPath.j0 k l0 l1 ((rd l1 0) == 42)) else (none)) else (hertzconv_AppendQuotedPath.j0 k l0 l1 false)
def hertzconv_AppendQuotedPath.T7 : Bool × List (List Nat × List Nat) := (true, [([], []), ([], []), ([1], [1]), ([2], [2]), ([], []), ([4], [4]), ([5], [5]), ([3, 6], [3, 6]), ([0, 7], [0, 7]), ([8, 8, 0, 1, 2, 3, 4, 5, 6, 7, 8], [0, 8])])
def hertzconv_AppendQuotedPath.B7 : List Nat := [0, 0, 2, 6, 0, 16, 48, 126, 255, 511]
theorem hertzconv_AppendQuotedPath.tab7 : rtab .any (opsOf Try.f32 7) = hertzconv_AppendQuotedPath.T7 := by kernel_rfl
theorem hertzconv_AppendQuotedPath.bits7 : waitsOk hertzconv_AppendQuotedPath.T7.2 hertzconv_AppendQuotedPath.B7 = true := by kernel_rfl
set_option maxHeartbeats 8000000 in
set_option maxRecDepth 100000 in
theorem hertzconv_AppendQuotedPath.calls (k : Nat) (P0_ : Nat → Prop) (u9000_ : Value) (l0 : List Int) (A1 : Option Addr) (c1 : Nat) (l1 : List Int) (r : List Int) (w0 w : World) (hB : Below w0.heap.size w0 w) (ho0 : Kd.R (Kd.int .u8) 5 w w0.heap.size P0_ u9000_ l0) (hr1 : ∀ W_, Kept w W_ (fun k_ => P0_ k_) → Kd.C (Kd.int .u8) W_ A1 l1.length l1) (hc1 : l1.length ≤ c1) (h : hertzconv_AppendQuotedPath.f k l0 l1 = some r) :
    Calls Try.prog 32 #[u9000_, .slice A1 l1.length c1] w fun e w' => ∃ v0_ : Value, e = .returned (v0_) ∧ Kd.R (Kd.int .u8) 5 w' w0.heap.size (fun k_ => (P0_ k_ ∨ w.heap.size ≤ k_)) v0_ r ∧ Below w0.heap.size w0 w' ∧ Kept w w' (fun k_ => P0_ k_) := by
  have HO0 := Aside0.mk (show Kd.R (Kd.int .u8) 5 w w0.heap.size (fun k_ => (P0_ k_ ∨ w.heap.size ≤ k_)) u9000_ l0 from Kd.R_mono ho0 (fun k_ hk => (.inl hk)))
  have HR1 := Aside0.mk hr1
  have HC1 := Aside0.mk hc1
  clear hr1 hc1
  have HK := Aside0.mk (Kept.refl w (fun k_ => P0_ k_))
  have HW0 := Aside0.mk hB.size
  have HB := Aside0.mk hB
  clear hB
  have H : (if (l1.length : Int) = 1 then (if 0 < (l1.length : Int) then (hertzconv_AppendQuotedPath.j0 k l0 l1 ((rd l1 0) == 42)) else (none)) else (hertzconv_AppendQuotedPath.j0 k l0 l1 false)) = some r := h
  clear h
  have HC3 := Aside0.mk H
  clear H
  go_enter Try.func32, Try.ntmps32
  go_upto_region 1 with (fail)
  go_cut [15] (fun v15 wc => ∃ (kq : Nat) (x15_2 : Bool), v15 = .bool x15_2 ∧ Aside0 (hertzconv_AppendQuotedPath.j0 kq l0 l1 x15_2 = some r) ∧ Aside0 (kq ≤ k) ∧ Aside0 (Kd.R (Kd.int .u8) 5 wc w0.heap.size (fun k_ => (P0_ k_ ∨ w.heap.size ≤ k_)) u9000_ l0) ∧ Aside0 (Kept w wc (fun k_ => P0_ k_)) ∧ Aside0 (Below w0.heap.size w0 wc))
  case first =>
    have H := HC3.out
    clear HC3
    by_cases c4 : (l1.length : Int) = 1
    · rw [if_pos c4] at H
      have c4b0 : ((l1.length : Int) == 1) = true := beq_iff_eq.mpr c4
      have c4b1 : ((l1.length : Int) != 1) = false := bne_eq_false_iff_eq.mpr c4
      clear c4
      (first | rw [c4b0] | (simp only [i64_w, i32_w]; rw [c4b0]) | (rw [Go.Proofs.YtbkeakeldegkeaaX.isEmpty_eq]; rw [c4b0]) | skip)
      by_cases c5 : 0 < (l1.length : Int)
      · rw [if_pos c5] at H
        have c5b0 : decide (0 < (l1.length : Int)) = true := decide_eq_true c5
        have c5b1 : decide (0 < l1.length) = true := decide_eq_true (by omega)
        clear c5
        have H' := Aside0.mk H
        clear H
        have p229 : 0 ≤ (0 : Int) := (by omega)
        have q229 : 0 < (l1.length : Int) := of_decide_eq_true (by first | (with_reducible assumption) | assumption)
        obtain ⟨ad229, e229, hx229_0⟩ := Kd.at_int (Kd.C_kept_now HR1.out HK.out) 0 p229 q229
        cases e229
        have qi229 : (0 < l1.length) = True := eq_true (by omega)
        (try rw [show ((0 : Int)).toNat = 0 from rfl] at hx229_0)
        (try rw [Addr.add_zero'] at hx229_0)
        replace p229 := eq_true p229
        replace q229 := eq_true q229
        go_wp2
        go_meet
        case rel => exact ⟨_, (((rd l1 0) == 42)), (by first | rfl | (simp; done) | (simp [*]; done) | (simp [Go.Proofs.YtbkeakeldegkeaaX.isEmpty_ne]; done)), H', ⟨by first | omega | exact Nat.le_refl _⟩, ⟨by (with_reducible repeat (first | apply Kd.R_alloc | apply Kd.R_drewN | apply Kd.R_drew)); exact HO0.out⟩, ⟨by repeat (first | (with_reducible first | exact HK.out | apply Kept.alloc | apply Kept.drewN | apply Kept.drew) | exact HK.out)⟩, ⟨by repeat (first | (with_reducible first | exact HB.out | apply below_alloc | apply pw_below_drewN | apply below_drew1) | exact HB.out)⟩⟩
      · rw [if_neg c5] at H
        exact absurd H (by simp)
    · rw [if_neg c4] at H
      have c4b0 : ((l1.length : Int) == 1) = false := beq_eq_false_iff_ne.mpr c4
      have c4b1 : ((l1.length : Int) != 1) = true := bne_iff_ne.mpr c4
      (first | rw [c4b0] | (simp only [i64_w, i32_w]; rw [c4b0]) | (rw [Go.Proofs.YtbkeakeldegkeaaX.isEmpty_eq]; rw [c4b0]) | skip)
      have H' := Aside0.mk H
      clear H
      go_wp2
      go_meet
      case rel => exact ⟨_, (false), (by first | rfl | (simp; done) | (simp [*]; done) | (simp [Go.Proofs.YtbkeakeldegkeaaX.isEmpty_ne]; done)), H', ⟨by first | omega | exact Nat.le_refl _⟩, ⟨by (with_reducible repeat (first | apply Kd.R_alloc | apply Kd.R_drewN | apply Kd.R_drew)); exact HO0.out⟩, ⟨by repeat (first | (with_reducible first | exact HK.out | apply Kept.alloc | apply Kept.drewN | apply Kept.drew) | exact HK.out)⟩, ⟨by repeat (first | (with_reducible first | exact HB.out | apply below_alloc | apply pw_below_drewN | apply below_drew1) | exact HB.out)⟩⟩
  case rest =>
    clear HC3
    try clear c1
    try clear p2
    try clear q2
    try clear hx2
    try clear qi2
    try clear c3
    try clear c4
    try clear c4b0
    try clear c4b1
    try clear c5
    try clear c5b0
    try clear c5b1
    try clear hx229_0
    try clear p229
    try clear q229
    obtain ⟨kq, x15_2, rfl, HA, HJ2, HO_0, HK, HB⟩ := hcut
    cases kq with
    | zero => exact absurd HA.out (by simp [hertzconv_AppendQuotedPath.j0])
    | succ kj2 =>
      have H := HA.out
      clear HA
      simp only [hertzconv_AppendQuotedPath.j0] at H
      by_cases c6 : x15_2 = true
      · subst c6
        have H1 : (if l0.length < 140737488355328 then (some (l0 ++ [42])) else (none)) = some r := by rw [if_pos rfl] at H; exact H
        clear H
        have H := H1
        clear H1
        by_cases c7 : l0.length < 140737488355328
        · rw [if_pos c7] at H
          have LMc7 := Aside0.mk c7
          clear c7
          obtain ⟨y230, hy230⟩ : ∃ y_ : List Int, y_ = (l0 ++ [42]) := ⟨_, rfl⟩
          replace H : (some y230) = some r := by first | (rw [hy230]; with_reducible exact H) | (have H2_ := (Option.bind_some _ _).symm.trans H; rw [hy230]; with_reducible exact H2_) | (have H2_ := (Option.bind_some _ _).symm.trans H; with_reducible exact H2_) | with_reducible exact H | (rw [hy230]; exact H) | exact H
          have Ny230 := Aside0.mk hy230
          clear hy230
          obtain rfl := Option.some.inj H
          go_wp2_with (first | ((with_reducible refine gate_builtin (b := .append) (xs := #[.tmp 16, .tmp 17]) rfl ?_); at_builtin; refine Kd.R_append (Kd.int .u8) (w0 := w0) w0.heap.size rfl (.tmp 16) (.tmp 17) 49 5 (.int .u8 0) 1 rfl Try.underlying49 info5 rfl (by decide) (by omega) u9000_ l0 42 [.int .u8 42] (fun k_ => (P0_ k_ ∨ w.heap.size ≤ k_)) (fun _ => False) rfl rfl ?aP (fun _ hk => hk.elim) ?aF ?aO ?aB ?aS ?aL ?_; (case aP => exact rfl); (case aB => exact (by repeat (first | (with_reducible first | exact HB.out | apply below_alloc | apply pw_below_drewN | apply below_drew1) | exact HB.out))); (case aF => exact (fun k_ hk => (.inr (Nat.le_trans (by first | exact HK.out.1 | exact (show Kept w _ (fun k_ => P0_ k_) from by repeat (first | (with_reducible first | exact HK.out | apply Kept.alloc | apply Kept.drewN | apply Kept.drew) | exact HK.out)).1) hk)))); (case aO => exact (by (with_reducible repeat (first | apply Kd.R_alloc | apply Kd.R_drewN | apply Kd.R_drew)); exact HO_0.out)); (case aS => exact (below_size (by repeat (first | (with_reducible first | exact HB.out | apply below_alloc | apply pw_below_drewN | apply below_drew1) | exact HB.out)))); (case aL => have := LMc7.out; omega); intro v231 w8 ho hb hg hat; rw [← Ny230.out] at ho; have n0_ := Aside0.mk (hb); have n1_ := Aside0.mk (Kept.of_grown (S := (fun k_ => P0_ k_)) hg (by repeat (first | (with_reducible first | exact HK.out | apply Kept.alloc | apply Kept.drewN | apply Kept.drew) | exact HK.out)) (fun k_ e_ => (HO_0.out.1 k_ e_))); have n2_ := Aside0.mk (ho); clear HB; clear HK; clear HO_0; have HB := n0_; have HK := n1_; have HO232 := n2_; clear n0_ n1_ n2_; clear ho hb hg hat))
          go_ret
          exact ⟨_, by first | rfl | (simp [errW_none, errW_some] <;> rfl) | (simp [*, errW_none, errW_some] <;> rfl), by (with_reducible repeat (first | apply Kd.R_alloc | apply Kd.R_drewN | apply Kd.R_drew)); exact HO232.out, by repeat (first | (with_reducible first | exact HB.out | apply below_alloc | apply pw_below_drewN | apply below_drew1) | exact HB.out), by repeat (first | (with_reducible first | exact HK.out | apply Kept.alloc | apply Kept.drewN | apply Kept.drew) | exact HK.out)⟩
        · rw [if_neg c7] at H
          exact absurd H (by simp)
      · replace c6 := Bool.eq_false_iff.mpr c6
        subst c6
        have H1 : (hertzconv_AppendQuotedPath.l0 kj2 l0 l1 (l1.length : Int) 0) = some r := by rw [if_neg (show ¬ (false = true) by decide)] at H; exact H
        clear H
        have H := H1
        clear H1
        have H' := Aside0.mk H
        clear H
        go_wp2
        go_loopg [0, 21] kj2 (fun kq v0 v21 w' => ∃ (x0_2 : List Int) (x21_2 : Int), v21 = .int .i64 x21_2 ∧ Aside0 (hertzconv_AppendQuotedPath.l0 kq x0_2 l1 (l1.length : Int) x21_2 = some r) ∧ Aside0 (kq ≤ kj2) ∧ Aside0 (Kd.R (Kd.int .u8) 5 w' w0.heap.size (fun k_ => (P0_ k_ ∨ w.heap.size ≤ k_)) v0 x0_2) ∧ Aside0 (Kept w w' (fun k_ => P0_ k_)) ∧ Aside0 (Below w0.heap.size w0 w'))
        case atStart => exact ⟨(l0), (0), (by first | rfl | (simp; done) | (simp [*]; done) | (simp [Go.Proofs.YtbkeakeldegkeaaX.isEmpty_ne]; done)), H', ⟨Nat.le_refl _⟩, ⟨by (with_reducible repeat (first | apply Kd.R_alloc | apply Kd.R_drewN | apply Kd.R_drew)); exact HO_0.out⟩, ⟨by repeat (first | (with_reducible first | exact HK.out | apply Kept.alloc | apply Kept.drewN | apply Kept.drew) | exact HK.out)⟩, ⟨by repeat (first | (with_reducible first | exact HB.out | apply below_alloc | apply pw_below_drewN | apply below_drew1) | exact HB.out)⟩⟩
        case round =>
          clear H'
          try clear c1
          try clear p2
          try clear q2
          try clear hx2
          try clear qi2
          try clear c3
          try clear c4
          try clear c4b0
          try clear c4b1
          try clear c5
          try clear c5b0
          try clear c5b1
          try clear c6
          try clear c7
          try clear hx229_0
          try clear p2
          try clear p229
          try clear q2
          try clear q229
          obtain ⟨x0_2, x21_2, rfl, HA, HK2, HO_0, HK, HB⟩ := hrel
          cases gk with
          | zero => exact absurd HA.out (by simp [hertzconv_AppendQuotedPath.l0])
          | succ k2 =>
            have H := HA.out
            clear HA
            simp only [hertzconv_AppendQuotedPath.l0] at H
            by_cases c9 : x21_2 < (l1.length : Int)
            · rw [if_pos c9] at H
              have c9b0 : decide (x21_2 < (l1.length : Int)) = true := decide_eq_true c9
              clear c9
              by_cases c10 : 0 ≤ x21_2
              · rw [if_pos c10] at H
                have c10b0 : decide (0 ≤ x21_2) = true := decide_eq_true c10
                clear c10
                by_cases c11 : x21_2 < (l1.length : Int)
                · rw [if_pos c11] at H
                  have c11b0 : decide (x21_2 < (l1.length : Int)) = true := decide_eq_true c11
                  clear c11
                  obtain ⟨ji12, hji12⟩ : ∃ j_ : Int, (wrap64 (rd l1 x21_2)) = j_ := ⟨_, rfl⟩
                  replace H : (if 0 ≤ (ji12) then (if (ji12) < (tab2.size : Int) then (if (bt tab2 (ji12)) = 0 then (if x0_2.length < 140737488355328 then (hertzconv_AppendQuotedPath.l0 k2 (x0_2 ++ [rd l1 x21_2]) l1 (l1.length : Int) (wrap64 (x21_2 + 1))) else (none)) else (if 0 ≤ ((rd l1 x21_2) / 16) then (if ((rd l1 x21_2) / 16) < 16 then (if 0 ≤ (Go.bits .and .u8 (rd l1 x21_2) 15) then (if (Go.bits .and .u8 (rd l1 x21_2) 15) < 16 then ((some (([37, bt (⟨#[48, 49, 50, 51, 52, 53, 54, 55, 56, 57, 65, 66, 67, 68, 69, 70]⟩ : ByteArray) ((rd l1 x21_2) / 16), bt (⟨#[48, 49, 50, 51, 52, 53, 54, 55, 56, 57, 65, 66, 67, 68, 69, 70]⟩ : ByteArray) (Go.bits .and .u8 (rd l1 x21_2) 15)] : List Int) : List Int)).bind fun y237 => (if x0_2.length + y237.length < 140737488355328 then (hertzconv_AppendQuotedPath.l0 k2 (x0_2 ++ y237) l1 (l1.length : Int) (wrap64 (x21_2 + 1))) else (none))) else (none)) else (none)) else (none)) else (none))) else (none)) else (none)) = some r := by first | (rw [hji12] at H; exact H) | (simp only [hji12] at H ⊢; exact H)
                  have hji12w : (IntKind.i64.wrap (rd l1 x21_2)) = ji12 := (i64_w _).trans hji12
                  by_cases c13 : 0 ≤ (ji12)
                  · rw [if_pos c13] at H
                    have c13b0 : decide (0 ≤ (ji12)) = true := decide_eq_true c13
                    clear c13
                    by_cases c14 : (ji12) < (tab2.size : Int)
                    · rw [if_pos c14] at H
                      have c14b0 : decide ((ji12) < (tab2.size : Int)) = true := decide_eq_true c14
                      clear c14
                      by_cases c16 : (bt tab2 (ji12)) = 0
                      · rw [if_pos c16] at H
                        have c16b0 : ((bt tab2 (ji12)) == 0) = true := beq_iff_eq.mpr c16
                        have c16b1 : ((bt tab2 (ji12)) != 0) = false := bne_eq_false_iff_eq.mpr c16
                        clear c16
                        by_cases c17 : x0_2.length < 140737488355328
                        · rw [if_pos c17] at H
                          have LMc17 := Aside0.mk c17
                          clear c17
                          obtain ⟨y234, hy234⟩ : ∃ y_ : List Int, y_ = (x0_2 ++ [rd l1 x21_2]) := ⟨_, rfl⟩
                          replace H : (hertzconv_AppendQuotedPath.l0 k2 y234 l1 (l1.length : Int) (wrap64 (x21_2 + 1))) = some r := by first | (rw [hy234]; with_reducible exact H) | (have H2_ := (Option.bind_some _ _).symm.trans H; rw [hy234]; with_reducible exact H2_) | (have H2_ := (Option.bind_some _ _).symm.trans H; with_reducible exact H2_) | with_reducible exact H | (rw [hy234]; exact H) | exact H
                          have Ny234 := Aside0.mk hy234
                          clear hy234
                          have H' := Aside0.mk H
                          clear H
                          have p233 : 0 ≤ (x21_2 : Int) := of_decide_eq_true (by first | (with_reducible assumption) | assumption)
                          have q233 : x21_2 < (l1.length : Int) := of_decide_eq_true (by first | (with_reducible assumption) | assumption)
                          obtain ⟨ad233, e233, hx233_0⟩ := Kd.at_int (Kd.C_kept_now HR1.out HK.out) x21_2 p233 q233
                          cases e233
                          replace p233 := eq_true p233
                          replace q233 := eq_true q233
                          go_wp2_with (first | ((with_reducible refine gate_dst (N := 27) rfl ?_); refine Go.Proofs.YtbkeakeldegkeaaX.index_tab (some 27) rfl rfl 9 _ _ rfl Try.underlying9 tab2 (by kernel_rfl) .i64 (ji12) rfl (by first | exact of_decide_eq_true (by first | (with_reducible assumption) | assumption) | exact (bt_range _ _).1 | omega) (of_decide_eq_true (by first | (with_reducible assumption) | assumption)) ?_) | ((with_reducible refine gate_builtin (b := .append) (xs := #[.tmp 38, .tmp 40]) rfl ?_); at_builtin; refine Kd.R_append (Kd.int .u8) (w0 := w0) w0.heap.size rfl (.tmp 38) (.tmp 40) 49 5 (.int .u8 0) 1 rfl Try.underlying49 info5 rfl (by decide) (by omega) u0 x0_2 (rd l1 x21_2) [.int .u8 (rd l1 x21_2)] (fun k_ => (P0_ k_ ∨ w.heap.size ≤ k_)) (fun _ => False) rfl rfl ?aP (fun _ hk => hk.elim) ?aF ?aO ?aB ?aS ?aL ?_; (case aP => exact rfl); (case aB => exact (by repeat (first | (with_reducible first | exact HB.out | apply below_alloc | apply pw_below_drewN | apply below_drew1) | exact HB.out))); (case aF => exact (fun k_ hk => (.inr (Nat.le_trans (by first | exact HK.out.1 | exact (show Kept w _ (fun k_ => P0_ k_) from by repeat (first | (with_reducible first | exact HK.out | apply Kept.alloc | apply Kept.drewN | apply Kept.drew) | exact HK.out)).1) hk)))); (case aO => exact (by (with_reducible repeat (first | apply Kd.R_alloc | apply Kd.R_drewN | apply Kd.R_drew)); exact HO_0.out)); (case aS => exact (below_size (by repeat (first | (with_reducible first | exact HB.out | apply below_alloc | apply pw_below_drewN | apply below_drew1) | exact HB.out)))); (case aL => have := LMc17.out; omega); intro v235 w18 ho hb hg hat; rw [← Ny234.out] at ho; have n0_ := Aside0.mk (hb); have n1_ := Aside0.mk (Kept.of_grown (S := (fun k_ => P0_ k_)) hg (by repeat (first | (with_reducible first | exact HK.out | apply Kept.alloc | apply Kept.drewN | apply Kept.drew) | exact HK.out)) (fun k_ e_ => (HO_0.out.1 k_ e_))); have n2_ := Aside0.mk (ho); clear HB; clear HK; clear HO_0; have HB := n0_; have HK := n1_; have HO236 := n2_; clear n0_ n1_ n2_; clear ho hb hg hat))
                          go_roundg k2
                          case measure => have := HJ2.out; have := HK2.out; omega
                          case rel => exact ⟨(y234), (wrap64 (x21_2 + 1)), (by first | rfl | (simp; done) | (simp [*]; done) | (simp [Go.Proofs.YtbkeakeldegkeaaX.isEmpty_ne]; done)), H', ⟨by have := HJ2.out; have := HK2.out; omega⟩, ⟨by (with_reducible repeat (first | apply Kd.R_alloc | apply Kd.R_drewN | apply Kd.R_drew)); exact HO236.out⟩, ⟨by repeat (first | (with_reducible first | exact HK.out | apply Kept.alloc | apply Kept.drewN | apply Kept.drew) | exact HK.out)⟩, ⟨by repeat (first | (with_reducible first | exact HB.out | apply below_alloc | apply pw_below_drewN | apply below_drew1) | exact HB.out)⟩⟩
                        · rw [if_neg c17] at H
                          exact absurd H (by simp)
                      · rw [if_neg c16] at H
                        have c16b0 : ((bt tab2 (ji12)) == 0) = false := beq_eq_false_iff_ne.mpr c16
                        have c16b1 : ((bt tab2 (ji12)) != 0) = true := bne_iff_ne.mpr c16
                        obtain ⟨ji19, hji19⟩ : ∃ j_ : Int, ((rd l1 x21_2) / 16) = j_ := ⟨_, rfl⟩
                        replace H : (if 0 ≤ (ji19) then (if (ji19) < 16 then (if 0 ≤ (Go.bits .and .u8 (rd l1 x21_2) 15) then (if (Go.bits .and .u8 (rd l1 x21_2) 15) < 16 then ((some (([37, bt (⟨#[48, 49, 50, 51, 52, 53, 54, 55, 56, 57, 65, 66, 67, 68, 69, 70]⟩ : ByteArray) (ji19), bt (⟨#[48, 49, 50, 51, 52, 53, 54, 55, 56, 57, 65, 66, 67, 68, 69, 70]⟩ : ByteArray) (Go.bits .and .u8 (rd l1 x21_2) 15)] : List Int) : List Int)).bind fun y237 => (if x0_2.length + y237.length < 140737488355328 then (hertzconv_AppendQuotedPath.l0 k2 (x0_2 ++ y237) l1 (l1.length : Int) (wrap64 (x21_2 + 1))) else (none))) else (none)) else (none)) else (none)) else (none)) = some r := by first | (rw [hji19] at H; exact H) | (simp only [hji19] at H ⊢; exact H)
                        by_cases c20 : 0 ≤ (ji19)
                        · rw [if_pos c20] at H
                          have c20b0 : decide (0 ≤ (ji19)) = true := decide_eq_true c20
                          clear c20
                          by_cases c21 : (ji19) < 16
                          · rw [if_pos c21] at H
                            have c21b0 : decide ((ji19) < 16) = true := decide_eq_true c21
                            clear c21
                            by_cases c23 : 0 ≤ (Go.bits .and .u8 (rd l1 x21_2) 15)
                            · rw [if_pos c23] at H
                              have c23b0 : decide (0 ≤ (Go.bits .and .u8 (rd l1 x21_2) 15)) = true := decide_eq_true c23
                              clear c23
                              by_cases c24 : (Go.bits .and .u8 (rd l1 x21_2) 15) < 16
                              · rw [if_pos c24] at H
                                have c24b0 : decide ((Go.bits .and .u8 (rd l1 x21_2) 15) < 16) = true := decide_eq_true c24
                                clear c24
                                obtain ⟨y237, hy237⟩ : ∃ y_ : List Int, y_ = (([37, bt (⟨#[48, 49, 50, 51, 52, 53, 54, 55, 56, 57, 65, 66, 67, 68, 69, 70]⟩ : ByteArray) (ji19), bt (⟨#[48, 49, 50, 51, 52, 53, 54, 55, 56, 57, 65, 66, 67, 68, 69, 70]⟩ : ByteArray) (Go.bits .and .u8 (rd l1 x21_2) 15)] : List Int)) := ⟨_, rfl⟩
                                replace H : (if x0_2.length + y237.length < 140737488355328 then (hertzconv_AppendQuotedPath.l0 k2 (x0_2 ++ y237) l1 (l1.length : Int) (wrap64 (x21_2 + 1))) else (none)) = some r := by first | (rw [hy237]; with_reducible exact H) | (have H2_ := (Option.bind_some _ _).symm.trans H; rw [hy237]; with_reducible exact H2_) | (have H2_ := (Option.bind_some _ _).symm.trans H; with_reducible exact H2_) | with_reducible exact H | (rw [hy237]; exact H) | exact H
                                have Ny237 := Aside0.mk hy237
                                clear hy237
                                by_cases c26 : x0_2.length + y237.length < 140737488355328
                                · rw [if_pos c26] at H
                                  have LMc26 := Aside0.mk c26
                                  clear c26
                                  obtain ⟨y240, hy240⟩ : ∃ y_ : List Int, y_ = (x0_2 ++ y237) := ⟨_, rfl⟩
                                  replace H : (hertzconv_AppendQuotedPath.l0 k2 y240 l1 (l1.length : Int) (wrap64 (x21_2 + 1))) = some r := by first | (rw [hy240]; with_reducible exact H) | (have H2_ := (Option.bind_some _ _).symm.trans H; rw [hy240]; with_reducible exact H2_) | (have H2_ := (Option.bind_some _ _).symm.trans H; with_reducible exact H2_) | with_reducible exact H | (rw [hy240]; exact H) | exact H
                                  have Ny240 := Aside0.mk hy240
                                  clear hy240
                                  have H' := Aside0.mk H
                                  clear H
                                  have p233 : 0 ≤ (x21_2 : Int) := of_decide_eq_true (by first | (with_reducible assumption) | assumption)
                                  have q233 : x21_2 < (l1.length : Int) := of_decide_eq_true (by first | (with_reducible assumption) | assumption)
                                  obtain ⟨ad233, e233, hx233_0⟩ := Kd.at_int (Kd.C_kept_now HR1.out HK.out) x21_2 p233 q233
                                  cases e233
                                  replace p233 := eq_true p233
                                  replace q233 := eq_true q233
                                  try go_wp2_with (first | ((with_reducible refine gate_dst (N := 27) rfl ?_); refine Go.Proofs.YtbkeakeldegkeaaX.index_tab (some 27) rfl rfl 9 _ _ rfl Try.underlying9 tab2 (by kernel_rfl) .i64 (ji12) rfl (by first | exact of_decide_eq_true (by first | (with_reducible assumption) | assumption) | exact (bt_range _ _).1 | omega) (of_decide_eq_true (by first | (with_reducible assumption) | assumption)) ?_))
                                  have n0_ := Aside0.mk (Kd.R_drew HO_0.out)
                                  have n1_ := Aside0.mk (Kept.drew HK.out)
                                  have n2_ := Aside0.mk (below_drew1 HB.out)
                                  clear HO_0
                                  clear HK
                                  clear HB
                                  have HO_0 := n0_
                                  have HK := n1_
                                  have HB := n2_
                                  clear n0_ n1_ n2_
                                  have p22 : 0 ≤ ((ji19) : Int) := of_decide_eq_true (by first | (with_reducible assumption) | assumption)
                                  have q22 : (ji19) < (16 : Int) := of_decide_eq_true (by first | (with_reducible assumption) | assumption)
                                  have hx22 := bt_at (⟨#[48, 49, 50, 51, 52, 53, 54, 55, 56, 57, 65, 66, 67, 68, 69, 70]⟩ : ByteArray) (ji19)
                                  replace p22 := eq_true p22
                                  replace q22 := eq_true q22
                                  have p25 : 0 ≤ ((Go.bits .and .u8 (rd l1 x21_2) 15) : Int) := of_decide_eq_true (by first | (with_reducible assumption) | assumption)
                                  have q25 : (Go.bits .and .u8 (rd l1 x21_2) 15) < (16 : Int) := of_decide_eq_true (by first | (with_reducible assumption) | assumption)
                                  have hx25 := bt_at (⟨#[48, 49, 50, 51, 52, 53, 54, 55, 56, 57, 65, 66, 67, 68, 69, 70]⟩ : ByteArray) (Go.bits .and .u8 (rd l1 x21_2) 15)
                                  replace p25 := eq_true p25
                                  replace q25 := eq_true q25
                                  refine start_ (n := 10) (S := fun w' => True) (ds := []) #[false, false, false, false, false, false, false, false, false, false] (by kernel_rfl) rfl rfl trivial (fun hHeld => ?_); refine with_tabW hertzconv_AppendQuotedPath.tab7 hertzconv_AppendQuotedPath.bits7 (fun HT_ HW_ => ?_)
                                  generalize wr.drew = w27 at HO_0 HK HB hHeld ⊢
                                  refine pure_ (i := 0) (N := some 29) (v := ?_) (a' := ?_) #[true, false, false, false, false, false, false, false, false, false] rfl rfl (any_of HT_.out (by kernel_rfl)) (fun _ _ _ h => h) (Or.inl ⟨by rfl, ?_⟩) ?_ ?_
                                  rotate_left
                                  · intro w'
                                    go_simp
                                    with_reducible rfl
                                  rotate_left
                                  · simp only [Act.put, List.setIfInBounds_toArray, List.set_cons_zero, List.set_cons_succ, i64_w, i32_w]
                                    rfl
                                  refine pure_ (i := 1) (N := some 30) (v := ?_) (a' := ?_) #[true, true, false, false, false, false, false, false, false, false] rfl rfl (any_of HT_.out (by kernel_rfl)) (fun _ _ _ h => h) (Or.inl ⟨by rfl, ?_⟩) ?_ ?_
                                  rotate_left
                                  · intro w'
                                    go_simp
                                    with_reducible rfl
                                  rotate_left
                                  · simp only [Act.put, List.setIfInBounds_toArray, List.set_cons_zero, List.set_cons_succ, i64_w, i32_w]
                                    rfl
                                  refine pure_ (i := 2) (N := some 31) (v := ?_) (a' := ?_) #[true, true, true, false, false, false, false, false, false, false] rfl rfl (any_of HT_.out (by kernel_rfl)) (fun _ _ _ h => h) (Or.inl ⟨by rfl, ?_⟩) ?_ ?_
                                  rotate_left
                                  · intro w'
                                    go_simp
                                    with_reducible rfl
                                  rotate_left
                                  · simp only [Act.put, List.setIfInBounds_toArray, List.set_cons_zero, List.set_cons_succ, i64_w, i32_w]
                                    rfl
                                  refine pure_ (i := 4) (N := some 33) (v := ?_) (a' := ?_) #[true, true, true, false, true, false, false, false, false, false] rfl rfl (any_of HT_.out (by kernel_rfl)) (fun _ _ _ h => h) (Or.inl ⟨by rfl, ?_⟩) ?_ ?_
                                  rotate_left
                                  · intro w'
                                    go_simp
                                    with_reducible rfl
                                  rotate_left
                                  · simp only [Act.put, List.setIfInBounds_toArray, List.set_cons_zero, List.set_cons_succ, i64_w, i32_w]
                                    rfl
                                  refine pure_ (i := 5) (N := some 34) (v := ?_) (a' := ?_) #[true, true, true, false, true, true, false, false, false, false] rfl rfl (any_of HT_.out (by kernel_rfl)) (fun _ _ _ h => h) (Or.inl ⟨by rfl, ?_⟩) ?_ ?_
                                  rotate_left
                                  · intro w'
                                    go_simp
                                    with_reducible rfl
                                  rotate_left
                                  · simp only [Act.put, List.setIfInBounds_toArray, List.set_cons_zero, List.set_cons_succ, i64_w, i32_w]
                                    rfl
                                  refine take_ (i := 3) (N := some 32) (v := ?_) (a' := ?_) #[true, true, true, true, true, true, false, false, false, false] rfl rfl (take_ofW HT_.out HW_.out (by kernel_rfl)) (fun _ _ _ h => h) (Or.inl ⟨by rfl, ?_⟩) hHeld ?_ ?_
                                  rotate_left
                                  · intro w' _
                                    go_simp
                                    with_reducible rfl
                                  rotate_left
                                  · simp only [Act.put, List.setIfInBounds_toArray, List.set_cons_zero, List.set_cons_succ, i64_w, i32_w]
                                    rfl
                                  refine take_ (i := 6) (N := some 35) (v := ?_) (a' := ?_) #[true, true, true, true, true, true, true, false, false, false] rfl rfl (take_ofW HT_.out HW_.out (by kernel_rfl)) (fun _ _ _ h => h) (Or.inl ⟨by rfl, ?_⟩) hHeld ?_ ?_
                                  rotate_left
                                  · intro w' _
                                    go_simp
                                    with_reducible rfl
                                  rotate_left
                                  · simp only [Act.put, List.setIfInBounds_toArray, List.set_cons_zero, List.set_cons_succ, i64_w, i32_w]
                                    rfl
                                  refine one_ (i := 7) (N := some 36) #[true, true, true, true, true, true, true, true, false, false] rfl rfl (one_of HT_.out (by kernel_rfl)) (by decide) (fun K hK => ?_)
                                  refine Kd.R_lit_step (Kd.int .u8) _ 5 ?hg (N := 36) ?hd (xs := ([37, bt (⟨#[48, 49, 50, 51, 52, 53, 54, 55, 56, 57, 65, 66, 67, 68, 69, 70]⟩ : ByteArray) (ji19), bt (⟨#[48, 49, 50, 51, 52, 53, 54, 55, 56, 57, 65, 66, 67, 68, 69, 70]⟩ : ByteArray) (Go.bits .and .u8 (rd l1 x21_2) 15)] : List Int)) (inner := [.int .u8 37, .int .u8 (bt (⟨#[48, 49, 50, 51, 52, 53, 54, 55, 56, 57, 65, 66, 67, 68, 69, 70]⟩ : ByteArray) (ji19)), .int .u8 (bt (⟨#[48, 49, 50, 51, 52, 53, 54, 55, 56, 57, 65, 66, 67, 68, 69, 70]⟩ : ByteArray) (Go.bits .and .u8 (rd l1 x21_2) 15))]) (ok := fun _ => True) (okp := fun _ => True) ?hr ?hp (fun _ hk => hk) trivial (Below.refl _ _) (Nat.le_refl _) (by simp) ?_; (case hd => rfl); (case hg => rfl); (case hr => first | (go_simp; done) | (go_simp; rfl)); (case hp => exact (Reps.one (show Kd.M (Kd.int .u8) _ _ _ 37 [.int .u8 37] from rfl) (Reps.one (show Kd.M (Kd.int .u8) _ _ _ (bt (⟨#[48, 49, 50, 51, 52, 53, 54, 55, 56, 57, 65, 66, 67, 68, 69, 70]⟩ : ByteArray) (ji19)) [.int .u8 (bt (⟨#[48, 49, 50, 51, 52, 53, 54, 55, 56, 57, 65, 66, 67, 68, 69, 70]⟩ : ByteArray) (ji19))] from rfl) (Reps.one (show Kd.M (Kd.int .u8) _ _ _ (bt (⟨#[48, 49, 50, 51, 52, 53, 54, 55, 56, 57, 65, 66, 67, 68, 69, 70]⟩ : ByteArray) (Go.bits .and .u8 (rd l1 x21_2) 15)) [.int .u8 (bt (⟨#[48, 49, 50, 51, 52, 53, 54, 55, 56, 57, 65, 66, 67, 68, 69, 70]⟩ : ByteArray) (Go.bits .and .u8 (rd l1 x21_2) 15))] from rfl) (Reps.none _ _)))))
                                  intro v238 w28 ho29 hb hg_ hnew_
                                  clear hg_ hnew_
                                  (first | rw [← Ny237.out] at ho29 | (simp only [Int.reduceToNat] at ho29; rw [← Ny237.out] at ho29))
                                  have n0_ := Aside0.mk (Kd.R_elder' (by (with_reducible repeat (first | apply Kd.R_alloc | apply Kd.R_drewN | apply Kd.R_drew)); exact HO_0.out) (Kd.R_base ho29) hb)
                                  have n1_ := Aside0.mk (Kd.R_lower (Kd.R_new' (Kd.R_newM (M := fun k_ => (P0_ k_ ∨ w.heap.size ≤ k_)) ho29 (by first | exact HK.out.1 | exact (show Kept w _ (fun k_ => P0_ k_) from by repeat (first | (with_reducible first | exact HK.out | apply Kept.alloc | apply Kept.drewN | apply Kept.drew) | exact HK.out)).1) (fun k_ h_ => .inr h_)) (Kd.R_lt (by (with_reducible repeat (first | apply Kd.R_alloc | apply Kd.R_drewN | apply Kd.R_drew)); exact HO_0.out))) (below_size (by repeat (first | (with_reducible first | exact HB.out | apply below_alloc | apply pw_below_drewN | apply below_drew1) | exact HB.out))))
                                  have n2_ := Aside0.mk (Kept.below (S := (fun k_ => P0_ k_)) (by repeat (first | (with_reducible first | exact HK.out | apply Kept.alloc | apply Kept.drewN | apply Kept.drew) | exact HK.out)) hb)
                                  have n3_ := Aside0.mk (below_step (by repeat (first | (with_reducible first | exact HB.out | apply below_alloc | apply pw_below_drewN | apply below_drew1) | exact HB.out)) hb)
                                  clear HO_0
                                  clear HK
                                  clear HB
                                  have HO_0 := n0_
                                  have HO239 := n1_
                                  have HK := n2_
                                  have HB := n3_
                                  clear n0_ n1_ n2_ n3_
                                  clear hb ho29
                                  obtain ⟨Ao31, co31, eo31⟩ := Kd.R_slice HO239.out
                                  (first | subst eo31 | (injection eo31 with f1_ f2_ f3_; have f4_ := f1_.symm; have f5_ := f3_.symm; clear f1_ f2_ f3_; subst f4_; subst f5_))
                                  refine hK.out _ _ trivial (fun hHeld => ?_)
                                  clear hK K
                                  refine norm_ (a' := ?_) ?_ ?_
                                  rotate_left
                                  · show Act.put _ (some 36) _ = _
                                    simp only [Act.put, List.setIfInBounds_toArray, List.set_cons_zero, List.set_cons_succ, i64_w, i32_w]
                                    rfl
                                  refine one_ (i := 8) (N := some 37) #[true, true, true, true, true, true, true, true, true, false] rfl rfl (one_of HT_.out (by kernel_rfl)) (by decide) (fun K hK => ?_)
                                  refine Kd.R_append_rows_step (Kd.int .u8) (w0 := w0) w0.heap.size (by rfl) (.tmp 29) (.tmp 36) 49 5 (.int .u8 0) 1 rfl Try.underlying49 info5 rfl (by decide) (by omega) u0 x0_2 y237 _ _ _ (fun k_ => (P0_ k_ ∨ w.heap.size ≤ k_) ∧ some k_ ≠ (.slice Ao31 y237.length co31 : Value).ownBlock) (fun _ => False) rfl rfl ?aO ?aR (fun _ _ h => h) (fun _ h => h.elim) ?aF ?aB ?aS ?aL ?_
                                  (case aR => repeat (first | exact (Kd.R_reads' HO239.out).2.2 | (with_reducible refine Kd.C_alloc ?_ _) | (with_reducible refine Kd.C_drewN ?_ _) | (with_reducible refine Kd.C_drew ?_)))
                                  (case aB => exact (by repeat (first | (with_reducible first | exact HB.out | apply below_alloc | apply pw_below_drewN | apply below_drew1) | exact HB.out)))
                                  (case aF => exact (fun k_ hk => ⟨(.inr (Nat.le_trans (by first | exact HK.out.1 | exact (show Kept w _ (fun k_ => P0_ k_) from by repeat (first | (with_reducible first | exact HK.out | apply Kept.alloc | apply Kept.drewN | apply Kept.drew) | exact HK.out)).1) hk)), Kd.fresh' (Kd.R_lt (by (with_reducible repeat (first | apply Kd.R_alloc | apply Kd.R_drewN | apply Kd.R_drew)); exact HO239.out)) k_ hk⟩))
                                  (case aO => exact (by (with_reducible repeat (first | apply Kd.R_alloc | apply Kd.R_drewN | apply Kd.R_drew)); exact HO_0.out))
                                  (case aS => exact (below_size (by repeat (first | (with_reducible first | exact HB.out | apply below_alloc | apply pw_below_drewN | apply below_drew1) | exact HB.out))))
                                  (case aL => have := LMc26.out; omega)
                                  intro v241 w30 ho hb hg hat
                                  rw [← Ny240.out] at ho
                                  have n0_ := Aside0.mk (Kd.R_after (ok := (fun k_ => (P0_ k_ ∨ w.heap.size ≤ k_))) (by (with_reducible repeat (first | apply Kd.R_alloc | apply Kd.R_drewN | apply Kd.R_drew)); exact Kd.R_mono HO239.out (fun _ hk => ⟨hk.1.1, hk.2⟩)) hg hat)
                                  have n1_ := Aside0.mk (hb)
                                  have n2_ := Aside0.mk (Kept.of_grown (S := (fun k_ => P0_ k_)) hg (by repeat (first | (with_reducible first | exact HK.out | apply Kept.alloc | apply Kept.drewN | apply Kept.drew) | exact HK.out)) (fun k_ e_ => (HO_0.out.1 k_ e_).1))
                                  have n3_ := Aside0.mk (ho)
                                  clear HO239
                                  clear HB
                                  clear HK
                                  clear HO_0
                                  have HO239 := n0_
                                  have HB := n1_
                                  have HK := n2_
                                  have HO242 := n3_
                                  clear n0_ n1_ n2_ n3_
                                  clear ho hb hg hat
                                  refine hK.out _ _ trivial (fun hHeld => ?_)
                                  clear hK K
                                  refine norm_ (a' := ?_) ?_ ?_
                                  rotate_left
                                  · show Act.put _ (some 37) _ = _
                                    simp only [Act.put, List.setIfInBounds_toArray, List.set_cons_zero, List.set_cons_succ, i64_w, i32_w]
                                    rfl
                                  refine pure_ (i := 9) (N := some 0) (v := ?_) (a' := ?_) #[true, true, true, true, true, true, true, true, true, true] rfl rfl (any_of HT_.out (by kernel_rfl)) (fun _ _ _ h => h) (Or.inl ⟨by rfl, ?_⟩) ?_ ?_
                                  rotate_left
                                  · intro w'
                                    go_simp
                                    with_reducible rfl
                                  rotate_left
                                  · simp only [Act.put, List.setIfInBounds_toArray, List.set_cons_zero, List.set_cons_succ, i64_w, i32_w]
                                    rfl
                                  refine done_ (done_of HT_.out (by kernel_rfl)) ?_
                                  try go_wp2
                                  go_roundg k2
                                  case measure => have := HJ2.out; have := HK2.out; omega
                                  case rel => exact ⟨(y240), (wrap64 (x21_2 + 1)), (by first | rfl | (simp; done) | (simp [*]; done) | (simp [Go.Proofs.YtbkeakeldegkeaaX.isEmpty_ne]; done)), H', ⟨by have := HJ2.out; have := HK2.out; omega⟩, ⟨by (with_reducible repeat (first | apply Kd.R_alloc | apply Kd.R_drewN | apply Kd.R_drew)); exact Kd.R_mono HO242.out (fun _ hk => hk.1)⟩, ⟨by repeat (first | (with_reducible first | exact HK.out | apply Kept.alloc | apply Kept.drewN | apply Kept.drew) | exact HK.out)⟩, ⟨by repeat (first | (with_reducible first | exact HB.out | apply below_alloc | apply pw_below_drewN | apply below_drew1) | exact HB.out)⟩⟩
                                · rw [if_neg c26] at H
                                  exact absurd H (by simp)
                              · rw [if_neg c24] at H
                                exact absurd H (by simp)
                            · rw [if_neg c23] at H
                              exact absurd H (by simp)
                          · rw [if_neg c21] at H
                            exact absurd H (by simp)
                        · rw [if_neg c20] at H
                          exact absurd H (by simp)
                    · rw [if_neg c14] at H
                      exact absurd H (by simp)
                  · rw [if_neg c13] at H
                    exact absurd H (by simp)
                · rw [if_neg c11] at H
                  exact absurd H (by simp)
              · rw [if_neg c10] at H
                exact absurd H (by simp)
            · rw [if_neg c9] at H
              have c9b0 : decide (x21_2 < (l1.length : Int)) = false := decide_eq_false c9
              clear c9
              obtain rfl := Option.some.inj H
              go_wp2
              go_ret
              exact ⟨_, by first | rfl | (simp [errW_none, errW_some] <;> rfl) | (simp [*, errW_none, errW_some] <;> rfl), by (with_reducible repeat (first | apply Kd.R_alloc | apply Kd.R_drewN | apply Kd.R_drew)); exact HO_0.out, by repeat (first | (with_reducible first | exact HB.out | apply below_alloc | apply pw_below_drewN | apply below_drew1) | exact HB.out), by repeat (first | (with_reducible first | exact HK.out | apply Kept.alloc | apply Kept.drewN | apply Kept.drew) | exact HK.out)⟩
end Go.Proofs.Ytbkeakeldegkeaa.Q
namespace Go.Proofs.Ytbkeakeldegkeaa.Q
open Go.RowKit Go.Proofs.YtbkeakeldegkeaaW.PrintWords Go.Proofs.YtbkeakeldegkeaaW.PrintLast Go.Proofs.YtbkeakeldegkeaaW.PrintMore
attribute [local go_sem] max2_int min2_int max_two min_two max_three min_three max_four min_four
set_option linter.unusedVariables false
set_option linter.unusedSimpArgs false
end Go.Proofs.Ytbkeakeldegkeaa.Q
end
section
namespace Go.Proofs.YtbkeakeldegkeaaX
open Go.RowKit Go.Proofs.YtbkeakeldegkeaaW.PrintWords
theorem run_idxb {P : Program} {w : World} (A : Option Addr) (c : Nat) (xs : List Int) (h : Kd.C (Kd.int .u8) w A xs.length xs) (cv : Int) :
    (Extern.BytealgIndexByte.indexByte #[.slice A xs.length c, .int .u8 cv]).run P w = .ok (.int .i64 (Lib.indexByte (Lib.bytesOf xs) cv.toNat.toUInt8)) w := by
  cases A with
  | none =>
    have hx : xs = [] := by
      cases xs with
      | nil => rfl
      | cons y t => obtain ⟨ad, e, _⟩ := Kd.at_int h 0 (Int.le_refl _) (by simp); cases e
    subst hx
    exact Lib.run_indexByteNil w _ _ _
  | some ad =>
    obtain ⟨b, off, spot⟩ := ad
    cases spot with
    | none =>
      refine Lib.run_indexByteSlice w b off xs.length c xs rfl (fun i hi => ?_) cv
      obtain ⟨ad, e, hc⟩ := Kd.at_int h (i : Int) (by omega) (by omega)
      cases e
      rw [show (⟨b, off, none⟩ : Addr).add (i : Int).toNat = ⟨b, off + i, none⟩ by unfold Addr.add; by_cases hj0 : i = 0 <;> simp [hj0]] at hc
      exact hc
    | some sp =>
      have hx : xs = [] := by
        cases xs with
        | nil => rfl
        | cons y t =>
          obtain ⟨ad, e, hc⟩ := Kd.at_int h 0 (Int.le_refl _) (by simp)
          cases e
          have : w.cell? ⟨b, off, some sp⟩ = none := by unfold World.cell?; cases w.heap[b]? with | none => rfl | some o => cases o <;> rfl
          rw [show (⟨b, off, some sp⟩ : Addr).add (0 : Int).toNat = ⟨b, off, some sp⟩ from rfl, this] at hc
          cases hc
      subst hx
      exact Lib.run_indexByteSlice (P := P) w 0 0 0 c [] rfl (fun i hi => absurd hi (by omega)) cv
end Go.Proofs.YtbkeakeldegkeaaX
end
