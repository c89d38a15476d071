/- FnUriSays: the law's function, called with any arguments, returns true and leaves its arguments as they were: every input, no condition. Part 2 of 16. -/
import Derived.Test.YtbkeakeldegkeaaZFnUriSays0
import Derived.Lib.ConvBytes
import Derived.Deep.QuietTactic
import Derived.Laws.AppendOwn
import Derived.Laws.Strings
import Derived.Laws.StructEq
import Derived.Test.YtbkeakeldegkeaaProg
import Derived.Below
import Derived.Deep.Draws
import Derived.Deep.AppendLies
import Derived.Maps.AppendAt
import Derived.OwnWalk
import Derived.Laws.BytesArg
import Derived.Laws.MakeOwn
import Derived.Laws.OwnMore
import Derived.Deep.OwnRows
import Derived.Tactics
import Derived.Laws.Slices
import Derived.WalkKit
import Derived.KernelRfl
import Derived.RowKit3
import Derived.Deep.LoopGhost
import Derived.BigQuiet
import Derived.WideLaws
import Derived.Deep.DeepCutAuto
import Derived.Deep.CutBlock
import Derived.Deep.RegionHeld3
import Derived.Laws.Rows
import Derived.Lib.AppendStr
import Derived.ArgAppend
import Derived.Laws.IdiomCopy
import Derived.OrdersHeld
import Derived.Laws.BitsLemmas
import Derived.RowKit
import Derived.Laws.Externs
import Derived.Lib.BytesEntry
import Derived.Lib.Bytealg
import Derived.WalkSpells
import Derived.Lib.LazyBuf
import Derived.StillTailTactics
set_option linter.unusedVariables false
set_option linter.unusedSimpArgs false
section
namespace Go.Proofs.YtbkeakeldegkeaaW.PrintMore
open Go.RowKit Go.Proofs.YtbkeakeldegkeaaW.PrintWords
namespace Kd
open Go.Proofs.YtbkeakeldegkeaaW.PrintWords.Kd
end Kd
namespace Kd
open Go.Proofs.YtbkeakeldegkeaaW.PrintWords.Kd
section
variable {α : Type} {d : Kd α} {e base g N : Nat} {ok : Nat → Prop} {W w1 : World} {u v : Value} {xs : List α}
end
end Kd
theorem max2_int (k k' : IntKind) (x y : Int) : Builtin.max2 (.int k x) (.int k' y) = pure (.int k (if x < y then y else x)) := by simp only [Builtin.max2,gt_iff_lt]
theorem min2_int (k k' : IntKind) (x y : Int) : Builtin.min2 (.int k x) (.int k' y) = pure (.int k (if y < x then y else x)) := by simp only [Builtin.min2]
theorem max_two (ats : Array TypeId) (ty : TypeId) (a b : Value) : Builtin.max_ ats ty #[a,b] = (Builtin.max2 a b >>= fun s => pure s) := by simp only [Builtin.max_,List.foldlM_cons,List.foldlM_nil]
theorem min_two (ats : Array TypeId) (ty : TypeId) (a b : Value) : Builtin.min_ ats ty #[a,b] = (Builtin.min2 a b >>= fun s => pure s) := by simp only [Builtin.min_,List.foldlM_cons,List.foldlM_nil]
theorem max_three (ats : Array TypeId) (ty : TypeId) (a b c : Value) : Builtin.max_ ats ty #[a,b,c] = (Builtin.max2 a b >>= fun s => Builtin.max2 s c >>= fun s => pure s) := by simp only [Builtin.max_,List.foldlM_cons,List.foldlM_nil]
theorem min_three (ats : Array TypeId) (ty : TypeId) (a b c : Value) : Builtin.min_ ats ty #[a,b,c] = (Builtin.min2 a b >>= fun s => Builtin.min2 s c >>= fun s => pure s) := by simp only [Builtin.min_,List.foldlM_cons,List.foldlM_nil]
theorem max_four (ats : Array TypeId) (ty : TypeId) (a b c d : Value) : Builtin.max_ ats ty #[a,b,c,d] = (Builtin.max2 a b >>= fun s => Builtin.max2 s c >>= fun s => Builtin.max2 s d >>= fun s => pure s) := by simp only [Builtin.max_,List.foldlM_cons,List.foldlM_nil]
theorem min_four (ats : Array TypeId) (ty : TypeId) (a b c d : Value) : Builtin.min_ ats ty #[a,b,c,d] = (Builtin.min2 a b >>= fun s => Builtin.min2 s c >>= fun s => Builtin.min2 s d >>= fun s => pure s) := by simp only [Builtin.min_,List.foldlM_cons,List.foldlM_nil]
end Go.Proofs.YtbkeakeldegkeaaW.PrintMore
namespace Go.Proofs.YtbkeakeldegkeaaW.PrintWords
open Go.RowKit
section
variable {P : Program} {ops : Array Oper} {rest : List Oper} {o : Oper} {a : Act} {Q : Exit → Act → World → Prop} {W : World}
theorem gate_callee {f : FuncId} {as_ : Array Operand} {ts : Array TypeId} (_ho : o.op = .call { callee := .value (.func f),args := as_,argTypes := ts }) (h : wpList P ops Q (o :: rest) a W) : wpList P ops Q (o :: rest) a W := h
theorem gate_builtin {b : Builtin} {xs : Array Operand} {ts : Array TypeId} (_ho : o.op = .call { callee := .builtin b,args := xs,argTypes := ts }) (h : wpList P ops Q (o :: rest) a W) : wpList P ops Q (o :: rest) a W := h
end
def mx (a b : Int) : Int := if a < b then b else a
theorem drewN_self (w : World) (n : Nat) : w.drewN n = w.drewN n := rfl
namespace Kd
section
variable {α : Type} {d : Kd α} {e base : Nat} {ok : Nat → Prop} {W w1 : World} {v : Value} {xs : List α}
end
section
variable {α : Type} {d : Kd α} {e base g n cap : Nat} {ok oki okp : Nat → Prop} {W : World} {xs : List α} {i : Int} {c : List Value}
end
section
variable {α : Type} {d : Kd α} {e base b b' g N : Nat} {ok ok1 : Nat → Prop} {W W2 w1 : World} {u v : Value} {xs ys : List α} {S : Nat → Prop}
end
end Kd
end Go.Proofs.YtbkeakeldegkeaaW.PrintWords
namespace Go.Proofs.YtbkeakeldegkeaaW.PrintWords
open Go.RowKit
namespace Kd
def V {α : Type} (d : Kd α) (_e : Nat) (W : World) (_base : Nat) (ok : Nat → Prop) (v : Value) (xs : List α) : Prop := ∃ A c,v = .slice A xs.length c ∧ xs.length ≤ c ∧ F d W ok A xs.length xs
section
variable {α β : Type} {d : Kd α} {e base base' n m c g N' lo hi : Nat} {ok ok' S : Nat → Prop} {w W w1 : World} {A : Option Addr} {ad : Addr} {u v v1 : Value} {xs : List α}
theorem V_nil (d : Kd α) (e : Nat) (W : World) (base : Nat) (ok : Nat → Prop) : V d e W base ok (.slice none 0 0) [] := ⟨none,0,rfl,Nat.le_refl _,F_nil d W ok⟩
theorem R_newM {M : Nat → Prop} (h : d.R e w1 W.heap.size ok v xs) (hle : w.heap.size ≤ W.heap.size) (hM : ∀ k,w.heap.size ≤ k → M k) : d.R e w1 W.heap.size (fun k => M k ∧ ok k) v xs := R_mono (R_bound h) (fun k hk => ⟨hM k (Nat.le_trans hle hk.2.1),hk.1⟩)
end
end Kd
end Go.Proofs.YtbkeakeldegkeaaW.PrintWords
end
section
namespace Go.Proofs.YtbkeakeldegkeaaX
open Go.RowKit Go.Proofs.YtbkeakeldegkeaaW.PrintWords Go.Proofs.YtbkeakeldegkeaaW.PrintLast
theorem isEmpty_eq (l : List UInt8) : l.isEmpty = (l == []) := by cases l <;> rfl
theorem isEmpty_ne (l : List UInt8) : l.isEmpty = !(l != []) := by cases l <;> rfl
theorem wrap_u8 (x : Int) : IntKind.u8.wrap x = x % 256 := by
 unfold IntKind.wrap
 simp only [show IntKind.u8.signed = false from rfl,show IntKind.u8.bits = 8 from rfl,Bool.false_and]
 rfl
theorem C_string2 {P : Program} {w : World} {src dst e : TypeId} {A : Option Addr} {n c : Nat} {xs : List Int} (hs : P.underlying src = some (.slice e)) (he : P.underlying e = some (.int .u8)) (hd : P.underlying dst = some .string) (h : (Kd.int .u8).C w A n xs) :
  (convert src dst (.slice A n c)).run P w = .ok (.string (strOfNums xs)) w ∧ ∀ m,(convert src dst (.slice A n c)).run P (w.drewN m) = .ok (.string (strOfNums xs)) (w.drewN m) :=
 ⟨Kd.C_string hs he hd h,fun m => Kd.C_string (w := w.drewN m) hs he hd (Kd.C_below h (pw_below_drewN (Below.refl _ _) m))⟩
theorem wrap_i64 (x : Int) : IntKind.i64.wrap x = wrap64 x := by unfold wrap64;first|rfl|exact IntKind.wrap_i64 x
section
variable {P : Program} {ops : Array Oper} {Q : Exit → Act → World → Prop} {rest : List Oper} {o : Oper} {a : Act} {w : World}
theorem index_tab (N : Option Tmp) (hd : o.dst = N) (hg : o.guard = none) (t : TypeId) (x i : Operand) (hop : o.op = .index t x i) (ht : P.underlying t = some .string)
  (s : ByteArray) (hx : a.eval x = .string s) (k : IntKind) (n : Int) (hi : a.eval i = .int k n) (h0 : 0 ≤ n) (h1 : n < (s.size : Int))
  (h : wpList P ops Q rest (a.put N (.int .u8 (bt s n))) w) : wpList P ops Q (o :: rest) a w := by
 refine wpList_plain hg fun K hK => ?_
 have hrun : (execOp a.eval o).run P w = .ok (.value (.int .u8 (bt s n))) w := by
  unfold execOp
  simp only [hop,hx,hi,Sem.run_bind,Sem.run_pure,run_index_string (P := P) (w := w) t s k n ht]
  rw [dif_pos ⟨h0,h1⟩]
  simp only [Result.andThen_ok]
  rw [bt_at]
 unfold Oper.wp
 rw [hrun,Oper.upon_value]
 subst hd
 exact hK _ _ h
def ConvCalls (P : Program) (src dst : TypeId) (s : ByteArray) (w : World) (Q : Ending → World → Prop) : Prop := ∃ v w',(convert src dst (.string s)).run P w = .ok v w' ∧ Q (.returned v) w'
theorem ConvCalls.mono {src dst : TypeId} {s : ByteArray} {Q R : Ending → World → Prop} (h : ConvCalls P src dst s w Q) (k : ∀ e w',Q e w' → R e w') : ConvCalls P src dst s w R := by
 obtain ⟨v,w',hr,hq⟩ := h
 exact ⟨v,w',hr,k _ _ hq⟩
theorem convL_ (N : Option Tmp) (hd : o.dst = N) (hg : o.guard = none) (src dst : TypeId) (x : Operand) (hop : o.op = .convert src dst x) (s : ByteArray) (hx : a.eval x = .string s)
  (h : ConvCalls P src dst s w fun e w' => ∃ v,e = .returned v ∧ wpList P ops Q rest (a.put N v) w') : wpList P ops Q (o :: rest) a w := by
 obtain ⟨v,w',hr,v',hv,hk⟩ := h
 obtain rfl : v = v' := by simpa using hv
 refine wpList_plain hg fun K hK => ?_
 have hrun : (execOp a.eval o).run P w = .ok (.value v) w' := by
  unfold execOp
  simp only [hop,hx,Sem.run_bind,Sem.run_pure,hr,Result.andThen_ok]
 unfold Oper.wp
 rw [hrun,Oper.upon_value]
 subst hd
 exact hK _ _ hk
end
end Go.Proofs.YtbkeakeldegkeaaX
end
section
namespace Go.Proofs.YtbkeakeldegkeaaW.PrintLast
open Go.Proofs.YtbkeakeldegkeaaW.PrintWords (Aside0)
def needsOf (md : Region.Mode) (o : Oper) : List Nat := (o.after.toList.filter (fun e => Region.binds md e)).map (fun e => e.on)
def clashOf (md : Region.Mode) (ops : Array Oper) (i : Nat) (oi : Oper) : List Nat := (List.range ops.size).filter fun j => !(j == i) && match ops[j]? with
 | some oj => !(oj.after.any (fun e => Region.binds md e && e.on == i) || oi.apart ops oj)
 | none => false
def rtab (md : Region.Mode) (ops : Array Oper) : Bool × List (List Nat × List Nat) := (Region.noSelect ops,(List.range ops.size).map fun i => match ops[i]? with
 | some o => (needsOf md o,clashOf md ops i o)
 | none => ([],[]))
def readyAt (T : List (List Nat × List Nat)) (l : List Bool) (i : Nat) : Bool := !l.getD i true && match T[i]? with
 | some r => r.1.all (fun j => l.getD j false)
 | none => false
def readyT (T : List (List Nat × List Nat)) (l : List Bool) : List Nat := (List.range T.length).filter (readyAt T l)
def freeT (T : List (List Nat × List Nat)) (l : List Bool) (i : Nat) : Bool := match T[i]? with
 | some r => r.2.all (fun j => l.getD j true)
 | none => false
def closedT (T : List (List Nat × List Nat)) (l : List Bool) : Bool := (List.range T.length).all fun j => !l.getD j false || match T[j]? with
 | some r => r.1.all (fun k => l.getD k false)
 | none => true
def reachT (T : List (List Nat × List Nat)) (i : Nat) : Nat → Nat → Bool
 | 0,_ => false
 | fuel + 1,d => match T[d]? with
  | some r => r.1.any fun j => j == i || reachT T i fuel j
  | none => false
def lastT (T : List (List Nat × List Nat)) (l : List Bool) (ds : List Nat) (i : Nat) : Bool := ds.all fun d => l.getD d true || reachT T i T.length d
section
variable {md : Region.Mode} {ops : Array Oper} {T : Bool × List (List Nat × List Nat)} {l l' li lj lk : Array Bool} {ds : List Nat} {i j k : Nat}
theorem gd (l : Array Bool) (j : Nat) (b : Bool) : l.getD j b = l.toList.getD j b := by simp [Array.getD_eq_getD_getElem?,List.getD_eq_getElem?_getD]
theorem needs_all (o : Oper) (p : Nat → Bool) : o.after.all (fun e => !Region.binds md e || p e.on) = (needsOf md o).all p := by
 unfold needsOf
 rw [← Array.all_toList]
 induction o.after.toList with
 | nil => rfl
 | cons e r ih =>
  rw [List.all_cons,ih,List.filter_cons]
  cases h : Region.binds md e <;> simp
theorem needs_any (o : Oper) (p : Nat → Bool) : o.after.any (fun e => Region.binds md e && p e.on) = (needsOf md o).any p := by
 unfold needsOf
 rw [← Array.any_toList]
 induction o.after.toList with
 | nil => rfl
 | cons e r ih =>
  rw [List.any_cons,ih,List.filter_cons]
  cases h : Region.binds md e <;> simp
theorem rtab_length : (rtab md ops).2.length = ops.size := by simp [rtab]
theorem rtab_some {o : Oper} (h : ops[i]? = some o) : (rtab md ops).2[i]? = some (needsOf md o,clashOf md ops i o) := by
 have hi := (Array.getElem?_eq_some_iff.1 h).1
 unfold rtab
 rw [List.getElem?_map,List.getElem?_range hi,Option.map_some,h]
theorem rtab_none (h : ops[i]? = none) : (rtab md ops).2[i]? = none := by
 have hi : ops.size ≤ i := Array.getElem?_eq_none_iff.1 h
 exact List.getElem?_eq_none (by rw [rtab_length];exact hi)
theorem readyAt_eq : readyAt (rtab md ops).2 l.toList i = (!l.getD i true && ((ops[i]?).map (·.after.all fun e => !Region.binds md e || l.getD e.on false)).getD false) := by
 unfold readyAt
 rw [gd]
 cases h : ops[i]? with
 | none => rw [rtab_none h];rfl
 | some o =>
  rw [rtab_some h]
  simp only [Option.map_some,Option.getD_some]
  rw [← needs_all]
  simp only [gd]
theorem ready_eq : Region.ready md ops l = readyT (rtab md ops).2 l.toList := by
 unfold Region.ready readyT
 rw [rtab_length]
 refine List.filter_congr (fun i _ => ?_)
 rw [readyAt_eq]
theorem free_eq : Region.free md ops l i = freeT (rtab md ops).2 l.toList i := by
 unfold Region.free freeT
 cases h : ops[i]? with
 | none => rw [rtab_none h]
 | some oi =>
  rw [rtab_some h]
  simp only [clashOf]
  rw [List.all_filter]
  congr 1
  funext j
  rw [gd]
  cases hj : ops[j]? with
  | none => cases (j == i) <;> cases (l.toList.getD j true) <;> simp
  | some oj =>
   cases (j == i) <;> cases (l.toList.getD j true) <;> cases (oj.after.any (fun e => Region.binds md e && e.on == i) || oi.apart ops oj) <;> simp_all
theorem closed_eq : Region.closedB md ops l = closedT (rtab md ops).2 l.toList := by
 unfold Region.closedB closedT
 rw [rtab_length]
 congr 1
 funext j
 rw [gd]
 cases h : ops[j]? with
 | none => rw [rtab_none h]
 | some o =>
  rw [rtab_some h]
  simp only
  rw [← needs_all]
  simp only [gd]
theorem reach_eq : ∀ (fuel d : Nat),Region.reachB md ops i fuel d = reachT (rtab md ops).2 i fuel d
 | 0,_ => rfl
 | fuel + 1,d => by
  unfold Region.reachB reachT
  cases h : ops[d]? with
  | none => rw [rtab_none h]
  | some o =>
   rw [rtab_some h]
   simp only
   rw [← needs_any]
   congr 1
   funext e
   rw [reach_eq fuel]
theorem last_eq : Region.lastB md ops l ds i = lastT (rtab md ops).2 l.toList ds i := by
 unfold Region.lastB lastT
 rw [rtab_length]
 congr 1
 funext d
 rw [gd,reach_eq]
theorem readyAt_mem (h : readyAt T.2 l.toList i = true) (hT : rtab md ops = T) : (Region.ready md ops l).contains i = true := by
 subst hT
 rw [ready_eq]
 unfold readyT
 rw [List.contains_iff_mem,List.mem_filter,List.mem_range]
 refine ⟨?_,h⟩
 unfold readyAt at h
 rw [Bool.and_eq_true] at h
 cases hq : (rtab md ops).2[i]? with
 | none => rw [hq] at h;simp at h
 | some r => exact (List.getElem?_eq_some_iff.1 hq).1
theorem set_of (h : (l.toList.set i true == l'.toList) = true) : (l.setIfInBounds i true == l') = true := by
 rw [beq_iff_eq] at h ⊢
 apply Array.ext'
 rw [Array.toList_setIfInBounds]
 exact h
def anyT (T : Bool × List (List Nat × List Nat)) (l l' : List Bool) (i : Nat) : Bool := T.1 && freeT T.2 l i && readyAt T.2 l i && (l.set i true == l')
theorem any_of (hT : rtab md ops = T) (h : anyT T l.toList l'.toList i = true) : anyB md ops l l' i = true := by
 simp only [anyT,Bool.and_eq_true] at h
 obtain ⟨⟨⟨h1,h2⟩,h3⟩,h4⟩ := h
 have h5 := readyAt_mem h3 hT
 have h6 := set_of h4
 subst hT
 simp only [anyB,Bool.and_eq_true]
 exact ⟨⟨⟨h1,by rw [free_eq];exact h2⟩,h5⟩,h6⟩
def takeT (T : Bool × List (List Nat × List Nat)) (ds : List Nat) (l l' : List Bool) (i : Nat) : Bool := T.1 && freeT T.2 l i && readyAt T.2 l i && closedT T.2 l && lastT T.2 l ds i && (l.set i true == l')
theorem take_of (hT : rtab md ops = T) (h : takeT T ds l.toList l'.toList i = true) : takeB md ops ds l l' i = true := by
 simp only [takeT,Bool.and_eq_true] at h
 obtain ⟨⟨⟨⟨⟨h1,h2⟩,h3⟩,h4⟩,h5⟩,h6⟩ := h
 have h7 := readyAt_mem h3 hT
 have h8 := set_of h6
 subst hT
 simp only [takeB,Bool.and_eq_true]
 exact ⟨⟨⟨⟨⟨h1,by rw [free_eq];exact h2⟩,h7⟩,by rw [closed_eq];exact h4⟩,by rw [last_eq];exact h5⟩,h8⟩
theorem one_of (hT : rtab md ops = T) (h : (readyT T.2 l.toList == [i] && l.toList.set i true == l'.toList) = true) : readyB md ops l l' i = true := by
 simp only [Bool.and_eq_true] at h
 obtain ⟨h1,h2⟩ := h
 subst hT
 simp only [readyB,Bool.and_eq_true]
 exact ⟨by rw [ready_eq];exact h1,set_of h2⟩
theorem done_of (hT : rtab md ops = T) (h : (readyT T.2 l.toList == []) = true) : (Region.ready md ops l == []) = true := by
 subst hT
 rw [ready_eq]
 exact h
def upM (B : List Nat) (d : Nat) : List Nat → Nat
 | [] => 0
 | n :: r => (2 ^ n ||| (if n < d then B.getD n 0 else 0)) ||| upM B d r
def waitsOk (T : List (List Nat × List Nat)) (B : List Nat) : Bool := (List.range T.length).all fun d => match T[d]? with
 | some r => (B.getD d 0 ||| upM B d r.1) == upM B d r.1
 | none => false
theorem upM_bit {B : List Nat} {d i : Nat} : ∀ {ns : List Nat},(upM B d ns).testBit i = true → ∃ n ∈ ns,n = i ∨ (n < d ∧ (B.getD n 0).testBit i = true)
 | [],h => by simp [upM] at h
 | n :: r,h => by
  unfold upM at h
  rw [Nat.testBit_or,Nat.testBit_or,Bool.or_eq_true,Bool.or_eq_true] at h
  rcases h with (h|h)|h
  ·
   rw [Nat.testBit_two_pow] at h
   exact ⟨n,List.mem_cons_self,.inl (by simpa using h)⟩
  ·
   by_cases hn : n < d
   ·
    rw [if_pos hn] at h
    exact ⟨n,List.mem_cons_self,.inr ⟨hn,h⟩⟩
   rw [if_neg hn] at h
   simp at h
  obtain ⟨m,hm,h2⟩ := upM_bit h
  exact ⟨m,List.mem_cons_of_mem _ hm,h2⟩
theorem reach_bit {T : List (List Nat × List Nat)} {B : List Nat} (hB : waitsOk T B = true) : ∀ (fuel d : Nat),d < fuel → d < T.length → (B.getD d 0).testBit i = true → reachT T i fuel d = true
 | 0,d,h,_,_ => by omega
 | fuel + 1,d,h,hd,hb => by
  have h1 := List.all_eq_true.1 hB d (List.mem_range.2 hd)
  cases hr : T[d]? with
  | none => rw [hr] at h1;simp at h1
  | some r =>
   rw [hr] at h1
   simp only [beq_iff_eq] at h1
   have h2 : (upM B d r.1).testBit i = true := by rw [← h1,Nat.testBit_or,hb,Bool.true_or]
   obtain ⟨n,hn,h3⟩ := upM_bit h2
   unfold reachT
   rw [hr]
   simp only
   rw [List.any_eq_true]
   refine ⟨n,hn,?_⟩
   rcases h3 with rfl|⟨h4,h5⟩
   ·
    simp
   rw [reach_bit hB fuel n (by omega) (by omega) h5,Bool.or_true]
def lastW (T : List (List Nat × List Nat)) (B : List Nat) (l : List Bool) (ds : List Nat) (i : Nat) : Bool := ds.all fun d => l.getD d true || (decide (d < T.length) && (B.getD d 0).testBit i)
def takeW (T : Bool × List (List Nat × List Nat)) (B : List Nat) (ds : List Nat) (l l' : List Bool) (i : Nat) : Bool := T.1 && freeT T.2 l i && readyAt T.2 l i && closedT T.2 l && lastW T.2 B l ds i && (l.set i true == l')
theorem take_ofW {B : List Nat} (hT : rtab md ops = T) (hB : waitsOk T.2 B = true) (h : takeW T B ds l.toList l'.toList i = true) : takeB md ops ds l l' i = true := by
 refine take_of hT ?_
 simp only [takeW,takeT,Bool.and_eq_true] at h ⊢
 obtain ⟨⟨⟨⟨⟨h1,h2⟩,h3⟩,h4⟩,h5⟩,h6⟩ := h
 refine ⟨⟨⟨⟨⟨h1,h2⟩,h3⟩,h4⟩,?_⟩,h6⟩
 unfold lastW at h5
 unfold lastT
 rw [List.all_eq_true] at h5 ⊢
 intro d hd
 have h7 := h5 d hd
 rw [Bool.or_eq_true,Bool.and_eq_true,decide_eq_true_eq] at h7
 rcases h7 with h7|⟨h8,h9⟩
 ·
  rw [h7,Bool.true_or]
 rw [reach_bit hB _ d h8 h8 h9,Bool.or_true]
theorem with_tabW {P : Program} {Q : Exit → Act → World → Prop} {S : World → Prop} {n : Nat} {a : Act} {w : World} {B : List Nat} (hT : rtab md ops = T) (hB : waitsOk T.2 B = true) (h : Aside0 (rtab md ops = T) → Aside0 (waitsOk T.2 B = true) → wpAnyLast P md ops Q S ds n l a w) : wpAnyLast P md ops Q S ds n l a w := h ⟨hT⟩ ⟨hB⟩
end
def opsIn : Code → Nat → Option (Array Oper)
 | .region id ops _,k => if id == k then some ops else none
 | .seq a b,k => match opsIn a k with
  | some o => some o
  | none => opsIn b k
 | .cond _ a b,k => match opsIn a k with
  | some o => some o
  | none => opsIn b k
 | .block _ c,k => opsIn c k
 | .loop c,k => opsIn c k
 | .scope c,k => opsIn c k
 | .rangeFunc _ _ a b,k => match opsIn a k with
  | some o => some o
  | none => opsIn b k
 | _,_ => none
def opsOf (f : Func) (k : Nat) : Array Oper := ((f.body.bind fun c => opsIn c k)).getD #[]
end Go.Proofs.YtbkeakeldegkeaaW.PrintLast
end
section
namespace Go.Proofs.YtbkeakeldegkeaaW.PrintWords
open Go.RowKit
section
variable {P : Program} {d : Nat} {xs ys : Array Value} {f : Field} {fs : List Field} {a b : Value} {r s : Bool} {w : World}
theorem eqf_last (hn : (f.name == "_") = false) (ha : (part f.type xs f.offset).run P w = .ok a w) (hb : (part f.type ys f.offset).run P w = .ok b w) (he : (Op.equalIn d f.type a b).run P w = .ok r w) : (Op.eqFields d xs ys [f]).run P w = .ok r w := by
 have hn' : f.name ≠ "_" := by simpa using hn
 simp only [Op.eqFields,if_pos hn',Sem.run_bind,ha,hb,he,Result.andThen_ok]
 cases r <;> simp
theorem eqf_cons (hn : (f.name == "_") = false) (ha : (part f.type xs f.offset).run P w = .ok a w) (hb : (part f.type ys f.offset).run P w = .ok b w) (he : (Op.equalIn d f.type a b).run P w = .ok r w) (hr : (Op.eqFields d xs ys fs).run P w = .ok s w) : (Op.eqFields d xs ys (f :: fs)).run P w = .ok (r && s) w := by
 have hn' : f.name ≠ "_" := by simpa using hn
 rw [Op.eqFields]
 simp only [if_pos hn',Sem.run_bind,ha,hb,he,Result.andThen_ok]
 cases r
 ·
  simp
 simpa using hr
theorem eqA_of {t : TypeId} {fs : Array Field} (hu : P.underlying t = some (.struct fs)) (hp : P.stoodInHeld t = false) (h : (Op.eqFields d xs ys fs.toList).run P w = .ok r w) : (Op.equalIn (d + 1) t (.agg xs) (.agg ys)).run P w = .ok r w := by
 have hf : P.fieldsOf t = fs := by simp [Program.fieldsOf,hu]
 rw [run_equalIn_struct (P := P) w d t xs ys (by rw [hf];exact hu) hp,hf]
 exact h
end
end Go.Proofs.YtbkeakeldegkeaaW.PrintWords
end
section
namespace Go.Proofs.YtbkeakeldegkeaaW.PrintWords
theorem Reps.one {α : Type} {R : α → List Value → Prop} {ps : List α} {cs : List Value} {p : α} {v : Value} (hp : R p [v]) (h : Reps R 1 ps cs) : Reps R 1 (p :: ps) (v :: cs) := by
 refine ⟨by simp [h.1],fun j q hq => ?_⟩
 cases j with
 | zero =>
  simp only [List.getElem?_cons_zero,Option.some.injEq] at hq
  subst hq
  simpa using hp
 | succ j =>
  simp only [List.getElem?_cons_succ] at hq
  have h1 := h.2 j q hq
  simpa [Nat.mul_one] using h1
theorem Reps.front {α : Type} {R : α → List Value → Prop} {size : Nat} {ps : List α} {cs c all : List Value} {p : α} (hp : R p c) (hc : c.length = size) (h : Reps R size ps cs) (ha : c ++ cs = all) : Reps R size (p :: ps) all := by
 subst ha
 refine ⟨by rw [List.length_append,hc,h.1,List.length_cons,Nat.succ_mul,Nat.add_comm],fun j q hq => ?_⟩
 cases j with
 | zero =>
  simp only [List.getElem?_cons_zero,Option.some.injEq] at hq
  subst hq
  rw [Nat.zero_mul,List.drop_zero,List.take_append_of_le_length (by omega),List.take_of_length_le (by omega)]
  exact hp
 | succ j =>
  simp only [List.getElem?_cons_succ] at hq
  have h1 := h.2 j q hq
  rw [Nat.succ_mul,List.drop_append,List.drop_of_length_le (by rw [hc];exact Nat.le_add_left _ _),List.nil_append,hc,Nat.add_sub_cancel]
  exact h1
theorem Reps.c2 {α : Type} {R : α → List Value → Prop} {ps : List α} {cs : List Value} {p : α} {va vb : Value} (hp : R p [va,vb]) (h : Reps R 2 ps cs) : Reps R 2 (p :: ps) (va :: vb :: cs) := Reps.front hp rfl h rfl
theorem Reps.c3 {α : Type} {R : α → List Value → Prop} {ps : List α} {cs : List Value} {p : α} {va vb vc : Value} (hp : R p [va,vb,vc]) (h : Reps R 3 ps cs) : Reps R 3 (p :: ps) (va :: vb :: vc :: cs) := Reps.front hp rfl h rfl
theorem Reps.c4 {α : Type} {R : α → List Value → Prop} {ps : List α} {cs : List Value} {p : α} {va vb vc vd : Value} (hp : R p [va,vb,vc,vd]) (h : Reps R 4 ps cs) : Reps R 4 (p :: ps) (va :: vb :: vc :: vd :: cs) := Reps.front hp rfl h rfl
theorem Reps.c5 {α : Type} {R : α → List Value → Prop} {ps : List α} {cs : List Value} {p : α} {va vb vc vd ve : Value} (hp : R p [va,vb,vc,vd,ve]) (h : Reps R 5 ps cs) : Reps R 5 (p :: ps) (va :: vb :: vc :: vd :: ve :: cs) := Reps.front hp rfl h rfl
theorem Reps.c6 {α : Type} {R : α → List Value → Prop} {ps : List α} {cs : List Value} {p : α} {va vb vc vd ve vf : Value} (hp : R p [va,vb,vc,vd,ve,vf]) (h : Reps R 6 ps cs) : Reps R 6 (p :: ps) (va :: vb :: vc :: vd :: ve :: vf :: cs) := Reps.front hp rfl h rfl
theorem Reps.c7 {α : Type} {R : α → List Value → Prop} {ps : List α} {cs : List Value} {p : α} {va vb vc vd ve vf vg : Value} (hp : R p [va,vb,vc,vd,ve,vf,vg]) (h : Reps R 7 ps cs) : Reps R 7 (p :: ps) (va :: vb :: vc :: vd :: ve :: vf :: vg :: cs) := Reps.front hp rfl h rfl
theorem Reps.c8 {α : Type} {R : α → List Value → Prop} {ps : List α} {cs : List Value} {p : α} {va vb vc vd ve vf vg vh : Value} (hp : R p [va,vb,vc,vd,ve,vf,vg,vh]) (h : Reps R 8 ps cs) : Reps R 8 (p :: ps) (va :: vb :: vc :: vd :: ve :: vf :: vg :: vh :: cs) := Reps.front hp rfl h rfl
theorem Reps.c9 {α : Type} {R : α → List Value → Prop} {ps : List α} {cs : List Value} {p : α} {va vb vc vd ve vf vg vh vi : Value} (hp : R p [va,vb,vc,vd,ve,vf,vg,vh,vi]) (h : Reps R 9 ps cs) : Reps R 9 (p :: ps) (va :: vb :: vc :: vd :: ve :: vf :: vg :: vh :: vi :: cs) := Reps.front hp rfl h rfl
theorem Reps.c10 {α : Type} {R : α → List Value → Prop} {ps : List α} {cs : List Value} {p : α} {va vb vc vd ve vf vg vh vi vj : Value} (hp : R p [va,vb,vc,vd,ve,vf,vg,vh,vi,vj]) (h : Reps R 10 ps cs) : Reps R 10 (p :: ps) (va :: vb :: vc :: vd :: ve :: vf :: vg :: vh :: vi :: vj :: cs) := Reps.front hp rfl h rfl
end Go.Proofs.YtbkeakeldegkeaaW.PrintWords
end
section
namespace Go.Proofs.YtbkeakeldegkeaaW.PrintLast
def up (b : Nat → Bool) (i : Nat) : Nat → Bool := fun j => if j = i then true else b j
section
variable {P : Program} {ops : Array Oper} {Q : Exit → Act → World → Prop} {md : Region.Mode} {T : Bool × List (List Nat × List Nat)} {B : List Nat} {O : List Nat} {b : Nat → Bool} {i j n : Nat}
end
end Go.Proofs.YtbkeakeldegkeaaW.PrintLast
end
section
namespace Go.Proofs.YtbkeakeldegkeaaW.PrintWords
open Go.RowKit
section
variable {P : Program} {ops : Array Oper} {rest : List Oper} {o : Oper} {a : Act} {Q : Exit → Act → World → Prop} {W : World}
theorem gate_guard (hw : Region.wanted o (yielded ops a.tmps) = true) (h : wpList P ops Q ({ o with guard := none } :: rest) a W) : wpList P ops Q (o :: rest) a W := by
 have h1 : Region.wanted { o with guard := none } (yielded ops a.tmps) = true := rfl
 unfold wpList at h ⊢
 rw [if_pos h1] at h
 rw [if_pos hw]
 exact h
end
end Go.Proofs.YtbkeakeldegkeaaW.PrintWords
end
section
namespace Go.Proofs.Ytbkeakeldegkeaa.Q
open Go.RowKit Go.Proofs.YtbkeakeldegkeaaW.PrintWords Go.Proofs.YtbkeakeldegkeaaW.PrintLast Go.Proofs.YtbkeakeldegkeaaW.PrintMore
attribute [local go_sem] max2_int min2_int max_two min_two max_three min_three max_four min_four
def errW : Option Int → Value
 | none => .nilIface
 | some c => .iface 0 (.int .i64 c)
theorem errW_none : errW none = .nilIface := rfl
theorem errW_some (c : Int) : errW (some c) = .iface 0 (.int .i64 c) := rfl
theorem info5 : (Try.prog.info? 5).map (fun i => (i.zero,i.size,i.bytes)) = some (some (.int .u8 0),1,1) := by kernel_rfl
theorem info9 : (Try.prog.info? 9).map (fun i => (i.zero,i.size,i.bytes)) = some (some (.string ⟨#[]⟩),1,16) := by kernel_rfl
def tab1 : ByteArray := ⟨#[16,16,16,16,16,16,16,16,16,16,16,16,16,16,16,16,16,16,16,16,16,16,16,16,16,16,16,16,16,16,16,16,16,16,16,16,16,16,16,16,16,16,16,16,16,16,16,16,0,1,2,3,4,5,6,7,8,9,16,16,16,16,16,16,16,10,11,12,13,14,15,16,16,16,16,16,16,16,16,16,16,16,16,16,16,16,16,16,16,16,16,16,16,16,16,16,16,10,11,12,13,14,15,16,16,16,16,16,16,16,16,16,16,16,16,16,16,16,16,16,16,16,16,16,16,16,16,16,16,16,16,16,16,16,16,16,16,16,16,16,16,16,16,16,16,16,16,16,16,16,16,16,16,16,16,16,16,16,16,16,16,16,16,16,16,16,16,16,16,16,16,16,16,16,16,16,16,16,16,16,16,16,16,16,16,16,16,16,16,16,16,16,16,16,16,16,16,16,16,16,16,16,16,16,16,16,16,16,16,16,16,16,16,16,16,16,16,16,16,16,16,16,16,16,16,16,16,16,16,16,16,16,16,16,16,16,16,16,16,16,16,16,16,16,16,16,16,16,16,16,16,16,16,16,16,16]⟩
def tab2 : ByteArray := ⟨#[1,1,1,1,1,1,1,1,1,1,1,1,1,1,1,1,1,1,1,1,1,1,1,1,1,1,1,1,1,1,1,1,1,1,1,1,0,1,0,1,1,1,1,0,0,0,0,0,0,0,0,0,0,0,0,0,0,0,0,0,1,0,1,1,0,0,0,0,0,0,0,0,0,0,0,0,0,0,0,0,0,0,0,0,0,0,0,0,0,0,0,1,1,1,1,0,1,0,0,0,0,0,0,0,0,0,0,0,0,0,0,0,0,0,0,0,0,0,0,0,0,0,0,1,1,1,0,1,1,1,1,1,1,1,1,1,1,1,1,1,1,1,1,1,1,1,1,1,1,1,1,1,1,1,1,1,1,1,1,1,1,1,1,1,1,1,1,1,1,1,1,1,1,1,1,1,1,1,1,1,1,1,1,1,1,1,1,1,1,1,1,1,1,1,1,1,1,1,1,1,1,1,1,1,1,1,1,1,1,1,1,1,1,1,1,1,1,1,1,1,1,1,1,1,1,1,1,1,1,1,1,1,1,1,1,1,1,1,1,1,1,1,1,1,1,1,1,1,1,1,1,1,1,1,1,1]⟩
end Go.Proofs.Ytbkeakeldegkeaa.Q
end
section
namespace Go.Proofs.Ytbkeakeldegkeaa.Q
open Go.RowKit Go.Proofs.YtbkeakeldegkeaaW.PrintWords Go.Proofs.YtbkeakeldegkeaaW.PrintLast Go.Proofs.YtbkeakeldegkeaaW.PrintMore
attribute [local go_sem] max2_int min2_int max_two min_two max_three min_three max_four min_four
def spec_split.l0 : Nat → ByteArray → Int → List ByteArray → Int → Int → Option (List ByteArray)
 | 0,_,_,_,_,_ => none
 | k + 1,x0,x1,x5,x6,x7 => if x7 ≤ (x0.size : Int) then (if x7 = (x0.size : Int) then (if 0 ≤ x6 then (if x6 ≤ x7 then (if x5.length < 8796093022208 then (spec_split.l0 k x0 x1 (x5 ++ [x0.extract (x6 : Int).toNat (x7 : Int).toNat]) (wrap64 (x7 + 1)) (wrap64 (x7 + 1))) else (none)) else (none)) else (none)) else (if 0 ≤ x7 then (if x7 < (x0.size : Int) then (if (bt x0 x7) = x1 then (if 0 ≤ x6 then (if x6 ≤ x7 then (if x5.length < 8796093022208 then (spec_split.l0 k x0 x1 (x5 ++ [x0.extract (x6 : Int).toNat (x7 : Int).toNat]) (wrap64 (x7 + 1)) (wrap64 (x7 + 1))) else (none)) else (none)) else (none)) else (spec_split.l0 k x0 x1 x5 x6 (wrap64 (x7 + 1)))) else (none)) else (none))) else (some x5)
def spec_split.f (k : Nat) (a0 : ByteArray) (a1 : Int) : Option (List ByteArray) := spec_split.l0 k a0 a1 ([] : List ByteArray) 0 0
set_option maxHeartbeats 8000000 in
set_option maxRecDepth 100000 in
theorem spec_split.calls (k : Nat) (a0 : ByteArray) (a1 : Int) (r : List ByteArray) (w : World) (h : spec_split.f k a0 a1 = some r) :
  Calls Try.prog 44 #[.string a0,.int .u8 a1] w fun e w' => ∃ v0_ : Value,e = .returned (v0_) ∧ Kd.R Kd.string 9 w' w.heap.size (fun _ => True) v0_ r ∧ Below w.heap.size w w' := by
 have HB := Aside0.mk (Below.refl w.heap.size w)
 have H : (spec_split.l0 k a0 a1 ([] : List ByteArray) 0 0) = some r := h
 clear h
 have H' := Aside0.mk H
 clear H
 go_enter Try.func44,Try.ntmps44
 go_wp2
 go_loopg [5,6,7] k (fun kq v5 v6 v7 w' => ∃ (x5_1 : List ByteArray) (x6_1 : Int) (x7_1 : Int),v6 = .int .i64 x6_1 ∧ v7 = .int .i64 x7_1 ∧ Aside0 (spec_split.l0 kq a0 a1 x5_1 x6_1 x7_1 = some r) ∧ Aside0 (kq ≤ k) ∧ Aside0 (Kd.R Kd.string 9 w' w.heap.size (fun _ => True) v5 x5_1) ∧ Aside0 (Below w.heap.size w w'))
 case atStart => exact ⟨(([] : List ByteArray)),(0),(0),(by first|rfl|(simp;done)|(simp [*];done)|(simp [YtbkeakeldegkeaaX.isEmpty_ne];done)),(by first|rfl|(simp;done)|(simp [*];done)|(simp [YtbkeakeldegkeaaX.isEmpty_ne];done)),H',⟨Nat.le_refl _⟩,⟨by first|exact Kd.R_nil _ _ _ _ _|exact Kd.N_nil _ _ _ _ _|exact Kd.V_nil _ _ _ _ _|exact Kd.Q_nil _ _ _ _ _|exact Kd.S_nil _ _ _ _ _⟩,⟨by repeat (first|(with_reducible first|exact HB.out|apply below_alloc|apply pw_below_drewN|apply below_drew1)|exact HB.out)⟩⟩
 case round =>
  clear H'
  try clear p2
  obtain ⟨x5_1,x6_1,x7_1,rfl,rfl,HA,HK1,HO_5,HB⟩ := hrel
  cases gk with
  | zero => exact absurd HA.out (by simp [spec_split.l0])
  | succ k1 =>
   have H := HA.out
   clear HA
   simp only [spec_split.l0] at H
   by_cases c3 : x7_1 ≤ (a0.size : Int)
   ·
    rw [if_pos c3] at H
    have c3b0 : decide (x7_1 ≤ (a0.size : Int)) = true := decide_eq_true c3
    clear c3
    by_cases c4 : x7_1 = (a0.size : Int)
    ·
     rw [if_pos c4] at H
     have c4b0 : (x7_1 == (a0.size : Int)) = true := beq_iff_eq.mpr c4
     have c4b1 : (x7_1 != (a0.size : Int)) = false := bne_eq_false_iff_eq.mpr c4
     clear c4
     by_cases c5 : 0 ≤ x6_1
     ·
      rw [if_pos c5] at H
      have c5b0 := eq_true c5
      have c5b1 : decide (0 ≤ x6_1) = true := decide_eq_true c5
      clear c5
      by_cases c6 : x6_1 ≤ x7_1
      ·
       rw [if_pos c6] at H
       have c6b0 := eq_true c6
       have c6b1 : decide (x6_1 ≤ x7_1) = true := decide_eq_true c6
       clear c6
       have c7b0 := eq_true (of_decide_eq_true (by first|(with_reducible assumption)|assumption) : x7_1 ≤ (a0.size : Int))
       by_cases c8 : x5_1.length < 8796093022208
       ·
        rw [if_pos c8] at H
        have LMc8 := Aside0.mk c8
        clear c8
        obtain ⟨y334,hy334⟩ : ∃ y_ : List ByteArray,y_ = (x5_1 ++ [a0.extract (x6_1 : Int).toNat (x7_1 : Int).toNat]) := ⟨_,rfl⟩
        replace H : (spec_split.l0 k1 a0 a1 y334 (wrap64 (x7_1 + 1)) (wrap64 (x7_1 + 1))) = some r := by first|(rw [hy334];with_reducible exact H)|(have H2_ := (Option.bind_some _ _).symm.trans H;rw [hy334];with_reducible exact H2_)|(have H2_ := (Option.bind_some _ _).symm.trans H;with_reducible exact H2_)|with_reducible exact H|(rw [hy334];exact H)|exact H
        have Ny334 := Aside0.mk hy334
        clear hy334
        have H' := Aside0.mk H
        clear H
        go_wp2_with (first|((with_reducible refine gate_builtin (b := .append) (xs := #[.tmp 25,.tmp 30]) rfl ?_);at_builtin;refine Kd.R_append Kd.string (w0 := w) w.heap.size rfl (.tmp 25) (.tmp 30) 30 9 (.string ⟨#[]⟩) 16 rfl Try.underlying30 info9 rfl (by decide) (by omega) u5 x5_1 (a0.extract (x6_1 : Int).toNat (x7_1 : Int).toNat) [.string (a0.extract (x6_1 : Int).toNat (x7_1 : Int).toNat)] (fun _ => True) (fun _ => False) rfl rfl ?aP (fun _ hk => hk.elim) ?aF ?aO ?aB ?aS ?aL ?_;(case aP => exact rfl);(case aB => exact (by repeat (first|(with_reducible first|exact HB.out|apply below_alloc|apply pw_below_drewN|apply below_drew1)|exact HB.out)));(case aF => exact (fun _ _ => trivial));(case aO => exact (by (with_reducible repeat (first|apply Kd.R_alloc|apply Kd.R_drewN|apply Kd.R_drew));exact HO_5.out));(case aS => exact (below_size (by repeat (first|(with_reducible first|exact HB.out|apply below_alloc|apply pw_below_drewN|apply below_drew1)|exact HB.out))));(case aL => have := LMc8.out;omega);intro v335 w9 ho hb hg hat;rw [← Ny334.out] at ho;have n0_ := Aside0.mk (hb);have n1_ := Aside0.mk (ho);clear HB;clear HO_5;have HB := n0_;have HO336 := n1_;clear n0_ n1_;clear ho hb hg hat))
        go_roundg k1
        case measure => have := HK1.out;omega
        case rel => exact ⟨(y334),(wrap64 (x7_1 + 1)),(wrap64 (x7_1 + 1)),(by first|rfl|(simp;done)|(simp [*];done)|(simp [YtbkeakeldegkeaaX.isEmpty_ne];done)),(by first|rfl|(simp;done)|(simp [*];done)|(simp [YtbkeakeldegkeaaX.isEmpty_ne];done)),H',⟨by have := HK1.out;omega⟩,⟨by (with_reducible repeat (first|apply Kd.R_alloc|apply Kd.R_drewN|apply Kd.R_drew));exact HO336.out⟩,⟨by repeat (first|(with_reducible first|exact HB.out|apply below_alloc|apply pw_below_drewN|apply below_drew1)|exact HB.out)⟩⟩
       rw [if_neg c8] at H
       exact absurd H (by simp)
      rw [if_neg c6] at H
      exact absurd H (by simp)
     rw [if_neg c5] at H
     exact absurd H (by simp)
    rw [if_neg c4] at H
    have c4b0 : (x7_1 == (a0.size : Int)) = false := beq_eq_false_iff_ne.mpr c4
    have c4b1 : (x7_1 != (a0.size : Int)) = true := bne_iff_ne.mpr c4
    by_cases c10 : 0 ≤ x7_1
    ·
     rw [if_pos c10] at H
     have c10b0 : decide (0 ≤ x7_1) = true := decide_eq_true c10
     clear c10
     by_cases c11 : x7_1 < (a0.size : Int)
     ·
      rw [if_pos c11] at H
      have c11b0 : decide (x7_1 < (a0.size : Int)) = true := decide_eq_true c11
      clear c11
      by_cases c13 : (bt a0 x7_1) = a1
      ·
       rw [if_pos c13] at H
       have c13b0 : ((bt a0 x7_1) == a1) = true := beq_iff_eq.mpr c13
       have c13b1 : ((bt a0 x7_1) != a1) = false := bne_eq_false_iff_eq.mpr c13
       clear c13
       by_cases c14 : 0 ≤ x6_1
       ·
        rw [if_pos c14] at H
        have c14b0 := eq_true c14
        have c14b1 : decide (0 ≤ x6_1) = true := decide_eq_true c14
        clear c14
        by_cases c15 : x6_1 ≤ x7_1
        ·
         rw [if_pos c15] at H
         have c15b0 := eq_true c15
         have c15b1 : decide (x6_1 ≤ x7_1) = true := decide_eq_true c15
         clear c15
         have c16b0 := eq_true (of_decide_eq_true (by first|(with_reducible assumption)|assumption) : x7_1 ≤ (a0.size : Int))
         by_cases c17 : x5_1.length < 8796093022208
         ·
          rw [if_pos c17] at H
          have LMc17 := Aside0.mk c17
          clear c17
          obtain ⟨y337,hy337⟩ : ∃ y_ : List ByteArray,y_ = (x5_1 ++ [a0.extract (x6_1 : Int).toNat (x7_1 : Int).toNat]) := ⟨_,rfl⟩
          replace H : (spec_split.l0 k1 a0 a1 y337 (wrap64 (x7_1 + 1)) (wrap64 (x7_1 + 1))) = some r := by first|(rw [hy337];with_reducible exact H)|(have H2_ := (Option.bind_some _ _).symm.trans H;rw [hy337];with_reducible exact H2_)|(have H2_ := (Option.bind_some _ _).symm.trans H;with_reducible exact H2_)|with_reducible exact H|(rw [hy337];exact H)|exact H
          have Ny337 := Aside0.mk hy337
          clear hy337
          have H' := Aside0.mk H
          clear H
          have p12 : 0 ≤ (x7_1 : Int) := of_decide_eq_true (by first|(with_reducible assumption)|assumption)
          have q12 : x7_1 < (a0.size : Int) := of_decide_eq_true (by first|(with_reducible assumption)|assumption)
          have hx12 := bt_at a0 x7_1
          replace p12 := eq_true p12
          replace q12 := eq_true q12
          go_wp2_with (first|((with_reducible refine gate_builtin (b := .append) (xs := #[.tmp 25,.tmp 30]) rfl ?_);at_builtin;refine Kd.R_append Kd.string (w0 := w) w.heap.size rfl (.tmp 25) (.tmp 30) 30 9 (.string ⟨#[]⟩) 16 rfl Try.underlying30 info9 rfl (by decide) (by omega) u5 x5_1 (a0.extract (x6_1 : Int).toNat (x7_1 : Int).toNat) [.string (a0.extract (x6_1 : Int).toNat (x7_1 : Int).toNat)] (fun _ => True) (fun _ => False) rfl rfl ?aP (fun _ hk => hk.elim) ?aF ?aO ?aB ?aS ?aL ?_;(case aP => exact rfl);(case aB => exact (by repeat (first|(with_reducible first|exact HB.out|apply below_alloc|apply pw_below_drewN|apply below_drew1)|exact HB.out)));(case aF => exact (fun _ _ => trivial));(case aO => exact (by (with_reducible repeat (first|apply Kd.R_alloc|apply Kd.R_drewN|apply Kd.R_drew));exact HO_5.out));(case aS => exact (below_size (by repeat (first|(with_reducible first|exact HB.out|apply below_alloc|apply pw_below_drewN|apply below_drew1)|exact HB.out))));(case aL => have := LMc17.out;omega);intro v338 w18 ho hb hg hat;rw [← Ny337.out] at ho;have n0_ := Aside0.mk (hb);have n1_ := Aside0.mk (ho);clear HB;clear HO_5;have HB := n0_;have HO339 := n1_;clear n0_ n1_;clear ho hb hg hat))
          go_roundg k1
          case measure => have := HK1.out;omega
          case rel => exact ⟨(y337),(wrap64 (x7_1 + 1)),(wrap64 (x7_1 + 1)),(by first|rfl|(simp;done)|(simp [*];done)|(simp [YtbkeakeldegkeaaX.isEmpty_ne];done)),(by first|rfl|(simp;done)|(simp [*];done)|(simp [YtbkeakeldegkeaaX.isEmpty_ne];done)),H',⟨by have := HK1.out;omega⟩,⟨by (with_reducible repeat (first|apply Kd.R_alloc|apply Kd.R_drewN|apply Kd.R_drew));exact HO339.out⟩,⟨by repeat (first|(with_reducible first|exact HB.out|apply below_alloc|apply pw_below_drewN|apply below_drew1)|exact HB.out)⟩⟩
         rw [if_neg c17] at H
         exact absurd H (by simp)
        rw [if_neg c15] at H
        exact absurd H (by simp)
       rw [if_neg c14] at H
       exact absurd H (by simp)
      rw [if_neg c13] at H
      have c13b0 : ((bt a0 x7_1) == a1) = false := beq_eq_false_iff_ne.mpr c13
      have c13b1 : ((bt a0 x7_1) != a1) = true := bne_iff_ne.mpr c13
      have H' := Aside0.mk H
      clear H
      have p12 : 0 ≤ (x7_1 : Int) := of_decide_eq_true (by first|(with_reducible assumption)|assumption)
      have q12 : x7_1 < (a0.size : Int) := of_decide_eq_true (by first|(with_reducible assumption)|assumption)
      have hx12 := bt_at a0 x7_1
      replace p12 := eq_true p12
      replace q12 := eq_true q12
      go_wp2
      go_roundg k1
      case measure => have := HK1.out;omega
      case rel => exact ⟨(x5_1),(x6_1),(wrap64 (x7_1 + 1)),(by first|rfl|(simp;done)|(simp [*];done)|(simp [YtbkeakeldegkeaaX.isEmpty_ne];done)),(by first|rfl|(simp;done)|(simp [*];done)|(simp [YtbkeakeldegkeaaX.isEmpty_ne];done)),H',⟨by have := HK1.out;omega⟩,⟨by (with_reducible repeat (first|apply Kd.R_alloc|apply Kd.R_drewN|apply Kd.R_drew));exact HO_5.out⟩,⟨by repeat (first|(with_reducible first|exact HB.out|apply below_alloc|apply pw_below_drewN|apply below_drew1)|exact HB.out)⟩⟩
     rw [if_neg c11] at H
     exact absurd H (by simp)
    rw [if_neg c10] at H
    exact absurd H (by simp)
   rw [if_neg c3] at H
   have c3b0 : decide (x7_1 ≤ (a0.size : Int)) = false := decide_eq_false c3
   clear c3
   obtain rfl := Option.some.inj H
   go_wp2
   go_ret
   exact ⟨_,by first|rfl|(simp [errW_none,errW_some] <;> rfl)|(simp [*,errW_none,errW_some] <;> rfl),by (with_reducible repeat (first|apply Kd.R_alloc|apply Kd.R_drewN|apply Kd.R_drew));exact HO_5.out,by repeat (first|(with_reducible first|exact HB.out|apply below_alloc|apply pw_below_drewN|apply below_drew1)|exact HB.out)⟩
end Go.Proofs.Ytbkeakeldegkeaa.Q
end
section
namespace Go.Proofs.Ytbkeakeldegkeaa.Q
open Go.RowKit Go.Proofs.YtbkeakeldegkeaaW.PrintWords Go.Proofs.YtbkeakeldegkeaaW.PrintLast Go.Proofs.YtbkeakeldegkeaaW.PrintMore
attribute [local go_sem] max2_int min2_int max_two min_two max_three min_three max_four min_four
theorem eqA27 (d : Nat) (w : World) (x0 y0 : ByteArray) (x1 y1 : ByteArray) (x2 y2 : ByteArray) (x3 y3 : ByteArray) (x4 y4 : ByteArray) (x5 y5 : ByteArray) (x6 y6 : ByteArray) (x7 y7 : ByteArray) :
  (Op.equalIn (d + 2) 27 (.agg #[.string x0,.string x1,.string x2,.string x3,.string x4,.string x5,.string x6,.string x7]) (.agg #[.string y0,.string y1,.string y2,.string y3,.string y4,.string y5,.string y6,.string y7])).run Try.prog w = .ok (x0.toList == y0.toList && (x1.toList == y1.toList && (x2.toList == y2.toList && (x3.toList == y3.toList && (x4.toList == y4.toList && (x5.toList == y5.toList && (x6.toList == y6.toList && (x7.toList == y7.toList)))))))) w := by
 refine eqA_of Try.underlying27 (by kernel_rfl) ?_
 refine eqf_cons (by rfl) (by go_simp;rfl) (by go_simp;rfl) (by go_simp) ?_
 refine eqf_cons (by rfl) (by go_simp;rfl) (by go_simp;rfl) (by go_simp) ?_
 refine eqf_cons (by rfl) (by go_simp;rfl) (by go_simp;rfl) (by go_simp) ?_
 refine eqf_cons (by rfl) (by go_simp;rfl) (by go_simp;rfl) (by go_simp) ?_
 refine eqf_cons (by rfl) (by go_simp;rfl) (by go_simp;rfl) (by go_simp) ?_
 refine eqf_cons (by rfl) (by go_simp;rfl) (by go_simp;rfl) (by go_simp) ?_
 refine eqf_cons (by rfl) (by go_simp;rfl) (by go_simp;rfl) (by go_simp) ?_
 exact eqf_last (by rfl) (by go_simp;rfl) (by go_simp;rfl) (by go_simp)
end Go.Proofs.Ytbkeakeldegkeaa.Q
namespace Go.Proofs.Ytbkeakeldegkeaa.Q
open Go.RowKit Go.Proofs.YtbkeakeldegkeaaW.PrintWords Go.Proofs.YtbkeakeldegkeaaW.PrintLast Go.Proofs.YtbkeakeldegkeaaW.PrintMore
attribute [local go_sem] max2_int min2_int max_two min_two max_three min_three max_four min_four
def bytealg_LastIndexByte.l0 : Nat → List Int → Int → Int → Option (Int)
 | 0,_,_,_ => none
 | k + 1,x0,x1,x5 => if x5 ≥ 0 then (if 0 ≤ x5 then (if x5 < (x0.length : Int) then (if (rd x0 x5) = x1 then (some x5) else (bytealg_LastIndexByte.l0 k x0 x1 (wrap64 (x5 - 1)))) else (none)) else (none)) else (some (-1))
def bytealg_LastIndexByte.f (k : Nat) (l0 : List Int) (a1 : Int) : Option (Int) := bytealg_LastIndexByte.l0 k l0 a1 (wrap64 ((l0.length : Int) - 1))
set_option maxHeartbeats 8000000 in
set_option maxRecDepth 100000 in
theorem bytealg_LastIndexByte.calls (k : Nat) (A0 : Option Addr) (c0 : Nat) (l0 : List Int) (a1 : Int) (r : Int) (w : World) (hr0 : Kd.C (Kd.int .u8) w A0 l0.length l0) (hc0 : l0.length ≤ c0) (h : bytealg_LastIndexByte.f k l0 a1 = some r) :
  Calls Try.prog 91 #[.slice A0 l0.length c0,.int .u8 a1] w fun e w' => e = .returned (.int .i64 r) ∧ Drawn0 w w' := by
 have HR0 := Aside0.mk hr0
 have HC0 := Aside0.mk hc0
 clear hr0 hc0
 have H : (bytealg_LastIndexByte.l0 k l0 a1 (wrap64 ((l0.length : Int) - 1))) = some r := h
 clear h
 have H' := Aside0.mk H
 clear H
 go_enter Try.func91,Try.ntmps91
 go_wp2
 go_loopg [5] k (fun kq v5 w' => ∃ (x5_1 : Int),v5 = .int .i64 x5_1 ∧ Aside0 (bytealg_LastIndexByte.l0 kq l0 a1 x5_1 = some r) ∧ Aside0 (kq ≤ k) ∧ Drawn0 w w')
 case atStart => exact ⟨(wrap64 ((l0.length : Int) - 1)),(by first|rfl|(simp;done)|(simp [*];done)|(simp [YtbkeakeldegkeaaX.isEmpty_ne];done)),H',⟨Nat.le_refl _⟩,by repeat (first|exact Drawn0.refl _|apply Drawn0.step)⟩
 case round =>
  clear H'
  try clear p2
  obtain ⟨x5_1,rfl,HA,HK1,⟨m1,rfl⟩⟩ := hrel
  cases gk with
  | zero => exact absurd HA.out (by simp [bytealg_LastIndexByte.l0])
  | succ k1 =>
   have H := HA.out
   clear HA
   simp only [bytealg_LastIndexByte.l0] at H
   by_cases c3 : x5_1 ≥ 0
   ·
    rw [if_pos c3] at H
    have c3b0 : decide (0 ≤ x5_1) = true := decide_eq_true c3
    clear c3
    by_cases c4 : 0 ≤ x5_1
    ·
     rw [if_pos c4] at H
     have c4b0 : decide (0 ≤ x5_1) = true := decide_eq_true c4
     clear c4
     by_cases c5 : x5_1 < (l0.length : Int)
     ·
      rw [if_pos c5] at H
      have c5b0 : decide (x5_1 < (l0.length : Int)) = true := decide_eq_true c5
      clear c5
      by_cases c6 : (rd l0 x5_1) = a1
      ·
       rw [if_pos c6] at H
       have c6b0 : ((rd l0 x5_1) == a1) = true := beq_iff_eq.mpr c6
       have c6b1 : ((rd l0 x5_1) != a1) = false := bne_eq_false_iff_eq.mpr c6
       clear c6
       obtain rfl := Option.some.inj H
       have p102 : 0 ≤ (x5_1 : Int) := of_decide_eq_true (by first|(with_reducible assumption)|assumption)
       have q102 : x5_1 < (l0.length : Int) := of_decide_eq_true (by first|(with_reducible assumption)|assumption)
       obtain ⟨ad102,e102,hx102_0⟩ := Kd.at_int HR0.out x5_1 p102 q102
       cases e102
       replace p102 := eq_true p102
       replace q102 := eq_true q102
       go_wp2
       go_ret
       exact ⟨by first|rfl|(simp;done)|(simp [*];done)|(simp [YtbkeakeldegkeaaX.isEmpty_ne];done),by repeat (first|exact Drawn0.refl _|apply Drawn0.step)⟩
      rw [if_neg c6] at H
      have c6b0 : ((rd l0 x5_1) == a1) = false := beq_eq_false_iff_ne.mpr c6
      have c6b1 : ((rd l0 x5_1) != a1) = true := bne_iff_ne.mpr c6
      have H' := Aside0.mk H
      clear H
      have p102 : 0 ≤ (x5_1 : Int) := of_decide_eq_true (by first|(with_reducible assumption)|assumption)
      have q102 : x5_1 < (l0.length : Int) := of_decide_eq_true (by first|(with_reducible assumption)|assumption)
      obtain ⟨ad102,e102,hx102_0⟩ := Kd.at_int HR0.out x5_1 p102 q102
      cases e102
      replace p102 := eq_true p102
      replace q102 := eq_true q102
      go_wp2
      go_roundg k1
      case measure => have := HK1.out;omega
      case rel => exact ⟨(wrap64 (x5_1 - 1)),(by first|rfl|(simp;done)|(simp [*];done)|(simp [YtbkeakeldegkeaaX.isEmpty_ne];done)),H',⟨by have := HK1.out;omega⟩,by repeat (first|exact Drawn0.refl _|apply Drawn0.step)⟩
     rw [if_neg c5] at H
     exact absurd H (by simp)
    rw [if_neg c4] at H
    exact absurd H (by simp)
   rw [if_neg c3] at H
   have c3b0 : decide (0 ≤ x5_1) = false := decide_eq_false c3
   clear c3
   obtain rfl := Option.some.inj H
   go_wp2
   go_ret
   exact ⟨by first|rfl|(simp;done)|(simp [*];done)|(simp [YtbkeakeldegkeaaX.isEmpty_ne];done),by repeat (first|exact Drawn0.refl _|apply Drawn0.step)⟩
def bytes_LastIndexByte.f (k : Nat) (l0 : List Int) (a1 : Int) : Option (Int) := (bytealg_LastIndexByte.f k l0 a1).bind fun t103 => (some t103)
set_option maxHeartbeats 8000000 in
set_option maxRecDepth 100000 in
theorem bytes_LastIndexByte.calls (k : Nat) (A0 : Option Addr) (c0 : Nat) (l0 : List Int) (a1 : Int) (r : Int) (w : World) (hr0 : Kd.C (Kd.int .u8) w A0 l0.length l0) (hc0 : l0.length ≤ c0) (h : bytes_LastIndexByte.f k l0 a1 = some r) :
  Calls Try.prog 71 #[.slice A0 l0.length c0,.int .u8 a1] w fun e w' => e = .returned (.int .i64 r) ∧ Drawn0 w w' := by
 have HR0 := Aside0.mk hr0
 have HC0 := Aside0.mk hc0
 clear hr0 hc0
 have H : ((bytealg_LastIndexByte.f k l0 a1).bind fun t103 => (some t103)) = some r := h
 clear h
 replace H := Option.bind_eq_some_iff.mp H
 obtain ⟨t103,A30,H⟩ := H
 replace H : (some t103) = some r := H
 have A3 := Aside0.mk A30
 clear A30
 obtain rfl := Option.some.inj H
 go_enter Try.func71,Try.ntmps71
 go_wp2_with (first|((with_reducible refine gate_callee (f := 91) rfl ?_);refine goesL_ (some 7) rfl rfl Try.func91 (by kernel_rfl) rfl #[.slice A0 l0.length c0,.int .u8 a1] rfl (by (try simp only [List.map_toArray,List.map_cons,List.map_nil]);first|done|rfl|(simp only [List.length_drop,List.length_take];rfl)) ?_;(with_reducible refine (bytealg_LastIndexByte.calls k _ _ l0 a1 t103 _ ?side1 ?side2 A3.out).mono ?_);(case side1 => repeat (first|exact HR0.out|(with_reducible refine Kd.C_alloc ?_ _)|(with_reducible refine Kd.C_drewN ?_ _)|(with_reducible refine Kd.C_drew ?_)));(case side2 => exact HC0.out);rintro e w' ⟨rfl,⟨nd,rfl⟩⟩;refine ⟨_,rfl,?_⟩))
 go_ret
 exact ⟨by first|rfl|(simp;done)|(simp [*];done)|(simp [YtbkeakeldegkeaaX.isEmpty_ne];done),by repeat (first|exact Drawn0.refl _|apply Drawn0.step)⟩
def hertzproto_zzIndex.l0 : Nat → List Int → List Int → Int → Option (Int)
 | 0,_,_,_ => none
 | k + 1,x0,x1,x5 => if (wrap64 (x5 + (x1.length : Int))) ≤ (x0.length : Int) then (if 0 ≤ x5 then (if x5 ≤ (wrap64 (x5 + (x1.length : Int))) then (if (strOfNums ((x0.take ((wrap64 (x5 + (x1.length : Int))) : Int).toNat).drop (x5 : Int).toNat)).toList = (strOfNums x1).toList then (some x5) else (hertzproto_zzIndex.l0 k x0 x1 (wrap64 (x5 + 1)))) else (none)) else (none)) else (some (-1))
def hertzproto_zzIndex.f (k : Nat) (l0 : List Int) (l1 : List Int) : Option (Int) := hertzproto_zzIndex.l0 k l0 l1 0
set_option maxHeartbeats 8000000 in
set_option maxRecDepth 100000 in
theorem hertzproto_zzIndex.calls (k : Nat) (A0 : Option Addr) (c0 : Nat) (l0 : List Int) (A1 : Option Addr) (c1 : Nat) (l1 : List Int) (r : Int) (w : World) (hr0 : Kd.C (Kd.int .u8) w A0 l0.length l0) (hc0 : l0.length ≤ c0) (hr1 : Kd.C (Kd.int .u8) w A1 l1.length l1) (hc1 : l1.length ≤ c1) (h : hertzproto_zzIndex.f k l0 l1 = some r) :
  Calls Try.prog 83 #[.slice A0 l0.length c0,.slice A1 l1.length c1] w fun e w' => e = .returned (.int .i64 r) ∧ Drawn0 w w' := by
 have HR0 := Aside0.mk hr0
 have HC0 := Aside0.mk hc0
 clear hr0 hc0
 have HR1 := Aside0.mk hr1
 have HC1 := Aside0.mk hc1
 clear hr1 hc1
 have H : (hertzproto_zzIndex.l0 k l0 l1 0) = some r := h
 clear h
 have H' := Aside0.mk H
 clear H
 go_enter Try.func83,Try.ntmps83
 go_wp2
 have hw8_ := YtbkeakeldegkeaaX.wrap_u8;have hw64_ := YtbkeakeldegkeaaX.wrap_i64;repeat (go_quiet (fail);try go_wp2)
 go_loopg [5] k (fun kq v5 w' => ∃ (x5_1 : Int),v5 = .int .i64 x5_1 ∧ Aside0 (hertzproto_zzIndex.l0 kq l0 l1 x5_1 = some r) ∧ Aside0 (kq ≤ k) ∧ Drawn0 w w')
 case atStart => exact ⟨(0),(by first|rfl|(simp;done)|(simp [*];done)|(simp [YtbkeakeldegkeaaX.isEmpty_ne];done)),H',⟨Nat.le_refl _⟩,by repeat (first|exact Drawn0.refl _|apply Drawn0.step)⟩
 case round =>
  clear H'
  try clear c1
  try clear p2
  obtain ⟨x5_1,rfl,HA,HK1,⟨m1,rfl⟩⟩ := hrel
  cases gk with
  | zero => exact absurd HA.out (by simp [hertzproto_zzIndex.l0])
  | succ k1 =>
   have H := HA.out
   clear HA
   simp only [hertzproto_zzIndex.l0] at H
   by_cases c3 : (wrap64 (x5_1 + (l1.length : Int))) ≤ (l0.length : Int)
   ·
    rw [if_pos c3] at H
    have c3b0 : decide ((wrap64 (x5_1 + (l1.length : Int))) ≤ (l0.length : Int)) = true := decide_eq_true c3
    clear c3
    by_cases c4 : 0 ≤ x5_1
    ·
     rw [if_pos c4] at H
     have c4b0 := eq_true c4
     have c4b1 : decide (0 ≤ x5_1) = true := decide_eq_true c4
     clear c4
     by_cases c5 : x5_1 ≤ (wrap64 (x5_1 + (l1.length : Int)))
     ·
      rw [if_pos c5] at H
      have c5b0 := eq_true c5
      have c5b1 : decide (x5_1 ≤ (wrap64 (x5_1 + (l1.length : Int)))) = true := decide_eq_true c5
      have c6b0 := eq_true (of_decide_eq_true (by first|(with_reducible assumption)|assumption) : (wrap64 (x5_1 + (l1.length : Int))) ≤ (l0.length : Int))
      by_cases c7 : (strOfNums ((l0.take ((wrap64 (x5_1 + (l1.length : Int))) : Int).toNat).drop (x5_1 : Int).toNat)).toList = (strOfNums l1).toList
      ·
       rw [if_pos c7] at H
       have c7b0 : ((strOfNums ((l0.take ((wrap64 (x5_1 + (l1.length : Int))) : Int).toNat).drop (x5_1 : Int).toNat)).toList == (strOfNums l1).toList) = true := beq_iff_eq.mpr c7
       have c7b1 : ((strOfNums ((l0.take ((wrap64 (x5_1 + (l1.length : Int))) : Int).toNat).drop (x5_1 : Int).toNat)).toList != (strOfNums l1).toList) = false := bne_eq_false_iff_eq.mpr c7
       clear c7
       obtain rfl := Option.some.inj H
       obtain ⟨i08,hi08,_,hsz8,_⟩ := info_parts info5
       obtain ⟨A8,hcut8,hA8,hC8⟩ := print_mid_of (P := Try.prog) (Value.int .u8) 0 49 5 .i64 .i64 Try.underlying49 hi08 hsz8 A0 c0 l0 x5_1 (wrap64 (x5_1 + (l1.length : Int))) (of_decide_eq_true (by first|(with_reducible assumption)|assumption)) (by first|omega|exact of_decide_eq_true (by first|(with_reducible assumption)|assumption)) (of_decide_eq_true (by first|(with_reducible assumption)|assumption)) HC0.out
       have HR104 := Aside0.mk (Kd.C_of_reads (h1 := fun _ => rfl) (hA8 _ (Kd.reads_of_C HR0.out)))
       have HC104 := Aside0.mk hC8
       clear hA8 hC8 hi08 hsz8
       have hcv9 := YtbkeakeldegkeaaX.C_string2 (P := Try.prog) (A := A8) (c := (c0 - x5_1.toNat)) Try.underlying49 Try.underlying5 Try.underlying9 HR104.out
       first|(generalize hnq9 : List.length (List.drop _ _) = nq9 at hcut8 hcv9)|(generalize hnq9 : List.length (List.take _ _) = nq9 at hcut8 hcv9)
       have hcv10 := YtbkeakeldegkeaaX.C_string2 (P := Try.prog) (A := A1) (c := c1) Try.underlying49 Try.underlying5 Try.underlying9 HR1.out
       go_wp2
       have hw8_ := YtbkeakeldegkeaaX.wrap_u8;have hw64_ := YtbkeakeldegkeaaX.wrap_i64;repeat (go_quiet (fail);try go_wp2)
       go_ret
       exact ⟨by first|rfl|(simp;done)|(simp [*];done)|(simp [YtbkeakeldegkeaaX.isEmpty_ne];done),by repeat (first|exact Drawn0.refl _|apply Drawn0.step)⟩
      rw [if_neg c7] at H
      have c7b0 : ((strOfNums ((l0.take ((wrap64 (x5_1 + (l1.length : Int))) : Int).toNat).drop (x5_1 : Int).toNat)).toList == (strOfNums l1).toList) = false := beq_eq_false_iff_ne.mpr c7
      have c7b1 : ((strOfNums ((l0.take ((wrap64 (x5_1 + (l1.length : Int))) : Int).toNat).drop (x5_1 : Int).toNat)).toList != (strOfNums l1).toList) = true := bne_iff_ne.mpr c7
      have H' := Aside0.mk H
      clear H
      obtain ⟨i011,hi011,_,hsz11,_⟩ := info_parts info5
      obtain ⟨A11,hcut11,hA11,hC11⟩ := print_mid_of (P := Try.prog) (Value.int .u8) 0 49 5 .i64 .i64 Try.underlying49 hi011 hsz11 A0 c0 l0 x5_1 (wrap64 (x5_1 + (l1.length : Int))) (of_decide_eq_true (by first|(with_reducible assumption)|assumption)) (by first|omega|exact of_decide_eq_true (by first|(with_reducible assumption)|assumption)) (of_decide_eq_true (by first|(with_reducible assumption)|assumption)) HC0.out
      have HR104 := Aside0.mk (Kd.C_of_reads (h1 := fun _ => rfl) (hA11 _ (Kd.reads_of_C HR0.out)))
      have HC104 := Aside0.mk hC11
      clear hA11 hC11 hi011 hsz11
      have hcv12 := YtbkeakeldegkeaaX.C_string2 (P := Try.prog) (A := A11) (c := (c0 - x5_1.toNat)) Try.underlying49 Try.underlying5 Try.underlying9 HR104.out
      first|(generalize hnq12 : List.length (List.drop _ _) = nq12 at hcut11 hcv12)|(generalize hnq12 : List.length (List.take _ _) = nq12 at hcut11 hcv12)
      have hcv13 := YtbkeakeldegkeaaX.C_string2 (P := Try.prog) (A := A1) (c := c1) Try.underlying49 Try.underlying5 Try.underlying9 HR1.out
      go_wp2
      have hw8_ := YtbkeakeldegkeaaX.wrap_u8;have hw64_ := YtbkeakeldegkeaaX.wrap_i64;repeat (go_quiet (fail);try go_wp2)
      go_roundg k1
      case measure => have := HK1.out;omega
      case rel => exact ⟨(wrap64 (x5_1 + 1)),(by first|rfl|(simp;done)|(simp [*];done)|(simp [YtbkeakeldegkeaaX.isEmpty_ne];done)),H',⟨by have := HK1.out;omega⟩,by repeat (first|exact Drawn0.refl _|apply Drawn0.step)⟩
     rw [if_neg c5] at H
     exact absurd H (by simp)
    rw [if_neg c4] at H
    exact absurd H (by simp)
   rw [if_neg c3] at H
   have c3b0 : decide ((wrap64 (x5_1 + (l1.length : Int))) ≤ (l0.length : Int)) = false := decide_eq_false c3
   clear c3
   obtain rfl := Option.some.inj H
   go_wp2
   have hw8_ := YtbkeakeldegkeaaX.wrap_u8;have hw64_ := YtbkeakeldegkeaaX.wrap_i64;repeat (go_quiet (fail);try go_wp2)
   go_ret
   exact ⟨by first|rfl|(simp;done)|(simp [*];done)|(simp [YtbkeakeldegkeaaX.isEmpty_ne];done),by repeat (first|exact Drawn0.refl _|apply Drawn0.step)⟩
end Go.Proofs.Ytbkeakeldegkeaa.Q
end
section
namespace Go.Proofs.Ytbkeakeldegkeaa.Q
open Go.RowKit Go.Proofs.YtbkeakeldegkeaaW.PrintWords Go.Proofs.YtbkeakeldegkeaaW.PrintLast Go.Proofs.YtbkeakeldegkeaaW.PrintMore
structure BR (w : World) (g : Nat) (e : TypeId) (l : List UInt8) : Prop where
 out : ∃ C lo hi,w.heap[g]? = some (.cells C e (lo,hi)) ∧ l.length ≤ C.size ∧ (l.length ≤ lo ∨ hi = 0) ∧ ∀ j (h : j < l.length),C[j]? = some (.int .u8 (l[j].toNat : Int))
theorem BR.cell {w : World} {g : Nat} {e : TypeId} {l : List UInt8} (h : BR w g e l) (j : Nat) (hj : j < l.length) : w.cell? ⟨g,j,none⟩ = some (.int .u8 (l[j].toNat : Int)) := by
 obtain ⟨C,lo,hi,hg,_,_,hc⟩ := h.out
 unfold World.cell?
 rw [hg]
 simpa using hc j hj
theorem BR.frozen {w : World} {g : Nat} {e : TypeId} {l : List UInt8} (h : BR w g e l) (j : Nat) (hj : j < l.length) : w.frozen? ⟨g,j,none⟩ = false := by
 obtain ⟨C,lo,hi,hg,_,hf,_⟩ := h.out
 unfold World.frozen?
 rw [hg]
 show (decide (lo ≤ j) && decide (j < hi)) = false
 rcases hf with hf|hf
 ·
  rw [decide_eq_false (by omega)];rfl
 rw [hf,Bool.and_eq_false_iff];right;exact decide_eq_false (by omega)
theorem BR.put {w : World} {g : Nat} {e : TypeId} {l : List UInt8} (h : BR w g e l) (k : Nat) (hk : k < l.length) (b : UInt8) : BR (w.setCell ⟨g,k,none⟩ (.int .u8 (b.toNat : Int))) g e (l.set k b) := by
 obtain ⟨C,lo,hi,hg,hs,hf,hc⟩ := h.out
 have hgl := (Array.getElem?_eq_some_iff.1 hg).1
 refine ⟨C.setIfInBounds k (.int .u8 (b.toNat : Int)),lo,hi,?_,by simpa using hs,by simpa using hf,fun j hj => ?_⟩
 ·
  have := (Array.getElem?_eq_some_iff.1 hg).2
  simp only [World.setCell,Array.getElem?_modify,if_pos,hg,Option.map_some]
  simp
 have hjl : j < l.length := by simpa using hj
 rw [Array.getElem?_setIfInBounds,List.getElem_set]
 by_cases e1 : k = j
 ·
  subst e1
  rw [if_pos rfl,if_pos (by omega),if_pos rfl]
 rw [if_neg e1,if_neg e1]
 exact hc j hjl
theorem BR.heap {w w' : World} {g : Nat} {e : TypeId} {l : List UInt8} (h : BR w g e l) (hh : w'.heap[g]? = w.heap[g]?) : BR w' g e l := by
 obtain ⟨C,lo,hi,hg,r⟩ := h.out
 exact ⟨C,lo,hi,hh.trans hg,r⟩
theorem BR.drewN {w : World} {g : Nat} {e : TypeId} {l : List UInt8} (h : BR w g e l) (m : Nat) : BR (w.drewN m) g e l := h.heap rfl
theorem BR.lt {w : World} {g : Nat} {e : TypeId} {l : List UInt8} (h : BR w g e l) : g < w.heap.size := by
 obtain ⟨C,lo,hi,hg,r⟩ := h.out
 exact (Array.getElem?_eq_some_iff.1 hg).1
theorem BR.below {w w' : World} {g : Nat} {e : TypeId} {l : List UInt8} (h : BR w g e l) (hb : Below w.heap.size w w') : BR w' g e l := h.heap (hb.block g h.lt)
theorem BR.conv (w : World) (e : TypeId) (s : ByteArray) : BR (Lib.bytesWorld w e s) w.heap.size e s.data.toList := by
 refine ⟨_,_,_,Lib.bytesWorld_at_new w e s,?_,.inl ?_,fun j hj => ?_⟩
 ·
  simp [Lib.bytesCells]
 ·
  simp [Lib.bytesCells]
 have hj' : j < s.data.size := by simpa using hj
 have hsz : (s.data.map fun b => Value.int .u8 b.toNat).size = s.data.size := Array.size_map ..
 unfold Lib.bytesCells
 rw [Array.getElem?_append,if_pos (by rw [hsz];exact hj'),Array.getElem?_map,Array.getElem?_eq_getElem hj']
 simp
theorem conv_BR {P : Program} (src dst e : TypeId) (hs : P.underlying src = some .string) (hd : P.underlying dst = some (.slice e)) (he : P.underlying e = some (.int .u8)) (s : ByteArray) (w : World) :
  YtbkeakeldegkeaaX.ConvCalls P src dst s w fun en w' => ∃ c,en = .returned (.slice (some ⟨w.heap.size,0,none⟩) s.size c) ∧ BR w' w.heap.size e s.data.toList ∧ Below w.heap.size w w' := by
 refine ⟨_,_,Lib.run_convert_string_bytes w src dst e s hs hd he,_,rfl,BR.conv w e s,?_⟩
 exact ⟨rfl,rfl,rfl,by rw [Lib.bytesWorld_size];omega,fun k hk => Lib.bytesWorld_at_old w e s k hk⟩
theorem conv_BR2 {P : Program} (src dst e : TypeId) (hs : P.underlying src = some .string) (hd : P.underlying dst = some (.slice e)) (he : P.underlying e = some (.int .u8)) (s : ByteArray) (w : World) :
  YtbkeakeldegkeaaX.ConvCalls P src dst s w fun en w' => ∃ c,en = .returned (.slice (some ⟨w.heap.size,0,none⟩) s.size c) ∧ s.size ≤ c ∧ BR w' w.heap.size e s.data.toList ∧ Below w.heap.size w w' := by
 refine ⟨_,_,Lib.run_convert_string_bytes w src dst e s hs hd he,_,rfl,grownCap_ge _ _ _ _,BR.conv w e s,?_⟩
 exact ⟨rfl,rfl,rfl,by rw [Lib.bytesWorld_size];omega,fun k hk => Lib.bytesWorld_at_old w e s k hk⟩
theorem BR.back {P : Program} {w : World} {g : Nat} {e : TypeId} {l : List UInt8} (h : BR w g e l) (src dst : TypeId) (cap : Nat) (hs : P.underlying src = some (.slice e)) (he : P.underlying e = some (.int .u8)) (hd : P.underlying dst = some .string) :
  (convert src dst (.slice (some ⟨g,0,none⟩) l.length cap)).run P w = .ok (.string ⟨l.toArray⟩) w := by
 refine run_convert_bytes_back w src dst e ⟨g,0,none⟩ cap l hs he hd fun j hj => ?_
 rw [show (⟨g,0,none⟩ : Addr).add j = ⟨g,j,none⟩ by unfold Addr.add;by_cases hj0 : j = 0 <;> simp [hj0]]
 exact h.cell j hj
theorem BR.alloc {w : World} {e : TypeId} {n : Nat} : BR (w.alloc (.cells (madeCells #[.int .u8 0] n) e)) w.heap.size e (List.replicate n 0) := by
 refine ⟨_,0,0,heap_alloc_new w _,by simp [size_madeCells],.inr rfl,fun j hj => ?_⟩
 have hjn : j < n := by simpa using hj
 rw [← Array.getElem?_toList,toList_madeCells_one,List.getElem?_replicate,if_pos hjn]
 simp
theorem BR.copied {g : Nat} {e : TypeId} : ∀ (t old pre : List UInt8) (w : World),BR w g e (pre ++ old) → old.length = t.length → BR (w.setCells g pre.length (t.map fun x => Value.int .u8 (x.toNat : Int))) g e (pre ++ t)
 | [],[],pre,w,h,_ => h
 | x :: t,y :: old,pre,w,h,hl => by
  have h1 := h.put pre.length (by simp) x
  rw [show (pre ++ y :: old).set pre.length x = (pre ++ [x]) ++ old by simp] at h1
  have h2 := BR.copied t old (pre ++ [x]) _ h1 (by simpa using hl)
  rw [show (pre ++ [x]) ++ t = pre ++ x :: t by simp,show (pre ++ [x]).length = pre.length + 1 by simp] at h2
  exact h2
 | [],_ :: _,_,_,_,hl => by simp at hl
 | _ :: _,[],_,_,_,hl => by simp at hl
section
variable {P : Program} {ops : Array Oper} {rest : List Oper} {o : Oper} {a : Act} {Q : Exit → Act → World → Prop} {W : World}
end
end Go.Proofs.Ytbkeakeldegkeaa.Q
end
section
namespace Go.Proofs.YtbkeakeldegkeaaKit
open Go.RowKit Go.Proofs.YtbkeakeldegkeaaW.PrintWords Go.Proofs.YtbkeakeldegkeaaW.PrintLast
abbrev L (s : ByteArray) : List UInt8 := s.data.toList
theorem toList_loop (s : ByteArray) : ∀ (d i : Nat) (r : List UInt8),s.size - i = d → ByteArray.toList.loop s i r = r.reverse ++ (L s).drop i := by
 intro d
 induction d with
 | zero =>
  intro i r h
  rw [ByteArray.toList.loop]
  rw [if_neg (by omega),List.drop_eq_nil_of_le (by rw [data_length];omega),List.append_nil]
 | succ d ih =>
  intro i r h
  rw [ByteArray.toList.loop,if_pos (by omega),ih (i + 1) _ (by omega)]
  have hi : i < (L s).length := by rw [data_length];omega
  rw [List.drop_eq_getElem_cons hi,List.reverse_cons,List.append_assoc]
  congr 1
  simp only [List.singleton_append,List.cons.injEq,and_true]
  have hi2 : i < s.data.size := by rw [← Array.length_toList];exact hi
  show s.data[i]! = _
  rw [getElem!_pos s.data i hi2]
  exact (Array.getElem_toList hi2).symm
theorem tl (s : ByteArray) : s.toList = L s := by
 unfold ByteArray.toList
 rw [toList_loop s _ 0 [] rfl]
 simp
theorem ext {a b : ByteArray} (h : L a = L b) : a = b := by
 cases a;cases b
 simp only [L] at h
 rw [Array.ext' h]
theorem size_L (s : ByteArray) : s.size = (L s).length := (data_length s).symm
theorem L_append (a b : ByteArray) : L (a ++ b) = L a ++ L b := ByteArray.toList_data_append
theorem L_extract (a : ByteArray) (i j : Nat) : L (a.extract i j) = ((L a).drop i).take (j - i) := by
 simp only [L,ByteArray.data_extract,Array.toList_extract,List.extract_eq_take_drop]
theorem size_append (a b : ByteArray) : (a ++ b).size = a.size + b.size := by rw [size_L,L_append,List.length_append,← size_L,← size_L]
theorem wrap_id {x : Int} (h0 : -9223372036854775808 ≤ x) (h : x ≤ 9223372036854775807) : wrap64 x = x := by unfold wrap64;omega
theorem wrap_succ {n m : Nat} (h : n < m) (hm : m ≤ 9223372036854775807) : wrap64 ((n : Int) + 1) = ((n + 1 : Nat) : Int) := by
 rw [wrap_id (by omega) (by omega)];omega
theorem bt_nat (s : ByteArray) (n : Nat) (h : n < (L s).length) : bt s (n : Int) = ((L s)[n].toNat : Int) := by
 unfold bt
 have h2 : (n : Int).toNat < s.size := by rw [size_L];omega
 rw [dif_pos h2]
 rfl
section
variable {s : ByteArray} {pre t : List UInt8} {c : UInt8}
theorem sz_mid (h : L s = pre ++ c :: t) : (pre.length : Int) < (s.size : Int) := by rw [size_L,h];simp;omega
theorem nz_mid (h : L s = pre ++ c :: t) : pre.length < s.size := by rw [size_L,h];simp
theorem sz_not (h : L s = pre ++ []) : ¬ (pre.length : Int) < (s.size : Int) := by rw [size_L,h];simp
theorem bt_mid (h : L s = pre ++ c :: t) : bt s (pre.length : Int) = (c.toNat : Int) := by
 have hl : pre.length < (L s).length := by rw [h];simp
 rw [bt_nat s _ hl]
 congr 2
 simp [h]
theorem wrap_mid (h : L s = pre ++ c :: t) (hs : s.size ≤ 140737488351232) : wrap64 ((pre.length : Int) + 1) = ((pre ++ [c]).length : Int) := by
 rw [wrap_succ (nz_mid h) (by omega)];simp
theorem mid_next (h : L s = pre ++ c :: t) : L s = (pre ++ [c]) ++ t := by rw [h];simp
end
section
variable {α : Type} {xs pre t : List α} {x : α}
theorem ln_mid (h : xs = pre ++ x :: t) : (pre.length : Int) < (xs.length : Int) := by rw [h];simp;omega
theorem ln_nat (h : xs = pre ++ x :: t) : pre.length < xs.length := by rw [h];simp
theorem ln_not (h : xs = pre ++ []) : ¬ (pre.length : Int) < (xs.length : Int) := by rw [h];simp
theorem get_mid (h : xs = pre ++ x :: t) (z : α) : xs.getD (pre.length : Int).toNat z = x := by rw [h];simp
theorem wrap_lmid (h : xs = pre ++ x :: t) (hs : xs.length ≤ 9223372036854775807) : wrap64 ((pre.length : Int) + 1) = ((pre ++ [x]).length : Int) := by
 rw [wrap_succ (ln_nat h) hs];simp
theorem lmid_next (h : xs = pre ++ x :: t) : xs = (pre ++ [x]) ++ t := by rw [h];simp
end
section
variable {α β : Type}
theorem Ev.pos {c : Prop} [Decidable c] {f g : Nat → Option α} {r : α} (h : c) (k : Ev f r) : Ev (fun n => if c then f n else g n) r := by
 simp only [if_pos h];exact k
theorem Ev.neg {c : Prop} [Decidable c] {f g : Nat → Option α} {r : α} (h : ¬ c) (k : Ev g r) : Ev (fun n => if c then f n else g n) r := by
 simp only [if_neg h];exact k
theorem Ev.some {a : Option α} {r : α} (h : a = Option.some r) : Ev (fun _ => a) r := ⟨0,fun _ _ => h⟩
theorem Ev.call {g : Nat → Option α} {f : Nat → α → Option β} {a : α} {r : β} (h : Ev g a) (k : Ev (fun n => f n a) r) : Ev (fun n => (g n).bind fun x => f n x) r := Ev.bind h k
theorem Ev.same {g : Nat → Option α} {r q : α} (h : Ev g r) (e : r = q) : Ev g q := e ▸ h
end
end Go.Proofs.YtbkeakeldegkeaaKit
end
section
namespace Go.Proofs.Ytbkeakeldegkeaa.SpA
open Go.RowKit Go.Proofs.YtbkeakeldegkeaaW.PrintWords Go.Proofs.YtbkeakeldegkeaaW.PrintLast Go.Proofs.YtbkeakeldegkeaaKit
def toI (l : List UInt8) : List Int := l.map fun c => (c.toNat : Int)
theorem toI_length (l : List UInt8) : (toI l).length = l.length := by simp [toI]
theorem toI_append (a b : List UInt8) : toI (a ++ b) = toI a ++ toI b := by simp [toI]
theorem L_strOf (l : List UInt8) : L (strOfNums (toI l)) = l := by
 unfold strOfNums toI
 simp [L,List.map_map,Function.comp_def]
theorem rd_mid {xs pre t : List UInt8} {c : UInt8} (h : xs = pre ++ c :: t) : rd (toI xs) (pre.length : Int) = (c.toNat : Int) := by
 unfold rd
 rw [h,toI_append,Int.toNat_natCast,List.getD_eq_getElem?_getD,List.getElem?_append_right (by rw [toI_length];exact Nat.le_refl _),toI_length,Nat.sub_self]
 rfl
end Go.Proofs.Ytbkeakeldegkeaa.SpA
end
section
namespace Go.Proofs.Ytbkeakeldegkeaa.Ob
open Go.RowKit Go.Proofs.YtbkeakeldegkeaaW.PrintWords Go.Proofs.YtbkeakeldegkeaaW.PrintLast Go.Proofs.YtbkeakeldegkeaaW.PrintMore
open Go.Proofs.Ytbkeakeldegkeaa.SpA (toI toI_length toI_append)
open Go.Proofs.Ytbkeakeldegkeaa.Q (BR)
structure Only (S : Nat → Prop) (w w' : World) : Prop where
 os : w'.os = w.os
 tape : w'.tape = w.tape
 output : w'.output = w.output
 size : w.heap.size ≤ w'.heap.size
 block : ∀ k,k < w.heap.size → ¬ S k → w'.heap[k]? = w.heap[k]?
section
variable {S T : Nat → Prop} {a b c w : World}
theorem Only.refl (S : Nat → Prop) (w : World) : Only S w w := ⟨rfl,rfl,rfl,Nat.le_refl _,fun _ _ _ => rfl⟩
theorem Only.trans (h : Only S a b) (k : Only T b c) (hs : ∀ i,i < a.heap.size → T i → S i) : Only S a c := ⟨k.os.trans h.os,k.tape.trans h.tape,k.output.trans h.output,Nat.le_trans h.size k.size,fun i hi hn => (k.block i (Nat.lt_of_lt_of_le hi h.size) (fun e => hn (hs i hi e))).trans (h.block i hi hn)⟩
theorem Only.mono (h : Only S a b) (hs : ∀ k,k < a.heap.size → S k → T k) : Only T a b := ⟨h.os,h.tape,h.output,h.size,fun k hk hn => h.block k hk (fun e => hn (hs k hk e))⟩
theorem Only.drewN (h : Only S a w) (m : Nat) : Only S a (w.drewN m) := ⟨h.os,h.tape,h.output,h.size,h.block⟩
theorem Only.set (h : Only S a w) {g : Nat} (hg : S g ∨ a.heap.size ≤ g) (j : Nat) (u : Value) : Only S a (w.setCell ⟨g,j,none⟩ u) :=
 ⟨h.os,h.tape,h.output,by simpa [World.setCell] using h.size,fun k hk hn => by
  rw [Below.heap_setCell _ _ _ _ (show k ≠ g from fun e => hg.elim (fun hs => hn (e ▸ hs)) (fun hl => by omega))]
  exact h.block k hk hn⟩
theorem Only.alloc (h : Only S a w) (o : Obj) : Only S a (w.alloc o) :=
 ⟨h.os,h.tape,h.output,by have := h.size;simp;omega,fun k hk hn => by
  rw [Below.heap_alloc _ _ _ (Nat.lt_of_lt_of_le hk h.size)]
  exact h.block k hk hn⟩
theorem Only.of_below (h : Below a.heap.size a w) : Only S a w := ⟨h.os,h.tape,h.output,h.size,fun k hk _ => h.block k hk⟩
theorem Only.below (h : Only S a w) {B : Nat} (hB : ∀ k,S k → B ≤ k) (hs : B ≤ a.heap.size) : Below B a w := ⟨h.os,h.tape,h.output,h.size,fun k hk => h.block k (by omega) (fun e => by have := hB k e;omega)⟩
theorem Only.of_grown {row : Option Nat} (hg : a.grownBy b row) : Only (fun j => row = some j) a b := ⟨hg.os,hg.tape,hg.output,hg.size,fun k hk hn => hg.block k hk (fun e => hn e.symm)⟩
end
def BV (W : World) (v : Value) (l : List UInt8) : Prop := W.ownsRow 0 5 1 v l.length (encs (Value.int .u8) (toI l))
theorem enc_len (l : List UInt8) : (encs (Value.int .u8) (toI l)).length = l.length := by rw [encs_length,toI_length]
section
variable {W W' : World} {v : Value} {l : List UInt8}
theorem BV.nil (W : World) : BV W (.slice none 0 0) [] := ⟨rfl,.inl ⟨rfl,rfl⟩⟩
theorem BV.R (h : BV W v l) : Kd.R (Kd.int .u8) 5 W 0 (fun _ => True) v (toI l) := Kd.R_of_own (xs := toI l) (by unfold BV at h;rwa [toI_length]) (fun _ _ => trivial)
theorem BV.of_R {base : Nat} {ok : Nat → Prop} (h : Kd.R (Kd.int .u8) 5 W base ok v (toI l)) : BV W v l := by
 obtain ⟨h1,h2⟩ := Kd.own_of_R h
 rw [toI_length] at h1 h2
 refine ⟨h1,h2.imp id ?_⟩
 rintro ⟨g,cap,cur,e,_,r⟩
 exact ⟨g,cap,cur,e,Nat.zero_le _,r⟩
theorem BV.move (h : BV W v l) (hm : ∀ k,v.ownBlock = some k → W'.heap[k]? = W.heap[k]?) : BV W' v l := by
 refine ⟨h.1,h.2.imp id ?_⟩
 rintro ⟨g,cap,cur,e,hb,hg,r⟩
 exact ⟨g,cap,cur,e,hb,(hm g (by rw [e];rfl)).trans hg,r⟩
theorem BV.lt (h : BV W v l) : ∀ k,v.ownBlock = some k → k < W.heap.size := by
 rcases h.2 with ⟨rfl,_⟩|⟨g,cap,cur,rfl,_,hg,_⟩
 ·
  intro k hk;cases hk
 intro k hk
 have : g = k := by simpa [Value.ownBlock] using hk
 subst this
 exact (Array.getElem?_eq_some_iff.1 hg).1
theorem BV.type (h : BV W v l) {k : Nat} (hk : v.ownBlock = some k) : ∃ C,W.heap[k]? = some (.cells C 5 (0,0)) := by
 rcases h.2 with ⟨rfl,_⟩|⟨g,cap,cur,rfl,_,hg,_⟩
 ·
  cases hk
 have : g = k := by simpa [Value.ownBlock] using hk
 subst this
 exact ⟨_,hg⟩
theorem BV.slice (h : BV W v l) : ∃ A c,v = .slice A l.length c ∧ l.length ≤ c ∧ (∀ a,A = some a → a.off = 0 ∧ a = ⟨a.block,0,none⟩) := by
 rcases h.2 with ⟨e,hn⟩|⟨g,cap,cur,e,_,hg,hc,_⟩
 ·
  exact ⟨none,0,by rw [e,hn],by omega,fun a ha => by cases ha⟩
 exact ⟨_,_,e,hc,fun a ha => by cases ha;exact ⟨rfl,rfl⟩⟩
theorem BV.form (h : BV W v l) : ∃ A n c,v = .slice A n c := by
 obtain ⟨A,c,e,_⟩ := h.slice
 exact ⟨A,_,c,e⟩
theorem BV.C {A : Option Addr} {n c : Nat} (h : BV W (.slice A n c) l) : Kd.C (Kd.int .u8) W A n (toI l) := by
 obtain ⟨hn,_,hc⟩ := Kd.R_reads' h.R
 rw [hn];exact hc
theorem BV.cap {A : Option Addr} {n c : Nat} (h : BV W (.slice A n c) l) : n = l.length ∧ n ≤ c := by
 obtain ⟨hn,hc,_⟩ := Kd.R_reads' h.R
 exact ⟨by rw [hn,toI_length],hc⟩
theorem BV.cut0 {A : Option Addr} {n c : Nat} (h : BV W (.slice A n c) l) : BV W (.slice A 0 c) [] := by
 rcases h.2 with ⟨e,hn⟩|⟨g,cap,cur,e,hb,hg,hc,hm,hs,ht⟩
 ·
  cases e
  exact BV.nil W
 cases e
 exact ⟨rfl,.inr ⟨g,c,cur,rfl,hb,hg,Nat.zero_le _,hm,hs,rfl⟩⟩
theorem BV.BR {g n c : Nat} (h : BV W (.slice (some ⟨g,0,none⟩) n c) l) : BR W g 5 l := by
 rcases h.2 with ⟨e,hn⟩|⟨g',cap,cur,e,hb,hg,hc,hm,hs,ht⟩
 ·
  cases e
 cases e
 refine ⟨cur,0,0,hg,by omega,.inr rfl,fun j hj => ?_⟩
 have hj2 : j < cur.toList.length := by simp;omega
 have h1 : (cur.toList.take (l.length * 1))[j]? = (encs (Value.int .u8) (toI l))[j]? := by rw [ht]
 rw [List.getElem?_take,if_pos (by omega)] at h1
 rw [← Array.getElem?_toList,h1]
 simp [encs,toI,hj]
end
def RV (W : World) (v : Value) (l : List UInt8) : Prop := (v = .slice none 0 0 ∧ l = []) ∨ ∃ g c,v = .slice (some ⟨g,0,none⟩) l.length c ∧ l.length ≤ c ∧ Go.Proofs.Ytbkeakeldegkeaa.Q.BR W g 5 l
def RW (b : Bool) (W : World) (v : Value) (l : List UInt8) : Prop := if b = true then BV W v l else RV W v l ∧ l.length ≤ 4611686018427387904
section
variable {W W' : World} {v : Value} {l : List UInt8} {b : Bool}
theorem RW.bv (h : RW true W v l) : BV W v l := h
theorem BV.rw (h : BV W v l) : RW true W v l := h
theorem RW.move (h : RW b W v l) (hm : ∀ k,v.ownBlock = some k → W'.heap[k]? = W.heap[k]?) : RW b W' v l := by
 cases b
 ·
  refine ⟨h.1.imp id ?_,h.2⟩
  rintro ⟨g,c,e,hc,hb⟩
  exact ⟨g,c,e,hc,hb.heap (hm g (by rw [e];rfl))⟩
 exact BV.move h hm
theorem RW.lt (h : RW b W v l) : ∀ k,v.ownBlock = some k → k < W.heap.size := by
 cases b
 ·
  rcases h.1 with ⟨rfl,_⟩|⟨g,c,rfl,hc,hb⟩
  ·
   intro k hk;cases hk
  intro k hk
  have : g = k := by simpa [Value.ownBlock] using hk
  subst this
  exact hb.lt
 exact BV.lt h
theorem RW.type (h : RW b W v l) {k : Nat} (hk : v.ownBlock = some k) : ∃ C f,W.heap[k]? = some (.cells C 5 f) := by
 cases b
 ·
  rcases h.1 with ⟨rfl,_⟩|⟨g,c,rfl,hc,hb⟩
  ·
   cases hk
  have : g = k := by simpa [Value.ownBlock] using hk
  subst this
  obtain ⟨C,lo,hi,hg,_⟩ := hb.out
  exact ⟨C,_,hg⟩
 obtain ⟨C,hC⟩ := BV.type h hk
 exact ⟨C,_,hC⟩
theorem RW.slice (h : RW b W v l) : ∃ A c,v = .slice A l.length c ∧ l.length ≤ c ∧ (∀ a,A = some a → a = ⟨a.block,0,none⟩) := by
 cases b
 ·
  rcases h.1 with ⟨rfl,rfl⟩|⟨g,c,rfl,hc,hb⟩
  ·
   exact ⟨none,0,rfl,Nat.le_refl _,fun a ha => by cases ha⟩
  exact ⟨_,c,rfl,hc,fun a ha => by cases ha;rfl⟩
 obtain ⟨A,c,e,hc,ha⟩ := BV.slice h
 exact ⟨A,c,e,hc,fun a h => (ha a h).2⟩
theorem RW.C {A : Option Addr} {n c : Nat} (h : RW b W (.slice A n c) l) : Kd.C (Kd.int .u8) W A n (toI l) := by
 cases b
 ·
  rcases h.1 with ⟨e,rfl⟩|⟨g,c,e,hc,hb⟩
  ·
   cases e
   exact (BV.nil W).C
  cases e
  have hl := h.2
  refine Kd.C_of_reads (enc := Value.int .u8) (d := (0 : Int)) (h1 := fun _ => rfl) ⟨by rw [toI_length],by omega,fun _ => ⟨_,rfl,fun j hj => ?_⟩⟩
  rw [show (Addr.add ⟨g,0,none⟩ j : Addr) = ⟨g,j,none⟩ by unfold Addr.add;by_cases hj0 : j = 0 <;> simp [hj0]]
  rw [hb.cell j hj]
  simp [toI,hj]
 exact BV.C h
theorem RW.cap {A : Option Addr} {n c : Nat} (h : RW b W (.slice A n c) l) : n = l.length ∧ n ≤ c := by
 obtain ⟨A',c',e,hc,_⟩ := h.slice
 cases e
 exact ⟨rfl,hc⟩
end
section
variable {P : Program} {ops : Array Oper} {rest : List Oper} {o : Oper} {a : Act} {Q : Exit → Act → World → Prop} {W : World}
theorem app_BV (hgd : o.guard = none) (s x : Operand) (t : TypeId) (ho : o.op = .call { callee := .builtin .append,args := #[s,x],argTypes := #[t,t] })
  (ht : P.underlying t = some (.slice 5)) (hinfo : (P.info? 5).map (fun i => (i.zero,i.size,i.bytes)) = some (some (.int .u8 0),1,1))
  (v : Value) (l m : List UInt8) (A : Option Addr) (n c : Nat) (hs : a.eval s = v) (hx : a.eval x = .slice A n c) (hv : BV W v l) (hm : Kd.C (Kd.int .u8) W A n (toI m)) (hl : l.length + m.length ≤ 140737488355328)
  (h : ∀ v1 W1,BV W1 v1 (l ++ m) → Only (fun j => v.ownBlock = some j) W W1 → (v1.ownBlock = v.ownBlock ∨ ∃ b,v1.ownBlock = some b ∧ W.heap.size ≤ b) → wpList P ops Q rest (a.put o.dst v1) W1) : wpList P ops Q (o :: rest) a W := by
 have hn : n = m.length := by have := hm.1;rw [toI_length] at this;exact this.symm
 refine Kd.R_append_rows (Kd.int .u8) (w0 := W) 0 hgd s x t 5 (.int .u8 0) 1 ho ht hinfo rfl (by decide) (by omega) v (toI l) (toI m) A n c (fun _ => True) (fun _ => False) hs hx hv.R hm (fun _ _ h => h) (fun _ h => h.elim) (fun _ _ => trivial) (Below.refl _ _) (Nat.zero_le _) (by rw [toI_length,hn];omega) ?_
 intro v1 w1 hr _ hg hat
 refine h v1 w1 (BV.of_R (by rw [toI_append];exact hr)) (Only.of_grown hg) hat
theorem cut0_run {P : Program} {t e : TypeId} {i : TypeInfo} (ht : P.underlying t = some (.slice e)) (hi : P.info? e = some i) (A : Option Addr) (m c n : Nat) (x : Int) (hx : x = (n : Int)) (hn : n ≤ c) :
  ∀ W : World,(Instr.slice t (.slice A m c) none (some (.int .i64 x)) none).run P W = .ok (.slice A n c) W := by
 intro W
 have hel : P.elem t = e := by simp [Program.elem,ht]
 have hu : P.underlying t = some (.slice (P.elem t)) := by rw [hel];exact ht
 have ha : (A.map fun x => x.add 0) = A := by cases A <;> simp [Addr.add]
 rw [run_slice_h W t A m c hu .i64 x (by omega) (by omega),hel]
 simp [sizeOf,typeInfo,hi,sliced,Result.andThen,ha,hx]
end
theorem lit_C {W : World} {g : Nat} (m : List UInt8) (C : Array Value) (hC : C.toList = encs (Value.int .u8) (toI m)) (hg : W.heap[g]? = some (.cells C 5 (0,0))) (hm : m.length ≤ 4611686018427387904) : Kd.C (Kd.int .u8) W (some ⟨g,0,none⟩) m.length (toI m) := by
 refine Kd.C_of_reads (enc := Value.int .u8) (d := (0 : Int)) (h1 := fun _ => rfl) ⟨by rw [toI_length],by omega,fun _ => ⟨_,rfl,fun j hj => ?_⟩⟩
 rw [show (Addr.add ⟨g,0,none⟩ j : Addr) = ⟨g,j,none⟩ by unfold Addr.add;by_cases hj0 : j = 0 <;> simp [hj0]]
 unfold World.cell?
 rw [hg]
 show C[j]? = _
 rw [← Array.getElem?_toList,hC]
 simp [encs,toI,hj]
theorem BR.C {W : World} {g : Nat} {m : List UInt8} (h : Go.Proofs.Ytbkeakeldegkeaa.Q.BR W g 5 m) (hm : m.length ≤ 4611686018427387904) : Kd.C (Kd.int .u8) W (some ⟨g,0,none⟩) m.length (toI m) := by
 refine Kd.C_of_reads (enc := Value.int .u8) (d := (0 : Int)) (h1 := fun _ => rfl) ⟨by rw [toI_length],by omega,fun _ => ⟨_,rfl,fun j hj => ?_⟩⟩
 rw [show (Addr.add ⟨g,0,none⟩ j : Addr) = ⟨g,j,none⟩ by unfold Addr.add;by_cases hj0 : j = 0 <;> simp [hj0]]
 have := Go.Proofs.Ytbkeakeldegkeaa.Q.BR.cell h j hj
 rw [this]
 simp [toI,hj]
structure OBJ (W : World) (g : Nat) (T : TypeId) (vals : List Value) (rows : List (Option (Bool × List UInt8))) : Prop where
 heap : W.heap[g]? = some (.cells vals.toArray T (0,0))
 row : ∀ (i : Nat) (b : Bool) (l : List UInt8),rows[i]? = some (some (b,l)) → ∃ v,vals[i]? = some v ∧ RW b W v l
 sep : ∀ (i j : Nat) (l m : Bool × List UInt8) v u k,rows[i]? = some (some l) → rows[j]? = some (some m) → i ≠ j → vals[i]? = some v → vals[j]? = some u → v.ownBlock = some k → u.ownBlock ≠ some k
def Apart (g : Nat) (vals : List Value) (rows : List (Option (Bool × List UInt8))) (v : Value) : Prop := (v.ownBlock ≠ some g) ∧ ∀ (i : Nat) l u k,rows[i]? = some (some l) → vals[i]? = some u → v.ownBlock = some k → u.ownBlock ≠ some k
section
variable {W W' : World} {g : Nat} {T : TypeId} {vals : List Value} {rows : List (Option (Bool × List UInt8))}
theorem OBJ.lt (h : OBJ W g T vals rows) : g < W.heap.size := (Array.getElem?_eq_some_iff.1 h.heap).1
theorem OBJ.move (h : OBJ W g T vals rows) (hg : W'.heap[g]? = W.heap[g]?) (hm : ∀ (i : Nat) l v k,rows[i]? = some (some l) → vals[i]? = some v → v.ownBlock = some k → W'.heap[k]? = W.heap[k]?) : OBJ W' g T vals rows := by
 refine ⟨hg.trans h.heap,fun i b l hi => ?_,h.sep⟩
 obtain ⟨v,hv,hb⟩ := h.row i b l hi
 exact ⟨v,hv,hb.move fun k hk => hm i (b,l) v k hi hv hk⟩
theorem OBJ.below (h : OBJ W g T vals rows) (hb : Below W.heap.size W W') : OBJ W' g T vals rows :=
 h.move (hb.block g h.lt) fun i l v k hi hv hk => by
  obtain ⟨v',hv',hb'⟩ := h.row i l.1 l.2 hi
  rw [hv] at hv';cases hv'
  exact hb.block k (hb'.lt k hk)
theorem OBJ.drop (h : OBJ W g T vals rows) (i : Nat) : OBJ W g T vals (rows.set i none) := by
 have key : ∀ (j : Nat) l,(rows.set i none)[j]? = some (some l) → rows[j]? = some (some l) := fun j l hj => by
  rw [List.getElem?_set] at hj
  by_cases e : i = j
  ·
   rw [if_pos e] at hj
   split at hj <;> cases hj
  rwa [if_neg e] at hj
 exact ⟨h.heap,fun j b l hj => h.row j b l (key j (b,l) hj),fun a b l m v u k ha hb => h.sep a b l m v u k (key a l ha) (key b m hb)⟩
theorem OBJ.apart (h : OBJ W g T vals rows) (hT : T ≠ 5) (i : Nat) {l : Bool × List UInt8} {v u : Value} (hi : rows[i]? = some (some l)) (hv : vals[i]? = some v) (hu : u.ownBlock = v.ownBlock) : Apart g vals (rows.set i none) u := by
 obtain ⟨v',hv',hb⟩ := h.row i l.1 l.2 hi
 rw [hv] at hv';cases hv'
 refine ⟨fun e => ?_,fun j m y k hj hy hk => ?_⟩
 ·
  rw [hu] at e
  obtain ⟨C,f,hC⟩ := hb.type e
  rw [h.heap] at hC
  cases hC
  exact hT rfl
 rw [List.getElem?_set] at hj
 by_cases e : i = j
 ·
  rw [if_pos e] at hj
  split at hj <;> cases hj
 rw [if_neg e] at hj
 rw [hu] at hk
 exact h.sep i j l m v y k hi hj e hv hy hk
theorem Apart.nil (g : Nat) (vals : List Value) (rows : List (Option (Bool × List UInt8))) (n c : Nat) : Apart g vals rows (.slice none n c) := ⟨fun e => by simp [Value.ownBlock] at e,fun i l u k _ _ hk => by simp [Value.ownBlock] at hk⟩
theorem OBJ.only (h : OBJ W g T vals rows) {v : Value} (ha : Apart g vals rows v) (ho : Only (fun j => v.ownBlock = some j) W W') : OBJ W' g T vals rows :=
 h.move (ho.block g h.lt (fun e => ha.1 e)) fun i l u k hi hu hk => by
  obtain ⟨v',hv',hb'⟩ := h.row i l.1 l.2 hi
  rw [hu] at hv';cases hv'
  exact ho.block k (hb'.lt k hk) (fun e => ha.2 i l u k hi hu e hk)
theorem OBJ.apart_new (h : OBJ W g T vals rows) {v : Value} {b : Nat} (hv : v.ownBlock = some b) (hb : W.heap.size ≤ b) : Apart g vals rows v := by
 refine ⟨fun e => ?_,fun i l u k hi hu hk hc => ?_⟩
 ·
  rw [hv] at e
  cases e
  have := h.lt
  omega
 rw [hv] at hk
 cases hk
 obtain ⟨v',hv',hb'⟩ := h.row i l.1 l.2 hi
 rw [hu] at hv';cases hv'
 have := hb'.lt b hc
 omega
theorem OBJ.store (h : OBJ W g T vals rows) (hT : T ≠ 5) (i : Nat) (hi : i < vals.length) (v : Value) (f : Bool) (l : List UInt8) (hv : RW f W v l) (ha : Apart g vals (rows.set i none) v) : OBJ (W.setCell ⟨g,i,none⟩ v) g T (vals.set i v) (rows.set i (some (f,l))) := by
 have hg : (W.setCell ⟨g,i,none⟩ v).heap[g]? = some (.cells (vals.set i v).toArray T (0,0)) := by
  simp only [World.setCell,Array.getElem?_modify,if_pos]
  rw [h.heap]
  simp
 have oth : ∀ k,k ≠ g → (W.setCell ⟨g,i,none⟩ v).heap[k]? = W.heap[k]? := fun k hk => Below.heap_setCell _ _ _ _ hk
 have ng : ∀ {u : Value} {c : Bool} {m : List UInt8} {k : Nat},RW c W u m → u.ownBlock = some k → k ≠ g := fun {u c m k} hb hk e => by
  obtain ⟨C,f',hC⟩ := hb.type hk
  rw [e,h.heap] at hC
  cases hC
  exact hT rfl
 have old : ∀ (j : Nat) m,j ≠ i → (rows.set i (some (f,l)))[j]? = some (some m) → rows[j]? = some (some m) := fun j m hj hr => by
  rw [List.getElem?_set,if_neg (fun e => hj e.symm)] at hr;exact hr
 have non : ∀ (j : Nat) m,j ≠ i → rows[j]? = some (some m) → (rows.set i none)[j]? = some (some m) := fun j m hj hr => by
  rw [List.getElem?_set,if_neg (fun e => hj e.symm)];exact hr
 refine ⟨hg,fun j c m hj => ?_,?_⟩
 ·
  by_cases e : j = i
  ·
   subst e
   have hm : (c,m) = (f,l) := by
    rw [List.getElem?_set,if_pos rfl] at hj
    split at hj
    ·
     exact (Option.some.inj (Option.some.inj hj)).symm
    cases hj
   cases hm
   exact ⟨v,by rw [List.getElem?_set,if_pos rfl,if_pos hi],hv.move fun k hk => oth k (fun e => ha.1 (e ▸ hk))⟩
  obtain ⟨u,hu,hb⟩ := h.row j c m (old j (c,m) e hj)
  exact ⟨u,by rw [List.getElem?_set,if_neg (fun e' => e e'.symm)];exact hu,hb.move fun k hk => oth k (ng hb hk)⟩
 intro a b la lb va vb k hra hrb hab hva hvb hka
 by_cases ea : a = i
 ·
  subst ea
  rw [List.getElem?_set,if_pos rfl,if_pos hi] at hva
  cases hva
  rw [List.getElem?_set,if_neg hab] at hvb
  exact ha.2 b lb vb k (non b lb (fun e => hab e.symm) (old b lb (fun e => hab e.symm) hrb)) hvb hka
 rw [List.getElem?_set,if_neg (fun e => ea e.symm)] at hva
 by_cases eb : b = i
 ·
  subst eb
  rw [List.getElem?_set,if_pos rfl,if_pos hi] at hvb
  cases hvb
  intro hc
  exact ha.2 a la va k (non a la ea (old a la ea hra)) hva hc hka
 rw [List.getElem?_set,if_neg (fun e => eb e.symm)] at hvb
 exact h.sep a b la lb va vb k (old a la ea hra) (old b lb eb hrb) hab hva hvb hka
theorem OBJ.put (h : OBJ W g T vals rows) (hT : T ≠ 5) (i : Nat) (hi : i < vals.length) (v : Value) (hr : ∀ l,rows[i]? ≠ some (some l)) : OBJ (W.setCell ⟨g,i,none⟩ v) g T (vals.set i v) rows := by
 have hg : (W.setCell ⟨g,i,none⟩ v).heap[g]? = some (.cells (vals.set i v).toArray T (0,0)) := by
  simp only [World.setCell,Array.getElem?_modify,if_pos]
  rw [h.heap]
  simp
 have nei : ∀ (j : Nat) l,rows[j]? = some (some l) → i ≠ j := fun j l hj e => hr l (e ▸ hj)
 have same : ∀ (j : Nat) l,rows[j]? = some (some l) → (vals.set i v)[j]? = vals[j]? := fun j l hj => by rw [List.getElem?_set,if_neg (nei j l hj)]
 refine ⟨hg,fun j c l hj => ?_,fun a b la lb va vb k hra hrb hab hva hvb => ?_⟩
 ·
  obtain ⟨u,hu,hb⟩ := h.row j c l hj
  refine ⟨u,(same j (c,l) hj).trans hu,hb.move fun k hk => Below.heap_setCell _ _ _ _ (fun e => ?_)⟩
  obtain ⟨C,f,hC⟩ := hb.type hk
  rw [e,h.heap] at hC
  cases hC
  exact hT rfl
 rw [same a la hra] at hva
 rw [same b lb hrb] at hvb
 exact h.sep a b la lb va vb k hra hrb hab hva hvb
theorem OBJ.cell (h : OBJ W g T vals rows) (i : Nat) (v : Value) (hv : vals[i]? = some v) : W.cell? ⟨g,i,none⟩ = some v := by
 unfold World.cell?
 rw [h.heap]
 show vals.toArray[i]? = some v
 rw [List.getElem?_toArray]
 exact hv
theorem OBJ.fz (h : OBJ W g T vals rows) (i : Nat) : W.frozen? ⟨g,i,none⟩ = false := by unfold World.frozen?;rw [h.heap];simp
end
theorem OBJ.fresh {W : World} {g : Nat} {T : TypeId} {vals : List Value} {rows : List (Option (Bool × List UInt8))} (hg : W.heap[g]? = some (.cells vals.toArray T (0,0))) (h0 : ∀ v ∈ vals,v.ownBlock = none) (hr : ∀ (i : Nat) (b : Bool) (l : List UInt8),rows[i]? = some (some (b,l)) → l = [] ∧ vals[i]? = some (.slice none 0 0)) : OBJ W g T vals rows := by
 refine ⟨hg,fun i b l hi => ?_,fun i j l m v u k _ _ _ hv _ hk => ?_⟩
 ·
  obtain ⟨rfl,hv⟩ := hr i b l hi
  refine ⟨_,hv,?_⟩
  cases b
  ·
   exact ⟨.inl ⟨rfl,rfl⟩,Nat.zero_le _⟩
  exact BV.nil W
 rw [h0 v (List.mem_of_getElem? hv)] at hk
 cases hk
theorem OBJ.refill {W W1 : World} {g : Nat} {T : TypeId} {vals : List Value} {rows : List (Option (Bool × List UInt8))} (h : OBJ W g T vals rows) (hT : T ≠ 5) (i : Nat) {l : Bool × List UInt8} {v0 v v1 : Value} (hi : rows[i]? = some (some l)) (hv : vals[i]? = some v0) (hsame : v.ownBlock = v0.ownBlock)
  (ho : Only (fun j => v.ownBlock = some j) W W1) (hat : v1.ownBlock = v.ownBlock ∨ ∃ b,v1.ownBlock = some b ∧ W.heap.size ≤ b) : OBJ W1 g T vals (rows.set i none) ∧ Apart g vals (rows.set i none) v1 := by
 have ha := h.apart hT i hi hv hsame
 have hd := h.drop i
 refine ⟨hd.only ha ho,?_⟩
 rcases hat with e|⟨b,hb1,hb2⟩
 ·
  exact ⟨by rw [e];exact ha.1,fun j m u k hj hu hk => ha.2 j m u k hj hu (by rw [← e];exact hk)⟩
 exact hd.apart_new hb1 hb2
theorem OBJ.restore {W1 : World} {g : Nat} {T : TypeId} {vals : List Value} {rows : List (Option (Bool × List UInt8))} (hT : T ≠ 5) (i : Nat) (hi : i < vals.length) {v1 : Value} {f : Bool} {l1 : List UInt8} (h : OBJ W1 g T vals (rows.set i none)) (ha : Apart g vals (rows.set i none) v1) (hb : RW f W1 v1 l1) : OBJ (W1.setCell ⟨g,i,none⟩ v1) g T (vals.set i v1) (rows.set i (some (f,l1))) := by
 have := OBJ.store h hT i hi v1 f l1 hb (by rw [List.set_set];exact ha)
 rwa [List.set_set] at this
section
variable {w0 w W W1 : World} {v0 v v1 : Value} {g : Nat} {T : TypeId} {vals : List Value} {rows : List (Option (Bool × List UInt8))} {acc acc1 : List UInt8}
variable {P : Program} {ops : Array Oper} {rest : List Oper} {o : Oper} {a : Act} {Q : Exit → Act → World → Prop}
end
theorem BV.grew {W W' : World} {v v' : Value} {l : List UInt8} (hr : Kd.R (Kd.int .u8) 5 W' 0 (fun k_ => (v.ownBlock = some k_ ∨ W.heap.size ≤ k_)) v' (toI l)) (hl : l ≠ []) (hb : Below 0 { W with heap := #[] } W') (hk : Kept W W' (fun k_ => v.ownBlock = some k_)) :
  BV W' v' l ∧ Only (fun j => v.ownBlock = some j) W W' ∧ (v'.ownBlock = v.ownBlock ∨ ∃ b,v'.ownBlock = some b ∧ W.heap.size ≤ b) := by
 refine ⟨BV.of_R hr,⟨hb.os,hb.tape,hb.output,hk.1,fun k h1 h2 => hk.2 k h1 h2⟩,?_⟩
 have hv := BV.of_R hr
 rcases hv.2 with ⟨_,hn⟩|⟨g,cap,cur,e,_⟩
 ·
  exact absurd (List.length_eq_zero_iff.1 hn) hl
 have hg : v'.ownBlock = some g := by rw [e];rfl
 rcases hr.1 g hg with h1|h1
 ·
  exact .inl (hg.trans h1.symm)
 exact .inr ⟨g,hg,h1⟩
theorem BV.R0 {W : World} {v : Value} {l : List UInt8} (h : BV W v l) : Kd.R (Kd.int .u8) 5 W 0 (fun k_ => v.ownBlock = some k_) v (toI l) := Kd.R_of_own (xs := toI l) (by unfold BV at h;rwa [toI_length]) (fun _ hk => hk)
end Go.Proofs.Ytbkeakeldegkeaa.Ob
end
section
namespace Go.Proofs.Ytbkeakeldegkeaa
open Go.RowKit Go.Proofs.YtbkeakeldegkeaaW.PrintWords Go.Proofs.YtbkeakeldegkeaaW.PrintLast Go.Proofs.YtbkeakeldegkeaaW.PrintMore
theorem bl_ {P Q : Prop} (h : Q) (f : Q → P := by intro h_;repeat (first|(with_reducible first|exact h_|apply below_alloc|apply pw_below_drewN|apply below_drew1)|exact h_)) : P := f h
theorem bl1_ {P Q A : Prop} (h : Q) (a : A) (f : Q → A → P := by intro h_ a_;repeat (first|(with_reducible first|exact h_|apply below_alloc|apply pw_below_drewN|apply below_drew1|refine below_set ?_ a_)|exact h_)) : P := f h a
theorem bl2_ {P Q A B : Prop} (h : Q) (a : A) (b : B) (f : Q → A → B → P := by intro h_ a_ b_;repeat (first|(with_reducible first|exact h_|apply below_alloc|apply pw_below_drewN|apply below_drew1|refine below_set ?_ a_|refine below_set ?_ b_)|exact h_)) : P := f h a b
theorem bk_ {P Q : Prop} (h : Q) (f : Q → P := by intro h_;(with_reducible repeat (first|apply blk_drewN|apply blk_drew|apply blk_alloc));exact h_) : P := f h
theorem rs_ {P : Prop} (h : P := by first|rfl|(simp;done)|(simp [*];done)|(simp [YtbkeakeldegkeaaX.isEmpty_ne];done)) : P := h
theorem odt_ {p : Prop} [Decidable p] (h : decide p = true := by first|(with_reducible assumption)|assumption) : p := of_decide_eq_true h
theorem asm_ {P : Prop} (h : P := by first|(with_reducible assumption)|assumption) : P := h
theorem q1 {w : World} {g : Nat} {o : Obj} (h : w.heap[g]? = some o) (n : Nat) : (w.drewN n).heap[g]? = some o := blk_drewN h n
theorem q2 {w : World} {g : Nat} {o : Obj} (h : w.heap[g]? = some o) : w.drew.heap[g]? = some o := blk_drew h
theorem q3 {w : World} {g : Nat} {o : Obj} (h : w.heap[g]? = some o) (o' : Obj) : (w.alloc o').heap[g]? = some o := blk_alloc h o'
end Go.Proofs.Ytbkeakeldegkeaa
end
