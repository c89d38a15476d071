/- FnUriParts: the law's function, called with any arguments, returns true and leaves its arguments as they were: every input, no condition. Part 2 of 9. -/
import Derived.Test.YtbkeakeldegkeaaZFnUriParts0
import Derived.Laws.StructEq
import Derived.Test.YtbkeakeldegkeaaProg
import Derived.Below
import Derived.Deep.Draws
import Derived.Deep.AppendLies
import Derived.Maps.AppendAt
import Derived.OwnWalk
import Derived.Laws.BytesArg
import Derived.Laws.MakeOwn
import Derived.Laws.OwnMore
import Derived.Deep.OwnRows
import Derived.Tactics
import Derived.Lib.ConvBytes
import Derived.Laws.Slices
import Derived.WalkKit
import Derived.KernelRfl
import Derived.RowKit3
import Derived.Deep.LoopGhost
import Derived.Deep.QuietTactic
import Derived.BigQuiet
import Derived.WideLaws
import Derived.Deep.DeepCutAuto
import Derived.Deep.CutBlock
import Derived.Deep.RegionHeld3
import Derived.Laws.Rows
import Derived.Lib.AppendStr
import Derived.ArgAppend
import Derived.Laws.IdiomCopy
import Derived.OrdersHeld
import Derived.Laws.BitsLemmas
import Derived.RowKit
import Derived.Laws.Externs
import Derived.Lib.BytesEntry
import Derived.Lib.Bytealg
import Derived.WalkSpells
import Derived.Lib.LazyBuf
import Derived.StillTailTactics
section
namespace Go.Proofs.YtbkeakeldegkeaaW.PrintWords
open Go.RowKit
section
variable {P : Program} {d : Nat} {xs ys : Array Value} {f : Field} {fs : List Field} {a b : Value} {r s : Bool} {w : World}
theorem eqf_last (hn : (f.name == "_") = false) (ha : (part f.type xs f.offset).run P w = .ok a w) (hb : (part f.type ys f.offset).run P w = .ok b w) (he : (Op.equalIn d f.type a b).run P w = .ok r w) : (Op.eqFields d xs ys [f]).run P w = .ok r w := by
  have hn' : f.name ≠ "_" := by simpa using hn
  simp only [Op.eqFields, if_pos hn', Sem.run_bind, ha, hb, he, Result.andThen_ok]
  cases r <;> simp
theorem eqf_cons (hn : (f.name == "_") = false) (ha : (part f.type xs f.offset).run P w = .ok a w) (hb : (part f.type ys f.offset).run P w = .ok b w) (he : (Op.equalIn d f.type a b).run P w = .ok r w) (hr : (Op.eqFields d xs ys fs).run P w = .ok s w) : (Op.eqFields d xs ys (f :: fs)).run P w = .ok (r && s) w := by
  have hn' : f.name ≠ "_" := by simpa using hn
  rw [Op.eqFields]
  simp only [if_pos hn', Sem.run_bind, ha, hb, he, Result.andThen_ok]
  cases r
  · simp
  · simpa using hr
theorem eqA_of {t : TypeId} {fs : Array Field} (hu : P.underlying t = some (.struct fs)) (hp : P.stoodInHeld t = false) (h : (Op.eqFields d xs ys fs.toList).run P w = .ok r w) : (Op.equalIn (d + 1) t (.agg xs) (.agg ys)).run P w = .ok r w := by
  have hf : P.fieldsOf t = fs := by simp [Program.fieldsOf, hu]
  rw [run_equalIn_struct (P := P) w d t xs ys (by rw [hf]; exact hu) hp, hf]
  exact h
end
end Go.Proofs.YtbkeakeldegkeaaW.PrintWords
end
section
namespace Go.Proofs.YtbkeakeldegkeaaW.PrintWords
theorem Reps.one {α : Type} {R : α → List Value → Prop} {ps : List α} {cs : List Value} {p : α} {v : Value} (hp : R p [v]) (h : Reps R 1 ps cs) : Reps R 1 (p :: ps) (v :: cs) := by
  refine ⟨by simp [h.1], fun j q hq => ?_⟩
  cases j with
  | zero =>
    simp only [List.getElem?_cons_zero, Option.some.injEq] at hq
    subst hq
    simpa using hp
  | succ j =>
    simp only [List.getElem?_cons_succ] at hq
    have h1 := h.2 j q hq
    simpa [Nat.mul_one] using h1
theorem Reps.front {α : Type} {R : α → List Value → Prop} {size : Nat} {ps : List α} {cs c all : List Value} {p : α} (hp : R p c) (hc : c.length = size) (h : Reps R size ps cs) (ha : c ++ cs = all) : Reps R size (p :: ps) all := by
  subst ha
  refine ⟨by rw [List.length_append, hc, h.1, List.length_cons, Nat.succ_mul, Nat.add_comm], fun j q hq => ?_⟩
  cases j with
  | zero =>
    simp only [List.getElem?_cons_zero, Option.some.injEq] at hq
    subst hq
    rw [Nat.zero_mul, List.drop_zero, List.take_append_of_le_length (by omega), List.take_of_length_le (by omega)]
    exact hp
  | succ j =>
    simp only [List.getElem?_cons_succ] at hq
    have h1 := h.2 j q hq
    rw [Nat.succ_mul, List.drop_append, List.drop_of_length_le (by rw [hc]; exact Nat.le_add_left _ _), List.nil_append, hc, Nat.add_sub_cancel]
    exact h1
theorem Reps.c2 {α : Type} {R : α → List Value → Prop} {ps : List α} {cs : List Value} {p : α} {va vb : Value} (hp : R p [va, vb]) (h : Reps R 2 ps cs) : Reps R 2 (p :: ps) (va :: vb :: cs) := Reps.front hp rfl h rfl
theorem Reps.c3 {α : Type} {R : α → List Value → Prop} {ps : List α} {cs : List Value} {p : α} {va vb vc : Value} (hp : R p [va, vb, vc]) (h : Reps R 3 ps cs) : Reps R 3 (p :: ps) (va :: vb :: vc :: cs) := Reps.front hp rfl h rfl
theorem Reps.c4 {α : Type} {R : α → List Value → Prop} {ps : List α} {cs : List Value} {p : α} {va vb vc vd : Value} (hp : R p [va, vb, vc, vd]) (h : Reps R 4 ps cs) : Reps R 4 (p :: ps) (va :: vb :: vc :: vd :: cs) := Reps.front hp rfl h rfl
theorem Reps.c5 {α : Type} {R : α → List Value → Prop} {ps : List α} {cs : List Value} {p : α} {va vb vc vd ve : Value} (hp : R p [va, vb, vc, vd, ve]) (h : Reps R 5 ps cs) : Reps R 5 (p :: ps) (va :: vb :: vc :: vd :: ve :: cs) := Reps.front hp rfl h rfl
theorem Reps.c6 {α : Type} {R : α → List Value → Prop} {ps : List α} {cs : List Value} {p : α} {va vb vc vd ve vf : Value} (hp : R p [va, vb, vc, vd, ve, vf]) (h : Reps R 6 ps cs) : Reps R 6 (p :: ps) (va :: vb :: vc :: vd :: ve :: vf :: cs) := Reps.front hp rfl h rfl
theorem Reps.c7 {α : Type} {R : α → List Value → Prop} {ps : List α} {cs : List Value} {p : α} {va vb vc vd ve vf vg : Value} (hp : R p [va, vb, vc, vd, ve, vf, vg]) (h : Reps R 7 ps cs) : Reps R 7 (p :: ps) (va :: vb :: vc :: vd :: ve :: vf :: vg :: cs) := Reps.front hp rfl h rfl
theorem Reps.c8 {α : Type} {R : α → List Value → Prop} {ps : List α} {cs : List Value} {p : α} {va vb vc vd ve vf vg vh : Value} (hp : R p [va, vb, vc, vd, ve, vf, vg, vh]) (h : Reps R 8 ps cs) : Reps R 8 (p :: ps) (va :: vb :: vc :: vd :: ve :: vf :: vg :: vh :: cs) := Reps.front hp rfl h rfl
theorem Reps.c9 {α : Type} {R : α → List Value → Prop} {ps : List α} {cs : List Value} {p : α} {va vb vc vd ve vf vg vh vi : Value} (hp : R p [va, vb, vc, vd, ve, vf, vg, vh, vi]) (h : Reps R 9 ps cs) : Reps R 9 (p :: ps) (va :: vb :: vc :: vd :: ve :: vf :: vg :: vh :: vi :: cs) := Reps.front hp rfl h rfl
theorem Reps.c10 {α : Type} {R : α → List Value → Prop} {ps : List α} {cs : List Value} {p : α} {va vb vc vd ve vf vg vh vi vj : Value} (hp : R p [va, vb, vc, vd, ve, vf, vg, vh, vi, vj]) (h : Reps R 10 ps cs) : Reps R 10 (p :: ps) (va :: vb :: vc :: vd :: ve :: vf :: vg :: vh :: vi :: vj :: cs) := Reps.front hp rfl h rfl
end Go.Proofs.YtbkeakeldegkeaaW.PrintWords
end
section
namespace Go.Proofs.YtbkeakeldegkeaaW.PrintLast
def up (b : Nat → Bool) (i : Nat) : Nat → Bool := fun j => if j = i then true else b j
section
variable {P : Program} {ops : Array Oper} {Q : Exit → Act → World → Prop} {md : Region.Mode} {T : Bool × List (List Nat × List Nat)} {B : List Nat} {O : List Nat} {b : Nat → Bool} {i j n : Nat}
end
end Go.Proofs.YtbkeakeldegkeaaW.PrintLast
end
section
namespace Go.Proofs.YtbkeakeldegkeaaW.PrintWords
open Go.RowKit
section
variable {P : Program} {ops : Array Oper} {rest : List Oper} {o : Oper} {a : Act} {Q : Exit → Act → World → Prop} {W : World}
theorem gate_guard (hw : Region.wanted o (yielded ops a.tmps) = true) (h : wpList P ops Q ({ o with guard := none } :: rest) a W) : wpList P ops Q (o :: rest) a W := by
  have h1 : Region.wanted { o with guard := none } (yielded ops a.tmps) = true := rfl
  unfold wpList at h ⊢
  rw [if_pos h1] at h
  rw [if_pos hw]
  exact h
end
end Go.Proofs.YtbkeakeldegkeaaW.PrintWords
end
section
namespace Go.Proofs.Ytbkeakeldegkeaa.Q
open Go.RowKit Go.Proofs.YtbkeakeldegkeaaW.PrintWords Go.Proofs.YtbkeakeldegkeaaW.PrintLast Go.Proofs.YtbkeakeldegkeaaW.PrintMore
attribute [local go_sem] max2_int min2_int max_two min_two max_three min_three max_four min_four
set_option linter.unusedVariables false
set_option linter.unusedSimpArgs false
def errW : Option Int → Value
  | none => .nilIface
  | some c => .iface 0 (.int .i64 c)
theorem errW_none : errW none = .nilIface := rfl
theorem errW_some (c : Int) : errW (some c) = .iface 0 (.int .i64 c) := rfl
theorem info5 : (Try.prog.info? 5).map (fun i => (i.zero, i.size, i.bytes)) = some (some (.int .u8 0), 1, 1) := by kernel_rfl
def tab1 : ByteArray := ⟨#[16, 16, 16, 16, 16, 16, 16, 16, 16, 16, 16, 16, 16, 16, 16, 16, 16, 16, 16, 16, 16, 16, 16, 16, 16, 16, 16, 16, 16, 16, 16, 16, 16, 16, 16, 16, 16, 16, 16, 16, 16, 16, 16, 16, 16, 16, 16, 16, 0, 1, 2, 3, 4, 5, 6, 7, 8, 9, 16, 16, 16, 16, 16, 16, 16, 10, 11, 12, 13, 14, 15, 16, 16, 16, 16, 16, 16, 16, 16, 16, 16, 16, 16, 16, 16, 16, 16, 16, 16, 16, 16, 16, 16, 16, 16, 16, 16, 10, 11, 12, 13, 14, 15, 16, 16, 16, 16, 16, 16, 16, 16, 16, 16, 16, 16, 16, 16, 16, 16, 16, 16, 16, 16, 16, 16, 16, 16, 16, 16, 16, 16, 16, 16, 16, 16, 16, 16, 16, 16, 16, 16, 16, 16, 16, 16, 16, 16, 16, 16, 16, 16, 16, 16, 16, 16, 16, 16, 16, 16, 16, 16, 16, 16, 16, 16, 16, 16, 16, 16, 16, 16, 16, 16, 16, 16, 16, 16, 16, 16, 16, 16, 16, 16, 16, 16, 16, 16, 16, 16, 16, 16, 16, 16, 16, 16, 16, 16, 16, 16, 16, 16, 16, 16, 16, 16, 16, 16, 16, 16, 16, 16, 16, 16, 16, 16, 16, 16, 16, 16, 16, 16, 16, 16, 16, 16, 16, 16, 16, 16, 16, 16, 16, 16, 16, 16, 16, 16, 16, 16, 16, 16, 16, 16, 16, 16, 16, 16, 16, 16, 16, 16, 16, 16, 16, 16, 16]⟩
end Go.Proofs.Ytbkeakeldegkeaa.Q
end
section
namespace Go.Proofs.Ytbkeakeldegkeaa.Q
open Go.RowKit Go.Proofs.YtbkeakeldegkeaaW.PrintWords Go.Proofs.YtbkeakeldegkeaaW.PrintLast Go.Proofs.YtbkeakeldegkeaaW.PrintMore
structure BR (w : World) (g : Nat) (e : TypeId) (l : List UInt8) : Prop where
  out : ∃ C lo hi, w.heap[g]? = some (.cells C e (lo, hi)) ∧ l.length ≤ C.size ∧ (l.length ≤ lo ∨ hi = 0) ∧ ∀ j (h : j < l.length), C[j]? = some (.int .u8 (l[j].toNat : Int))
theorem BR.cell {w : World} {g : Nat} {e : TypeId} {l : List UInt8} (h : BR w g e l) (j : Nat) (hj : j < l.length) : w.cell? ⟨g, j, none⟩ = some (.int .u8 (l[j].toNat : Int)) := by
  obtain ⟨C, lo, hi, hg, _, _, hc⟩ := h.out
  unfold World.cell?
  rw [hg]
  simpa using hc j hj
theorem BR.frozen {w : World} {g : Nat} {e : TypeId} {l : List UInt8} (h : BR w g e l) (j : Nat) (hj : j < l.length) : w.frozen? ⟨g, j, none⟩ = false := by
  obtain ⟨C, lo, hi, hg, _, hf, _⟩ := h.out
  unfold World.frozen?
  rw [hg]
  show (decide (lo ≤ j) && decide (j < hi)) = false
  rcases hf with hf | hf
  · rw [decide_eq_false (by omega)]; rfl
  · rw [hf, Bool.and_eq_false_iff]; right; exact decide_eq_false (by omega)
theorem BR.put {w : World} {g : Nat} {e : TypeId} {l : List UInt8} (h : BR w g e l) (k : Nat) (hk : k < l.length) (b : UInt8) : BR (w.setCell ⟨g, k, none⟩ (.int .u8 (b.toNat : Int))) g e (l.set k b) := by
  obtain ⟨C, lo, hi, hg, hs, hf, hc⟩ := h.out
  have hgl := (Array.getElem?_eq_some_iff.1 hg).1
  refine ⟨C.setIfInBounds k (.int .u8 (b.toNat : Int)), lo, hi, ?_, by simpa using hs, by simpa using hf, fun j hj => ?_⟩
  · have := (Array.getElem?_eq_some_iff.1 hg).2
    simp only [World.setCell, Array.getElem?_modify, if_pos, hg, Option.map_some]
    simp
  · have hjl : j < l.length := by simpa using hj
    rw [Array.getElem?_setIfInBounds, List.getElem_set]
    by_cases e1 : k = j
    · subst e1
      rw [if_pos rfl, if_pos (by omega), if_pos rfl]
    · rw [if_neg e1, if_neg e1]
      exact hc j hjl
theorem BR.heap {w w' : World} {g : Nat} {e : TypeId} {l : List UInt8} (h : BR w g e l) (hh : w'.heap[g]? = w.heap[g]?) : BR w' g e l := by
  obtain ⟨C, lo, hi, hg, r⟩ := h.out
  exact ⟨C, lo, hi, hh.trans hg, r⟩
theorem BR.drewN {w : World} {g : Nat} {e : TypeId} {l : List UInt8} (h : BR w g e l) (m : Nat) : BR (w.drewN m) g e l := h.heap rfl
theorem BR.lt {w : World} {g : Nat} {e : TypeId} {l : List UInt8} (h : BR w g e l) : g < w.heap.size := by
  obtain ⟨C, lo, hi, hg, r⟩ := h.out
  exact (Array.getElem?_eq_some_iff.1 hg).1
theorem BR.below {w w' : World} {g : Nat} {e : TypeId} {l : List UInt8} (h : BR w g e l) (hb : Below w.heap.size w w') : BR w' g e l := h.heap (hb.block g h.lt)
theorem BR.conv (w : World) (e : TypeId) (s : ByteArray) : BR (Lib.bytesWorld w e s) w.heap.size e s.data.toList := by
  refine ⟨_, _, _, Lib.bytesWorld_at_new w e s, ?_, .inl ?_, fun j hj => ?_⟩
  · simp [Lib.bytesCells]
  · simp [Lib.bytesCells]
  · have hj' : j < s.data.size := by simpa using hj
    have hsz : (s.data.map fun b => Value.int .u8 b.toNat).size = s.data.size := Array.size_map ..
    unfold Lib.bytesCells
    rw [Array.getElem?_append, if_pos (by rw [hsz]; exact hj'), Array.getElem?_map, Array.getElem?_eq_getElem hj']
    simp
theorem conv_BR {P : Program} (src dst e : TypeId) (hs : P.underlying src = some .string) (hd : P.underlying dst = some (.slice e)) (he : P.underlying e = some (.int .u8)) (s : ByteArray) (w : World) :
    Go.Proofs.YtbkeakeldegkeaaX.ConvCalls P src dst s w fun en w' => ∃ c, en = .returned (.slice (some ⟨w.heap.size, 0, none⟩) s.size c) ∧ BR w' w.heap.size e s.data.toList ∧ Below w.heap.size w w' := by
  refine ⟨_, _, Lib.run_convert_string_bytes w src dst e s hs hd he, _, rfl, BR.conv w e s, ?_⟩
  exact ⟨rfl, rfl, rfl, by rw [Lib.bytesWorld_size]; omega, fun k hk => Lib.bytesWorld_at_old w e s k hk⟩
theorem conv_BR2 {P : Program} (src dst e : TypeId) (hs : P.underlying src = some .string) (hd : P.underlying dst = some (.slice e)) (he : P.underlying e = some (.int .u8)) (s : ByteArray) (w : World) :
    Go.Proofs.YtbkeakeldegkeaaX.ConvCalls P src dst s w fun en w' => ∃ c, en = .returned (.slice (some ⟨w.heap.size, 0, none⟩) s.size c) ∧ s.size ≤ c ∧ BR w' w.heap.size e s.data.toList ∧ Below w.heap.size w w' := by
  refine ⟨_, _, Lib.run_convert_string_bytes w src dst e s hs hd he, _, rfl, grownCap_ge _ _ _ _, BR.conv w e s, ?_⟩
  exact ⟨rfl, rfl, rfl, by rw [Lib.bytesWorld_size]; omega, fun k hk => Lib.bytesWorld_at_old w e s k hk⟩
theorem BR.back {P : Program} {w : World} {g : Nat} {e : TypeId} {l : List UInt8} (h : BR w g e l) (src dst : TypeId) (cap : Nat) (hs : P.underlying src = some (.slice e)) (he : P.underlying e = some (.int .u8)) (hd : P.underlying dst = some .string) :
    (convert src dst (.slice (some ⟨g, 0, none⟩) l.length cap)).run P w = .ok (.string ⟨l.toArray⟩) w := by
  refine run_convert_bytes_back w src dst e ⟨g, 0, none⟩ cap l hs he hd fun j hj => ?_
  rw [show (⟨g, 0, none⟩ : Addr).add j = ⟨g, j, none⟩ by unfold Addr.add; by_cases hj0 : j = 0 <;> simp [hj0]]
  exact h.cell j hj
theorem BR.alloc {w : World} {e : TypeId} {n : Nat} : BR (w.alloc (.cells (madeCells #[.int .u8 0] n) e)) w.heap.size e (List.replicate n 0) := by
  refine ⟨_, 0, 0, heap_alloc_new w _, by simp [size_madeCells], .inr rfl, fun j hj => ?_⟩
  have hjn : j < n := by simpa using hj
  rw [← Array.getElem?_toList, toList_madeCells_one, List.getElem?_replicate, if_pos hjn]
  simp
theorem BR.copied {g : Nat} {e : TypeId} : ∀ (t old pre : List UInt8) (w : World), BR w g e (pre ++ old) → old.length = t.length → BR (w.setCells g pre.length (t.map fun x => Value.int .u8 (x.toNat : Int))) g e (pre ++ t)
  | [], [], pre, w, h, _ => h
  | x :: t, y :: old, pre, w, h, hl => by
    have h1 := h.put pre.length (by simp) x
    rw [show (pre ++ y :: old).set pre.length x = (pre ++ [x]) ++ old by simp] at h1
    have h2 := BR.copied t old (pre ++ [x]) _ h1 (by simpa using hl)
    rw [show (pre ++ [x]) ++ t = pre ++ x :: t by simp, show (pre ++ [x]).length = pre.length + 1 by simp] at h2
    exact h2
  | [], _ :: _, _, _, _, hl => by simp at hl
  | _ :: _, [], _, _, _, hl => by simp at hl
section
variable {P : Program} {ops : Array Oper} {rest : List Oper} {o : Oper} {a : Act} {Q : Exit → Act → World → Prop} {W : World}
end
end Go.Proofs.Ytbkeakeldegkeaa.Q
end
section
namespace Go.Proofs.YtbkeakeldegkeaaKit
open Go.RowKit Go.Proofs.YtbkeakeldegkeaaW.PrintWords Go.Proofs.YtbkeakeldegkeaaW.PrintLast
abbrev L (s : ByteArray) : List UInt8 := s.data.toList
theorem toList_loop (s : ByteArray) : ∀ (d i : Nat) (r : List UInt8), s.size - i = d → ByteArray.toList.loop s i r = r.reverse ++ (L s).drop i := by
  intro d
  induction d with
  | zero =>
    intro i r h
    rw [ByteArray.toList.loop]
    rw [if_neg (by omega), List.drop_eq_nil_of_le (by rw [data_length]; omega), List.append_nil]
  | succ d ih =>
    intro i r h
    rw [ByteArray.toList.loop, if_pos (by omega), ih (i + 1) _ (by omega)]
    have hi : i < (L s).length := by rw [data_length]; omega
    rw [List.drop_eq_getElem_cons hi, List.reverse_cons, List.append_assoc]
    congr 1
    simp only [List.singleton_append, List.cons.injEq, and_true]
    have hi2 : i < s.data.size := by rw [← Array.length_toList]; exact hi
    show s.data[i]! = _
    rw [getElem!_pos s.data i hi2]
    exact (Array.getElem_toList hi2).symm
theorem tl (s : ByteArray) : s.toList = L s := by
  unfold ByteArray.toList
  rw [toList_loop s _ 0 [] rfl]
  simp
theorem ext {a b : ByteArray} (h : L a = L b) : a = b := by
  cases a; cases b
  simp only [L] at h
  rw [Array.ext' h]
theorem size_L (s : ByteArray) : s.size = (L s).length := (data_length s).symm
theorem L_append (a b : ByteArray) : L (a ++ b) = L a ++ L b := ByteArray.toList_data_append
theorem size_append (a b : ByteArray) : (a ++ b).size = a.size + b.size := by rw [size_L, L_append, List.length_append, ← size_L, ← size_L]
theorem wrap_id {x : Int} (h0 : -9223372036854775808 ≤ x) (h : x ≤ 9223372036854775807) : wrap64 x = x := by unfold wrap64; omega
theorem wrap_succ {n m : Nat} (h : n < m) (hm : m ≤ 9223372036854775807) : wrap64 ((n : Int) + 1) = ((n + 1 : Nat) : Int) := by
  rw [wrap_id (by omega) (by omega)]; omega
theorem bt_nat (s : ByteArray) (n : Nat) (h : n < (L s).length) : bt s (n : Int) = ((L s)[n].toNat : Int) := by
  unfold bt
  have h2 : (n : Int).toNat < s.size := by rw [size_L]; omega
  rw [dif_pos h2]
  rfl
section
variable {s : ByteArray} {pre t : List UInt8} {c : UInt8}
theorem sz_mid (h : L s = pre ++ c :: t) : (pre.length : Int) < (s.size : Int) := by rw [size_L, h]; simp; omega
theorem nz_mid (h : L s = pre ++ c :: t) : pre.length < s.size := by rw [size_L, h]; simp
theorem sz_not (h : L s = pre ++ []) : ¬ (pre.length : Int) < (s.size : Int) := by rw [size_L, h]; simp
theorem bt_mid (h : L s = pre ++ c :: t) : bt s (pre.length : Int) = (c.toNat : Int) := by
  have hl : pre.length < (L s).length := by rw [h]; simp
  rw [bt_nat s _ hl]
  congr 2
  simp [h]
theorem wrap_mid (h : L s = pre ++ c :: t) (hs : s.size ≤ 140737488351232) : wrap64 ((pre.length : Int) + 1) = ((pre ++ [c]).length : Int) := by
  rw [wrap_succ (nz_mid h) (by omega)]; simp
theorem mid_next (h : L s = pre ++ c :: t) : L s = (pre ++ [c]) ++ t := by rw [h]; simp
end
section
variable {α : Type} {xs pre t : List α} {x : α}
theorem ln_mid (h : xs = pre ++ x :: t) : (pre.length : Int) < (xs.length : Int) := by rw [h]; simp; omega
theorem ln_nat (h : xs = pre ++ x :: t) : pre.length < xs.length := by rw [h]; simp
theorem ln_not (h : xs = pre ++ []) : ¬ (pre.length : Int) < (xs.length : Int) := by rw [h]; simp
theorem get_mid (h : xs = pre ++ x :: t) (z : α) : xs.getD (pre.length : Int).toNat z = x := by rw [h]; simp
theorem wrap_lmid (h : xs = pre ++ x :: t) (hs : xs.length ≤ 9223372036854775807) : wrap64 ((pre.length : Int) + 1) = ((pre ++ [x]).length : Int) := by
  rw [wrap_succ (ln_nat h) hs]; simp
theorem lmid_next (h : xs = pre ++ x :: t) : xs = (pre ++ [x]) ++ t := by rw [h]; simp
end
theorem maxLen_le {n : Nat} (h : n ≤ maxLen) : n ≤ 9223372036854775807 := by unfold maxLen at h; exact h
section
variable {α β : Type}
theorem Ev.pos {c : Prop} [Decidable c] {f g : Nat → Option α} {r : α} (h : c) (k : Ev f r) : Ev (fun n => if c then f n else g n) r := by
  simp only [if_pos h]; exact k
theorem Ev.neg {c : Prop} [Decidable c] {f g : Nat → Option α} {r : α} (h : ¬ c) (k : Ev g r) : Ev (fun n => if c then f n else g n) r := by
  simp only [if_neg h]; exact k
theorem Ev.some {a : Option α} {r : α} (h : a = Option.some r) : Ev (fun _ => a) r := ⟨0, fun _ _ => h⟩
theorem Ev.call {g : Nat → Option α} {f : Nat → α → Option β} {a : α} {r : β} (h : Ev g a) (k : Ev (fun n => f n a) r) : Ev (fun n => (g n).bind fun x => f n x) r := Ev.bind h k
theorem Ev.same {g : Nat → Option α} {r q : α} (h : Ev g r) (e : r = q) : Ev g q := e ▸ h
end
end Go.Proofs.YtbkeakeldegkeaaKit
end
section
namespace Go.Proofs.Ytbkeakeldegkeaa.SpA
open Go.RowKit Go.Proofs.YtbkeakeldegkeaaW.PrintWords Go.Proofs.YtbkeakeldegkeaaW.PrintLast Go.Proofs.YtbkeakeldegkeaaKit
def toI (l : List UInt8) : List Int := l.map fun c => (c.toNat : Int)
theorem toI_length (l : List UInt8) : (toI l).length = l.length := by simp [toI]
theorem toI_append (a b : List UInt8) : toI (a ++ b) = toI a ++ toI b := by simp [toI]
theorem L_strOf (l : List UInt8) : L (strOfNums (toI l)) = l := by
  unfold strOfNums toI
  simp [L, List.map_map, Function.comp_def]
theorem rd_mid {xs pre t : List UInt8} {c : UInt8} (h : xs = pre ++ c :: t) : rd (toI xs) (pre.length : Int) = (c.toNat : Int) := by
  unfold rd
  rw [h, toI_append, Int.toNat_natCast, List.getD_eq_getElem?_getD, List.getElem?_append_right (by rw [toI_length]; exact Nat.le_refl _), toI_length, Nat.sub_self]
  rfl
end Go.Proofs.Ytbkeakeldegkeaa.SpA
end
section
namespace Go.Proofs.Ytbkeakeldegkeaa.Ob
open Go.RowKit Go.Proofs.YtbkeakeldegkeaaW.PrintWords Go.Proofs.YtbkeakeldegkeaaW.PrintLast Go.Proofs.YtbkeakeldegkeaaW.PrintMore
open Go.Proofs.Ytbkeakeldegkeaa.SpA (toI toI_length toI_append)
open Go.Proofs.Ytbkeakeldegkeaa.Q (BR)
set_option linter.unusedVariables false
set_option linter.unusedSimpArgs false
structure Only (S : Nat → Prop) (w w' : World) : Prop where
  os : w'.os = w.os
  tape : w'.tape = w.tape
  output : w'.output = w.output
  size : w.heap.size ≤ w'.heap.size
  block : ∀ k, k < w.heap.size → ¬ S k → w'.heap[k]? = w.heap[k]?
section
variable {S T : Nat → Prop} {a b c w : World}
theorem Only.refl (S : Nat → Prop) (w : World) : Only S w w := ⟨rfl, rfl, rfl, Nat.le_refl _, fun _ _ _ => rfl⟩
theorem Only.trans (h : Only S a b) (k : Only T b c) (hs : ∀ i, i < a.heap.size → T i → S i) : Only S a c := ⟨k.os.trans h.os, k.tape.trans h.tape, k.output.trans h.output, Nat.le_trans h.size k.size, fun i hi hn => (k.block i (Nat.lt_of_lt_of_le hi h.size) (fun e => hn (hs i hi e))).trans (h.block i hi hn)⟩
theorem Only.mono (h : Only S a b) (hs : ∀ k, k < a.heap.size → S k → T k) : Only T a b := ⟨h.os, h.tape, h.output, h.size, fun k hk hn => h.block k hk (fun e => hn (hs k hk e))⟩
theorem Only.drewN (h : Only S a w) (m : Nat) : Only S a (w.drewN m) := ⟨h.os, h.tape, h.output, h.size, h.block⟩
theorem Only.set (h : Only S a w) {g : Nat} (hg : S g ∨ a.heap.size ≤ g) (j : Nat) (u : Value) : Only S a (w.setCell ⟨g, j, none⟩ u) :=
  ⟨h.os, h.tape, h.output, by simpa [World.setCell] using h.size, fun k hk hn => by
    rw [Below.heap_setCell _ _ _ _ (show k ≠ g from fun e => hg.elim (fun hs => hn (e ▸ hs)) (fun hl => by omega))]
    exact h.block k hk hn⟩
theorem Only.alloc (h : Only S a w) (o : Obj) : Only S a (w.alloc o) :=
  ⟨h.os, h.tape, h.output, by have := h.size; simp; omega, fun k hk hn => by
    rw [Below.heap_alloc _ _ _ (Nat.lt_of_lt_of_le hk h.size)]
    exact h.block k hk hn⟩
theorem Only.of_below (h : Below a.heap.size a w) : Only S a w := ⟨h.os, h.tape, h.output, h.size, fun k hk _ => h.block k hk⟩
theorem Only.below (h : Only S a w) {B : Nat} (hB : ∀ k, S k → B ≤ k) (hs : B ≤ a.heap.size) : Below B a w := ⟨h.os, h.tape, h.output, h.size, fun k hk => h.block k (by omega) (fun e => by have := hB k e; omega)⟩
theorem Only.of_grown {row : Option Nat} (hg : a.grownBy b row) : Only (fun j => row = some j) a b := ⟨hg.os, hg.tape, hg.output, hg.size, fun k hk hn => hg.block k hk (fun e => hn e.symm)⟩
end
def BV (W : World) (v : Value) (l : List UInt8) : Prop := W.ownsRow 0 5 1 v l.length (encs (Value.int .u8) (toI l))
theorem enc_len (l : List UInt8) : (encs (Value.int .u8) (toI l)).length = l.length := by rw [encs_length, toI_length]
section
variable {W W' : World} {v : Value} {l : List UInt8}
theorem BV.nil (W : World) : BV W (.slice none 0 0) [] := ⟨rfl, .inl ⟨rfl, rfl⟩⟩
theorem BV.R (h : BV W v l) : Kd.R (Kd.int .u8) 5 W 0 (fun _ => True) v (toI l) := Kd.R_of_own (xs := toI l) (by unfold BV at h; rwa [toI_length]) (fun _ _ => trivial)
theorem BV.of_R {base : Nat} {ok : Nat → Prop} (h : Kd.R (Kd.int .u8) 5 W base ok v (toI l)) : BV W v l := by
  obtain ⟨h1, h2⟩ := Kd.own_of_R h
  rw [toI_length] at h1 h2
  refine ⟨h1, h2.imp id ?_⟩
  rintro ⟨g, cap, cur, e, _, r⟩
  exact ⟨g, cap, cur, e, Nat.zero_le _, r⟩
theorem BV.move (h : BV W v l) (hm : ∀ k, v.ownBlock = some k → W'.heap[k]? = W.heap[k]?) : BV W' v l := by
  refine ⟨h.1, h.2.imp id ?_⟩
  rintro ⟨g, cap, cur, e, hb, hg, r⟩
  exact ⟨g, cap, cur, e, hb, (hm g (by rw [e]; rfl)).trans hg, r⟩
theorem BV.lt (h : BV W v l) : ∀ k, v.ownBlock = some k → k < W.heap.size := by
  rcases h.2 with ⟨rfl, _⟩ | ⟨g, cap, cur, rfl, _, hg, _⟩
  · intro k hk; cases hk
  · intro k hk
    have : g = k := by simpa [Value.ownBlock] using hk
    subst this
    exact (Array.getElem?_eq_some_iff.1 hg).1
theorem BV.type (h : BV W v l) {k : Nat} (hk : v.ownBlock = some k) : ∃ C, W.heap[k]? = some (.cells C 5 (0, 0)) := by
  rcases h.2 with ⟨rfl, _⟩ | ⟨g, cap, cur, rfl, _, hg, _⟩
  · cases hk
  · have : g = k := by simpa [Value.ownBlock] using hk
    subst this
    exact ⟨_, hg⟩
theorem BV.slice (h : BV W v l) : ∃ A c, v = .slice A l.length c ∧ l.length ≤ c ∧ (∀ a, A = some a → a.off = 0 ∧ a = ⟨a.block, 0, none⟩) := by
  rcases h.2 with ⟨e, hn⟩ | ⟨g, cap, cur, e, _, hg, hc, _⟩
  · exact ⟨none, 0, by rw [e, hn], by omega, fun a ha => by cases ha⟩
  · exact ⟨_, _, e, hc, fun a ha => by cases ha; exact ⟨rfl, rfl⟩⟩
theorem BV.form (h : BV W v l) : ∃ A n c, v = .slice A n c := by
  obtain ⟨A, c, e, _⟩ := h.slice
  exact ⟨A, _, c, e⟩
theorem BV.C {A : Option Addr} {n c : Nat} (h : BV W (.slice A n c) l) : Kd.C (Kd.int .u8) W A n (toI l) := by
  obtain ⟨hn, _, hc⟩ := Kd.R_reads' h.R
  rw [hn]; exact hc
theorem BV.cap {A : Option Addr} {n c : Nat} (h : BV W (.slice A n c) l) : n = l.length ∧ n ≤ c := by
  obtain ⟨hn, hc, _⟩ := Kd.R_reads' h.R
  exact ⟨by rw [hn, toI_length], hc⟩
theorem BV.cut0 {A : Option Addr} {n c : Nat} (h : BV W (.slice A n c) l) : BV W (.slice A 0 c) [] := by
  rcases h.2 with ⟨e, hn⟩ | ⟨g, cap, cur, e, hb, hg, hc, hm, hs, ht⟩
  · cases e
    exact BV.nil W
  · cases e
    exact ⟨rfl, .inr ⟨g, c, cur, rfl, hb, hg, Nat.zero_le _, hm, hs, rfl⟩⟩
theorem BV.BR {g n c : Nat} (h : BV W (.slice (some ⟨g, 0, none⟩) n c) l) : BR W g 5 l := by
  rcases h.2 with ⟨e, hn⟩ | ⟨g', cap, cur, e, hb, hg, hc, hm, hs, ht⟩
  · cases e
  · cases e
    refine ⟨cur, 0, 0, hg, by omega, .inr rfl, fun j hj => ?_⟩
    have hj2 : j < cur.toList.length := by simp; omega
    have h1 : (cur.toList.take (l.length * 1))[j]? = (encs (Value.int .u8) (toI l))[j]? := by rw [ht]
    rw [List.getElem?_take, if_pos (by omega)] at h1
    rw [← Array.getElem?_toList, h1]
    simp [encs, toI, hj]
end
def RV (W : World) (v : Value) (l : List UInt8) : Prop := (v = .slice none 0 0 ∧ l = []) ∨ ∃ g c, v = .slice (some ⟨g, 0, none⟩) l.length c ∧ l.length ≤ c ∧ Go.Proofs.Ytbkeakeldegkeaa.Q.BR W g 5 l
def RW (b : Bool) (W : World) (v : Value) (l : List UInt8) : Prop := if b = true then BV W v l else RV W v l ∧ l.length ≤ 4611686018427387904
section
variable {W W' : World} {v : Value} {l : List UInt8} {b : Bool}
theorem RW.bv (h : RW true W v l) : BV W v l := h
theorem BV.rw (h : BV W v l) : RW true W v l := h
theorem RW.move (h : RW b W v l) (hm : ∀ k, v.ownBlock = some k → W'.heap[k]? = W.heap[k]?) : RW b W' v l := by
  cases b
  · refine ⟨h.1.imp id ?_, h.2⟩
    rintro ⟨g, c, e, hc, hb⟩
    exact ⟨g, c, e, hc, hb.heap (hm g (by rw [e]; rfl))⟩
  · exact BV.move h hm
theorem RW.lt (h : RW b W v l) : ∀ k, v.ownBlock = some k → k < W.heap.size := by
  cases b
  · rcases h.1 with ⟨rfl, _⟩ | ⟨g, c, rfl, hc, hb⟩
    · intro k hk; cases hk
    · intro k hk
      have : g = k := by simpa [Value.ownBlock] using hk
      subst this
      exact hb.lt
  · exact BV.lt h
theorem RW.type (h : RW b W v l) {k : Nat} (hk : v.ownBlock = some k) : ∃ C f, W.heap[k]? = some (.cells C 5 f) := by
  cases b
  · rcases h.1 with ⟨rfl, _⟩ | ⟨g, c, rfl, hc, hb⟩
    · cases hk
    · have : g = k := by simpa [Value.ownBlock] using hk
      subst this
      obtain ⟨C, lo, hi, hg, _⟩ := hb.out
      exact ⟨C, _, hg⟩
  · obtain ⟨C, hC⟩ := BV.type h hk
    exact ⟨C, _, hC⟩
theorem RW.slice (h : RW b W v l) : ∃ A c, v = .slice A l.length c ∧ l.length ≤ c ∧ (∀ a, A = some a → a = ⟨a.block, 0, none⟩) := by
  cases b
  · rcases h.1 with ⟨rfl, rfl⟩ | ⟨g, c, rfl, hc, hb⟩
    · exact ⟨none, 0, rfl, Nat.le_refl _, fun a ha => by cases ha⟩
    · exact ⟨_, c, rfl, hc, fun a ha => by cases ha; rfl⟩
  · obtain ⟨A, c, e, hc, ha⟩ := BV.slice h
    exact ⟨A, c, e, hc, fun a h => (ha a h).2⟩
theorem RW.C {A : Option Addr} {n c : Nat} (h : RW b W (.slice A n c) l) : Kd.C (Kd.int .u8) W A n (toI l) := by
  cases b
  · rcases h.1 with ⟨e, rfl⟩ | ⟨g, c, e, hc, hb⟩
    · cases e
      exact (BV.nil W).C
    · cases e
      have hl := h.2
      refine Kd.C_of_reads (enc := Value.int .u8) (d := (0 : Int)) (h1 := fun _ => rfl) ⟨by rw [toI_length], by omega, fun _ => ⟨_, rfl, fun j hj => ?_⟩⟩
      rw [show (Addr.add ⟨g, 0, none⟩ j : Addr) = ⟨g, j, none⟩ by unfold Addr.add; by_cases hj0 : j = 0 <;> simp [hj0]]
      rw [hb.cell j hj]
      simp [toI, hj]
  · exact BV.C h
theorem RW.cap {A : Option Addr} {n c : Nat} (h : RW b W (.slice A n c) l) : n = l.length ∧ n ≤ c := by
  obtain ⟨A', c', e, hc, _⟩ := h.slice
  cases e
  exact ⟨rfl, hc⟩
end
section
variable {P : Program} {ops : Array Oper} {rest : List Oper} {o : Oper} {a : Act} {Q : Exit → Act → World → Prop} {W : World}
theorem app_BV (hgd : o.guard = none) (s x : Operand) (t : TypeId) (ho : o.op = .call { callee := .builtin .append, args := #[s, x], argTypes := #[t, t] })
    (ht : P.underlying t = some (.slice 5)) (hinfo : (P.info? 5).map (fun i => (i.zero, i.size, i.bytes)) = some (some (.int .u8 0), 1, 1))
    (v : Value) (l m : List UInt8) (A : Option Addr) (n c : Nat) (hs : a.eval s = v) (hx : a.eval x = .slice A n c) (hv : BV W v l) (hm : Kd.C (Kd.int .u8) W A n (toI m)) (hl : l.length + m.length ≤ 140737488355328)
    (h : ∀ v1 W1, BV W1 v1 (l ++ m) → Only (fun j => v.ownBlock = some j) W W1 → (v1.ownBlock = v.ownBlock ∨ ∃ b, v1.ownBlock = some b ∧ W.heap.size ≤ b) → wpList P ops Q rest (a.put o.dst v1) W1) : wpList P ops Q (o :: rest) a W := by
  have hn : n = m.length := by have := hm.1; rw [toI_length] at this; exact this.symm
  refine Kd.R_append_rows (Kd.int .u8) (w0 := W) 0 hgd s x t 5 (.int .u8 0) 1 ho ht hinfo rfl (by decide) (by omega) v (toI l) (toI m) A n c (fun _ => True) (fun _ => False) hs hx hv.R hm (fun _ _ h => h) (fun _ h => h.elim) (fun _ _ => trivial) (Below.refl _ _) (Nat.zero_le _) (by rw [toI_length, hn]; omega) ?_
  intro v1 w1 hr _ hg hat
  refine h v1 w1 (BV.of_R (by rw [toI_append]; exact hr)) (Only.of_grown hg) hat
theorem cut0_run {P : Program} {t e : TypeId} {i : TypeInfo} (ht : P.underlying t = some (.slice e)) (hi : P.info? e = some i) (A : Option Addr) (m c n : Nat) (x : Int) (hx : x = (n : Int)) (hn : n ≤ c) :
    ∀ W : World, (Instr.slice t (.slice A m c) none (some (.int .i64 x)) none).run P W = .ok (.slice A n c) W := by
  intro W
  have hel : P.elem t = e := by simp [Program.elem, ht]
  have hu : P.underlying t = some (.slice (P.elem t)) := by rw [hel]; exact ht
  have ha : (A.map fun x => x.add 0) = A := by cases A <;> simp [Addr.add]
  rw [run_slice_h W t A m c hu .i64 x (by omega) (by omega), hel]
  simp [sizeOf, typeInfo, hi, sliced, Result.andThen, ha, hx]
end
theorem BR.C {W : World} {g : Nat} {m : List UInt8} (h : Go.Proofs.Ytbkeakeldegkeaa.Q.BR W g 5 m) (hm : m.length ≤ 4611686018427387904) : Kd.C (Kd.int .u8) W (some ⟨g, 0, none⟩) m.length (toI m) := by
  refine Kd.C_of_reads (enc := Value.int .u8) (d := (0 : Int)) (h1 := fun _ => rfl) ⟨by rw [toI_length], by omega, fun _ => ⟨_, rfl, fun j hj => ?_⟩⟩
  rw [show (Addr.add ⟨g, 0, none⟩ j : Addr) = ⟨g, j, none⟩ by unfold Addr.add; by_cases hj0 : j = 0 <;> simp [hj0]]
  have := Go.Proofs.Ytbkeakeldegkeaa.Q.BR.cell h j hj
  rw [this]
  simp [toI, hj]
structure OBJ (W : World) (g : Nat) (T : TypeId) (vals : List Value) (rows : List (Option (Bool × List UInt8))) : Prop where
  heap : W.heap[g]? = some (.cells vals.toArray T (0, 0))
  row : ∀ (i : Nat) (b : Bool) (l : List UInt8), rows[i]? = some (some (b, l)) → ∃ v, vals[i]? = some v ∧ RW b W v l
  sep : ∀ (i j : Nat) (l m : Bool × List UInt8) v u k, rows[i]? = some (some l) → rows[j]? = some (some m) → i ≠ j → vals[i]? = some v → vals[j]? = some u → v.ownBlock = some k → u.ownBlock ≠ some k
def Apart (g : Nat) (vals : List Value) (rows : List (Option (Bool × List UInt8))) (v : Value) : Prop := (v.ownBlock ≠ some g) ∧ ∀ (i : Nat) l u k, rows[i]? = some (some l) → vals[i]? = some u → v.ownBlock = some k → u.ownBlock ≠ some k
section
variable {W W' : World} {g : Nat} {T : TypeId} {vals : List Value} {rows : List (Option (Bool × List UInt8))}
theorem OBJ.lt (h : OBJ W g T vals rows) : g < W.heap.size := (Array.getElem?_eq_some_iff.1 h.heap).1
theorem OBJ.move (h : OBJ W g T vals rows) (hg : W'.heap[g]? = W.heap[g]?) (hm : ∀ (i : Nat) l v k, rows[i]? = some (some l) → vals[i]? = some v → v.ownBlock = some k → W'.heap[k]? = W.heap[k]?) : OBJ W' g T vals rows := by
  refine ⟨hg.trans h.heap, fun i b l hi => ?_, h.sep⟩
  obtain ⟨v, hv, hb⟩ := h.row i b l hi
  exact ⟨v, hv, hb.move fun k hk => hm i (b, l) v k hi hv hk⟩
theorem OBJ.below (h : OBJ W g T vals rows) (hb : Below W.heap.size W W') : OBJ W' g T vals rows :=
  h.move (hb.block g h.lt) fun i l v k hi hv hk => by
    obtain ⟨v', hv', hb'⟩ := h.row i l.1 l.2 hi
    rw [hv] at hv'; cases hv'
    exact hb.block k (hb'.lt k hk)
theorem OBJ.drop (h : OBJ W g T vals rows) (i : Nat) : OBJ W g T vals (rows.set i none) := by
  have key : ∀ (j : Nat) l, (rows.set i none)[j]? = some (some l) → rows[j]? = some (some l) := fun j l hj => by
    rw [List.getElem?_set] at hj
    by_cases e : i = j
    · rw [if_pos e] at hj
      split at hj <;> cases hj
    · rwa [if_neg e] at hj
  exact ⟨h.heap, fun j b l hj => h.row j b l (key j (b, l) hj), fun a b l m v u k ha hb => h.sep a b l m v u k (key a l ha) (key b m hb)⟩
theorem OBJ.apart (h : OBJ W g T vals rows) (hT : T ≠ 5) (i : Nat) {l : Bool × List UInt8} {v u : Value} (hi : rows[i]? = some (some l)) (hv : vals[i]? = some v) (hu : u.ownBlock = v.ownBlock) : Apart g vals (rows.set i none) u := by
  obtain ⟨v', hv', hb⟩ := h.row i l.1 l.2 hi
  rw [hv] at hv'; cases hv'
  refine ⟨fun e => ?_, fun j m y k hj hy hk => ?_⟩
  · rw [hu] at e
    obtain ⟨C, f, hC⟩ := hb.type e
    rw [h.heap] at hC
    cases hC
    exact hT rfl
  · rw [List.getElem?_set] at hj
    by_cases e : i = j
    · rw [if_pos e] at hj
      split at hj <;> cases hj
    · rw [if_neg e] at hj
      rw [hu] at hk
      exact h.sep i j l m v y k hi hj e hv hy hk
theorem Apart.nil (g : Nat) (vals : List Value) (rows : List (Option (Bool × List UInt8))) (n c : Nat) : Apart g vals rows (.slice none n c) := ⟨fun e => by simp [Value.ownBlock] at e, fun i l u k _ _ hk => by simp [Value.ownBlock] at hk⟩
theorem OBJ.only (h : OBJ W g T vals rows) {v : Value} (ha : Apart g vals rows v) (ho : Only (fun j => v.ownBlock = some j) W W') : OBJ W' g T vals rows :=
  h.move (ho.block g h.lt (fun e => ha.1 e)) fun i l u k hi hu hk => by
    obtain ⟨v', hv', hb'⟩ := h.row i l.1 l.2 hi
    rw [hu] at hv'; cases hv'
    exact ho.block k (hb'.lt k hk) (fun e => ha.2 i l u k hi hu e hk)
theorem OBJ.apart_new (h : OBJ W g T vals rows) {v : Value} {b : Nat} (hv : v.ownBlock = some b) (hb : W.heap.size ≤ b) : Apart g vals rows v := by
  refine ⟨fun e => ?_, fun i l u k hi hu hk hc => ?_⟩
  · rw [hv] at e
    cases e
    have := h.lt
    omega
  · rw [hv] at hk
    cases hk
    obtain ⟨v', hv', hb'⟩ := h.row i l.1 l.2 hi
    rw [hu] at hv'; cases hv'
    have := hb'.lt b hc
    omega
theorem OBJ.store (h : OBJ W g T vals rows) (hT : T ≠ 5) (i : Nat) (hi : i < vals.length) (v : Value) (f : Bool) (l : List UInt8) (hv : RW f W v l) (ha : Apart g vals (rows.set i none) v) : OBJ (W.setCell ⟨g, i, none⟩ v) g T (vals.set i v) (rows.set i (some (f, l))) := by
  have hg : (W.setCell ⟨g, i, none⟩ v).heap[g]? = some (.cells (vals.set i v).toArray T (0, 0)) := by
    simp only [World.setCell, Array.getElem?_modify, if_pos]
    rw [h.heap]
    simp
  have oth : ∀ k, k ≠ g → (W.setCell ⟨g, i, none⟩ v).heap[k]? = W.heap[k]? := fun k hk => Below.heap_setCell _ _ _ _ hk
  have ng : ∀ {u : Value} {c : Bool} {m : List UInt8} {k : Nat}, RW c W u m → u.ownBlock = some k → k ≠ g := fun {u c m k} hb hk e => by
    obtain ⟨C, f', hC⟩ := hb.type hk
    rw [e, h.heap] at hC
    cases hC
    exact hT rfl
  have old : ∀ (j : Nat) m, j ≠ i → (rows.set i (some (f, l)))[j]? = some (some m) → rows[j]? = some (some m) := fun j m hj hr => by
    rw [List.getElem?_set, if_neg (fun e => hj e.symm)] at hr; exact hr
  have non : ∀ (j : Nat) m, j ≠ i → rows[j]? = some (some m) → (rows.set i none)[j]? = some (some m) := fun j m hj hr => by
    rw [List.getElem?_set, if_neg (fun e => hj e.symm)]; exact hr
  refine ⟨hg, fun j c m hj => ?_, ?_⟩
  · by_cases e : j = i
    · subst e
      have hm : (c, m) = (f, l) := by
        rw [List.getElem?_set, if_pos rfl] at hj
        split at hj
        · exact (Option.some.inj (Option.some.inj hj)).symm
        · cases hj
      cases hm
      exact ⟨v, by rw [List.getElem?_set, if_pos rfl, if_pos hi], hv.move fun k hk => oth k (fun e => ha.1 (e ▸ hk))⟩
    · obtain ⟨u, hu, hb⟩ := h.row j c m (old j (c, m) e hj)
      exact ⟨u, by rw [List.getElem?_set, if_neg (fun e' => e e'.symm)]; exact hu, hb.move fun k hk => oth k (ng hb hk)⟩
  · intro a b la lb va vb k hra hrb hab hva hvb hka
    by_cases ea : a = i
    · subst ea
      rw [List.getElem?_set, if_pos rfl, if_pos hi] at hva
      cases hva
      rw [List.getElem?_set, if_neg hab] at hvb
      exact ha.2 b lb vb k (non b lb (fun e => hab e.symm) (old b lb (fun e => hab e.symm) hrb)) hvb hka
    · rw [List.getElem?_set, if_neg (fun e => ea e.symm)] at hva
      by_cases eb : b = i
      · subst eb
        rw [List.getElem?_set, if_pos rfl, if_pos hi] at hvb
        cases hvb
        intro hc
        exact ha.2 a la va k (non a la ea (old a la ea hra)) hva hc hka
      · rw [List.getElem?_set, if_neg (fun e => eb e.symm)] at hvb
        exact h.sep a b la lb va vb k (old a la ea hra) (old b lb eb hrb) hab hva hvb hka
theorem OBJ.put (h : OBJ W g T vals rows) (hT : T ≠ 5) (i : Nat) (hi : i < vals.length) (v : Value) (hr : ∀ l, rows[i]? ≠ some (some l)) : OBJ (W.setCell ⟨g, i, none⟩ v) g T (vals.set i v) rows := by
  have hg : (W.setCell ⟨g, i, none⟩ v).heap[g]? = some (.cells (vals.set i v).toArray T (0, 0)) := by
    simp only [World.setCell, Array.getElem?_modify, if_pos]
    rw [h.heap]
    simp
  have nei : ∀ (j : Nat) l, rows[j]? = some (some l) → i ≠ j := fun j l hj e => hr l (e ▸ hj)
  have same : ∀ (j : Nat) l, rows[j]? = some (some l) → (vals.set i v)[j]? = vals[j]? := fun j l hj => by rw [List.getElem?_set, if_neg (nei j l hj)]
  refine ⟨hg, fun j c l hj => ?_, fun a b la lb va vb k hra hrb hab hva hvb => ?_⟩
  · obtain ⟨u, hu, hb⟩ := h.row j c l hj
    refine ⟨u, (same j (c, l) hj).trans hu, hb.move fun k hk => Below.heap_setCell _ _ _ _ (fun e => ?_)⟩
    obtain ⟨C, f, hC⟩ := hb.type hk
    rw [e, h.heap] at hC
    cases hC
    exact hT rfl
  · rw [same a la hra] at hva
    rw [same b lb hrb] at hvb
    exact h.sep a b la lb va vb k hra hrb hab hva hvb
theorem OBJ.cell (h : OBJ W g T vals rows) (i : Nat) (v : Value) (hv : vals[i]? = some v) : W.cell? ⟨g, i, none⟩ = some v := by
  unfold World.cell?
  rw [h.heap]
  show vals.toArray[i]? = some v
  rw [List.getElem?_toArray]
  exact hv
theorem OBJ.fz (h : OBJ W g T vals rows) (i : Nat) : W.frozen? ⟨g, i, none⟩ = false := by unfold World.frozen?; rw [h.heap]; simp
end
theorem OBJ.fresh {W : World} {g : Nat} {T : TypeId} {vals : List Value} {rows : List (Option (Bool × List UInt8))} (hg : W.heap[g]? = some (.cells vals.toArray T (0, 0))) (h0 : ∀ v ∈ vals, v.ownBlock = none) (hr : ∀ (i : Nat) (b : Bool) (l : List UInt8), rows[i]? = some (some (b, l)) → l = [] ∧ vals[i]? = some (.slice none 0 0)) : OBJ W g T vals rows := by
  refine ⟨hg, fun i b l hi => ?_, fun i j l m v u k _ _ _ hv _ hk => ?_⟩
  · obtain ⟨rfl, hv⟩ := hr i b l hi
    refine ⟨_, hv, ?_⟩
    cases b
    · exact ⟨.inl ⟨rfl, rfl⟩, Nat.zero_le _⟩
    · exact BV.nil W
  · rw [h0 v (List.mem_of_getElem? hv)] at hk
    cases hk
theorem OBJ.refill {W W1 : World} {g : Nat} {T : TypeId} {vals : List Value} {rows : List (Option (Bool × List UInt8))} (h : OBJ W g T vals rows) (hT : T ≠ 5) (i : Nat) {l : Bool × List UInt8} {v0 v v1 : Value} (hi : rows[i]? = some (some l)) (hv : vals[i]? = some v0) (hsame : v.ownBlock = v0.ownBlock)
    (ho : Only (fun j => v.ownBlock = some j) W W1) (hat : v1.ownBlock = v.ownBlock ∨ ∃ b, v1.ownBlock = some b ∧ W.heap.size ≤ b) : OBJ W1 g T vals (rows.set i none) ∧ Apart g vals (rows.set i none) v1 := by
  have ha := h.apart hT i hi hv hsame
  have hd := h.drop i
  refine ⟨hd.only ha ho, ?_⟩
  rcases hat with e | ⟨b, hb1, hb2⟩
  · exact ⟨by rw [e]; exact ha.1, fun j m u k hj hu hk => ha.2 j m u k hj hu (by rw [← e]; exact hk)⟩
  · exact hd.apart_new hb1 hb2
theorem OBJ.restore {W1 : World} {g : Nat} {T : TypeId} {vals : List Value} {rows : List (Option (Bool × List UInt8))} (hT : T ≠ 5) (i : Nat) (hi : i < vals.length) {v1 : Value} {f : Bool} {l1 : List UInt8} (h : OBJ W1 g T vals (rows.set i none)) (ha : Apart g vals (rows.set i none) v1) (hb : RW f W1 v1 l1) : OBJ (W1.setCell ⟨g, i, none⟩ v1) g T (vals.set i v1) (rows.set i (some (f, l1))) := by
  have := OBJ.store h hT i hi v1 f l1 hb (by rw [List.set_set]; exact ha)
  rwa [List.set_set] at this
section
variable {w0 w W W1 : World} {v0 v v1 : Value} {g : Nat} {T : TypeId} {vals : List Value} {rows : List (Option (Bool × List UInt8))} {acc acc1 : List UInt8}
variable {P : Program} {ops : Array Oper} {rest : List Oper} {o : Oper} {a : Act} {Q : Exit → Act → World → Prop}
end
end Go.Proofs.Ytbkeakeldegkeaa.Ob
end
section
namespace Go.Proofs.Ytbkeakeldegkeaa.Q
open Go.RowKit Go.Proofs.YtbkeakeldegkeaaW.PrintWords Go.Proofs.YtbkeakeldegkeaaW.PrintLast Go.Proofs.YtbkeakeldegkeaaW.PrintMore
attribute [local go_sem] max2_int min2_int max_two min_two max_three min_three max_four min_four
set_option linter.unusedVariables false
set_option linter.unusedSimpArgs false
end Go.Proofs.Ytbkeakeldegkeaa.Q
namespace Go.Proofs.Ytbkeakeldegkeaa.Q
open Go.RowKit Go.Proofs.YtbkeakeldegkeaaW.PrintWords Go.Proofs.YtbkeakeldegkeaaW.PrintLast Go.Proofs.YtbkeakeldegkeaaW.PrintMore
attribute [local go_sem] max2_int min2_int max_two min_two max_three min_three max_four min_four
set_option linter.unusedVariables false
set_option linter.unusedSimpArgs false
end Go.Proofs.Ytbkeakeldegkeaa.Q
end
section
namespace Go.Proofs.YtbkeakeldegkeaaX
open Go.RowKit Go.Proofs.YtbkeakeldegkeaaW.PrintWords
theorem run_idxb {P : Program} {w : World} (A : Option Addr) (c : Nat) (xs : List Int) (h : Kd.C (Kd.int .u8) w A xs.length xs) (cv : Int) :
    (Extern.BytealgIndexByte.indexByte #[.slice A xs.length c, .int .u8 cv]).run P w = .ok (.int .i64 (Lib.indexByte (Lib.bytesOf xs) cv.toNat.toUInt8)) w := by
  cases A with
  | none =>
    have hx : xs = [] := by
      cases xs with
      | nil => rfl
      | cons y t => obtain ⟨ad, e, _⟩ := Kd.at_int h 0 (Int.le_refl _) (by simp); cases e
    subst hx
    exact Lib.run_indexByteNil w _ _ _
  | some ad =>
    obtain ⟨b, off, spot⟩ := ad
    cases spot with
    | none =>
      refine Lib.run_indexByteSlice w b off xs.length c xs rfl (fun i hi => ?_) cv
      obtain ⟨ad, e, hc⟩ := Kd.at_int h (i : Int) (by omega) (by omega)
      cases e
      rw [show (⟨b, off, none⟩ : Addr).add (i : Int).toNat = ⟨b, off + i, none⟩ by unfold Addr.add; by_cases hj0 : i = 0 <;> simp [hj0]] at hc
      exact hc
    | some sp =>
      have hx : xs = [] := by
        cases xs with
        | nil => rfl
        | cons y t =>
          obtain ⟨ad, e, hc⟩ := Kd.at_int h 0 (Int.le_refl _) (by simp)
          cases e
          have : w.cell? ⟨b, off, some sp⟩ = none := by unfold World.cell?; cases w.heap[b]? with | none => rfl | some o => cases o <;> rfl
          rw [show (⟨b, off, some sp⟩ : Addr).add (0 : Int).toNat = ⟨b, off, some sp⟩ from rfl, this] at hc
          cases hc
      subst hx
      exact Lib.run_indexByteSlice (P := P) w 0 0 0 c [] rfl (fun i hi => absurd hi (by omega)) cv
end Go.Proofs.YtbkeakeldegkeaaX
end
section
namespace Go.Proofs.Ytbkeakeldegkeaa.Q
open Go.RowKit Go.Proofs.YtbkeakeldegkeaaW.PrintWords Go.Proofs.YtbkeakeldegkeaaW.PrintLast Go.Proofs.YtbkeakeldegkeaaW.PrintMore
attribute [local go_sem] max2_int min2_int max_two min_two max_three min_three max_four min_four
set_option linter.unusedVariables false
set_option linter.unusedSimpArgs false
def hertzproto_addLeadingSlash.f (l0 : List Int) (l1 : List Int) : Option (List Int) := if (l1.length : Int) = 0 then (if l0.length < 140737488355328 then (some (l0 ++ [47])) else (none)) else (if 0 < (l1.length : Int) then (if (rd l1 0) = 47 then (some l0) else (if l0.length < 140737488355328 then (some (l0 ++ [47])) else (none))) else (none))
set_option maxHeartbeats 8000000 in
set_option maxRecDepth 100000 in
theorem hertzproto_addLeadingSlash.calls (P0_ : Nat → Prop) (u9000_ : Value) (l0 : List Int) (A1 : Option Addr) (c1 : Nat) (l1 : List Int) (r : List Int) (w0 w : World) (hB : Below w0.heap.size w0 w) (ho0 : Kd.R (Kd.int .u8) 5 w w0.heap.size P0_ u9000_ l0) (hr1 : ∀ W_, Kept w W_ (fun k_ => P0_ k_) → Kd.C (Kd.int .u8) W_ A1 l1.length l1) (hc1 : l1.length ≤ c1) (h : hertzproto_addLeadingSlash.f l0 l1 = some r) :
    Calls Try.prog 92 #[u9000_, .slice A1 l1.length c1] w fun e w' => ∃ v0_ : Value, e = .returned (v0_) ∧ Kd.R (Kd.int .u8) 5 w' w0.heap.size (fun k_ => (P0_ k_ ∨ w.heap.size ≤ k_)) v0_ r ∧ Below w0.heap.size w0 w' ∧ Kept w w' (fun k_ => P0_ k_) := by
  have HO0 := Aside0.mk (show Kd.R (Kd.int .u8) 5 w w0.heap.size (fun k_ => (P0_ k_ ∨ w.heap.size ≤ k_)) u9000_ l0 from Kd.R_mono ho0 (fun k_ hk => (.inl hk)))
  have HR1 := Aside0.mk hr1
  have HC1 := Aside0.mk hc1
  clear hr1 hc1
  have HK := Aside0.mk (Kept.refl w (fun k_ => P0_ k_))
  have HW0 := Aside0.mk hB.size
  have HB := Aside0.mk hB
  clear hB
  have H : (if (l1.length : Int) = 0 then (if l0.length < 140737488355328 then (some (l0 ++ [47])) else (none)) else (if 0 < (l1.length : Int) then (if (rd l1 0) = 47 then (some l0) else (if l0.length < 140737488355328 then (some (l0 ++ [47])) else (none))) else (none))) = some r := h
  clear h
  by_cases c3 : (l1.length : Int) = 0
  · rw [if_pos c3] at H
    have c3b0 : ((l1.length : Int) == 0) = true := beq_iff_eq.mpr c3
    have c3b1 : ((l1.length : Int) != 0) = false := bne_eq_false_iff_eq.mpr c3
    clear c3
    by_cases c4 : l0.length < 140737488355328
    · rw [if_pos c4] at H
      have LMc4 := Aside0.mk c4
      clear c4
      obtain ⟨y105, hy105⟩ : ∃ y_ : List Int, y_ = (l0 ++ [47]) := ⟨_, rfl⟩
      replace H : (some y105) = some r := by first | (rw [hy105]; with_reducible exact H) | (have H2_ := (Option.bind_some _ _).symm.trans H; rw [hy105]; with_reducible exact H2_) | (have H2_ := (Option.bind_some _ _).symm.trans H; with_reducible exact H2_) | with_reducible exact H | (rw [hy105]; exact H) | exact H
      have Ny105 := Aside0.mk hy105
      clear hy105
      obtain rfl := Option.some.inj H
      go_enter Try.func92, Try.ntmps92
      go_wp2_with (first | ((with_reducible refine gate_builtin (b := .append) (xs := #[.tmp 14, .tmp 15]) rfl ?_); at_builtin; refine Kd.R_append (Kd.int .u8) (w0 := w0) w0.heap.size rfl (.tmp 14) (.tmp 15) 49 5 (.int .u8 0) 1 rfl Try.underlying49 info5 rfl (by decide) (by omega) u9000_ l0 47 [.int .u8 47] (fun k_ => (P0_ k_ ∨ w.heap.size ≤ k_)) (fun _ => False) rfl rfl ?aP (fun _ hk => hk.elim) ?aF ?aO ?aB ?aS ?aL ?_; (case aP => exact rfl); (case aB => exact (by repeat (first | (with_reducible first | exact HB.out | apply below_alloc | apply pw_below_drewN | apply below_drew1) | exact HB.out))); (case aF => exact (fun k_ hk => (.inr (Nat.le_trans (by first | exact HK.out.1 | exact (show Kept w _ (fun k_ => P0_ k_) from by repeat (first | (with_reducible first | exact HK.out | apply Kept.alloc | apply Kept.drewN | apply Kept.drew) | exact HK.out)).1) hk)))); (case aO => exact (by (with_reducible repeat (first | apply Kd.R_alloc | apply Kd.R_drewN | apply Kd.R_drew)); exact HO0.out)); (case aS => exact (below_size (by repeat (first | (with_reducible first | exact HB.out | apply below_alloc | apply pw_below_drewN | apply below_drew1) | exact HB.out)))); (case aL => have := LMc4.out; omega); intro v106 w5 ho hb hg hat; rw [← Ny105.out] at ho; have n0_ := Aside0.mk (hb); have n1_ := Aside0.mk (Kept.of_grown (S := (fun k_ => P0_ k_)) hg (by repeat (first | (with_reducible first | exact HK.out | apply Kept.alloc | apply Kept.drewN | apply Kept.drew) | exact HK.out)) (fun k_ e_ => (HO0.out.1 k_ e_))); have n2_ := Aside0.mk (ho); clear HB; clear HK; clear HO0; have HB := n0_; have HK := n1_; have HO107 := n2_; clear n0_ n1_ n2_; clear ho hb hg hat))
      go_ret
      exact ⟨_, by first | rfl | (simp [errW_none, errW_some] <;> rfl) | (simp [*, errW_none, errW_some] <;> rfl), by (with_reducible repeat (first | apply Kd.R_alloc | apply Kd.R_drewN | apply Kd.R_drew)); exact HO107.out, by repeat (first | (with_reducible first | exact HB.out | apply below_alloc | apply pw_below_drewN | apply below_drew1) | exact HB.out), by repeat (first | (with_reducible first | exact HK.out | apply Kept.alloc | apply Kept.drewN | apply Kept.drew) | exact HK.out)⟩
    · rw [if_neg c4] at H
      exact absurd H (by simp)
  · rw [if_neg c3] at H
    have c3b0 : ((l1.length : Int) == 0) = false := beq_eq_false_iff_ne.mpr c3
    have c3b1 : ((l1.length : Int) != 0) = true := bne_iff_ne.mpr c3
    have c3b2 : ¬ (l1 = []) := fun h_ => c3 (by rw [h_]; rfl)
    by_cases c6 : 0 < (l1.length : Int)
    · rw [if_pos c6] at H
      have c6b0 : decide (0 < (l1.length : Int)) = true := decide_eq_true c6
      have c6b1 : decide (0 < l1.length) = true := decide_eq_true (by omega)
      clear c6
      by_cases c7 : (rd l1 0) = 47
      · rw [if_pos c7] at H
        have c7b0 : ((rd l1 0) == 47) = true := beq_iff_eq.mpr c7
        have c7b1 : ((rd l1 0) != 47) = false := bne_eq_false_iff_eq.mpr c7
        clear c7
        obtain rfl := Option.some.inj H
        have p108 : 0 ≤ (0 : Int) := (by omega)
        have q108 : 0 < (l1.length : Int) := of_decide_eq_true (by first | (with_reducible assumption) | assumption)
        obtain ⟨ad108, e108, hx108_0⟩ := Kd.at_int (Kd.C_kept_now HR1.out HK.out) 0 p108 q108
        cases e108
        have qi108 : (0 < l1.length) = True := eq_true (by omega)
        (try rw [show ((0 : Int)).toNat = 0 from rfl] at hx108_0)
        (try rw [Addr.add_zero'] at hx108_0)
        replace p108 := eq_true p108
        replace q108 := eq_true q108
        go_enter Try.func92, Try.ntmps92
        go_wp2
        go_ret
        exact ⟨_, by first | rfl | (simp [errW_none, errW_some] <;> rfl) | (simp [*, errW_none, errW_some] <;> rfl), by (with_reducible repeat (first | apply Kd.R_alloc | apply Kd.R_drewN | apply Kd.R_drew)); exact HO0.out, by repeat (first | (with_reducible first | exact HB.out | apply below_alloc | apply pw_below_drewN | apply below_drew1) | exact HB.out), by repeat (first | (with_reducible first | exact HK.out | apply Kept.alloc | apply Kept.drewN | apply Kept.drew) | exact HK.out)⟩
      · rw [if_neg c7] at H
        have c7b0 : ((rd l1 0) == 47) = false := beq_eq_false_iff_ne.mpr c7
        have c7b1 : ((rd l1 0) != 47) = true := bne_iff_ne.mpr c7
        by_cases c8 : l0.length < 140737488355328
        · rw [if_pos c8] at H
          have LMc8 := Aside0.mk c8
          clear c8
          obtain ⟨y109, hy109⟩ : ∃ y_ : List Int, y_ = (l0 ++ [47]) := ⟨_, rfl⟩
          replace H : (some y109) = some r := by first | (rw [hy109]; with_reducible exact H) | (have H2_ := (Option.bind_some _ _).symm.trans H; rw [hy109]; with_reducible exact H2_) | (have H2_ := (Option.bind_some _ _).symm.trans H; with_reducible exact H2_) | with_reducible exact H | (rw [hy109]; exact H) | exact H
          have Ny109 := Aside0.mk hy109
          clear hy109
          obtain rfl := Option.some.inj H
          have p108 : 0 ≤ (0 : Int) := (by omega)
          have q108 : 0 < (l1.length : Int) := of_decide_eq_true (by first | (with_reducible assumption) | assumption)
          obtain ⟨ad108, e108, hx108_0⟩ := Kd.at_int (Kd.C_kept_now HR1.out HK.out) 0 p108 q108
          cases e108
          have qi108 : (0 < l1.length) = True := eq_true (by omega)
          (try rw [show ((0 : Int)).toNat = 0 from rfl] at hx108_0)
          (try rw [Addr.add_zero'] at hx108_0)
          replace p108 := eq_true p108
          replace q108 := eq_true q108
          go_enter Try.func92, Try.ntmps92
          go_wp2_with (first | ((with_reducible refine gate_builtin (b := .append) (xs := #[.tmp 14, .tmp 15]) rfl ?_); at_builtin; refine Kd.R_append (Kd.int .u8) (w0 := w0) w0.heap.size rfl (.tmp 14) (.tmp 15) 49 5 (.int .u8 0) 1 rfl Try.underlying49 info5 rfl (by decide) (by omega) u9000_ l0 47 [.int .u8 47] (fun k_ => (P0_ k_ ∨ w.heap.size ≤ k_)) (fun _ => False) rfl rfl ?aP (fun _ hk => hk.elim) ?aF ?aO ?aB ?aS ?aL ?_; (case aP => exact rfl); (case aB => exact (by repeat (first | (with_reducible first | exact HB.out | apply below_alloc | apply pw_below_drewN | apply below_drew1) | exact HB.out))); (case aF => exact (fun k_ hk => (.inr (Nat.le_trans (by first | exact HK.out.1 | exact (show Kept w _ (fun k_ => P0_ k_) from by repeat (first | (with_reducible first | exact HK.out | apply Kept.alloc | apply Kept.drewN | apply Kept.drew) | exact HK.out)).1) hk)))); (case aO => exact (by (with_reducible repeat (first | apply Kd.R_alloc | apply Kd.R_drewN | apply Kd.R_drew)); exact HO0.out)); (case aS => exact (below_size (by repeat (first | (with_reducible first | exact HB.out | apply below_alloc | apply pw_below_drewN | apply below_drew1) | exact HB.out)))); (case aL => have := LMc8.out; omega); intro v110 w9 ho hb hg hat; rw [← Ny109.out] at ho; have n0_ := Aside0.mk (hb); have n1_ := Aside0.mk (Kept.of_grown (S := (fun k_ => P0_ k_)) hg (by repeat (first | (with_reducible first | exact HK.out | apply Kept.alloc | apply Kept.drewN | apply Kept.drew) | exact HK.out)) (fun k_ e_ => (HO0.out.1 k_ e_))); have n2_ := Aside0.mk (ho); clear HB; clear HK; clear HO0; have HB := n0_; have HK := n1_; have HO111 := n2_; clear n0_ n1_ n2_; clear ho hb hg hat))
          go_ret
          exact ⟨_, by first | rfl | (simp [errW_none, errW_some] <;> rfl) | (simp [*, errW_none, errW_some] <;> rfl), by (with_reducible repeat (first | apply Kd.R_alloc | apply Kd.R_drewN | apply Kd.R_drew)); exact HO111.out, by repeat (first | (with_reducible first | exact HB.out | apply below_alloc | apply pw_below_drewN | apply below_drew1) | exact HB.out), by repeat (first | (with_reducible first | exact HK.out | apply Kept.alloc | apply Kept.drewN | apply Kept.drew) | exact HK.out)⟩
        · rw [if_neg c8] at H
          exact absurd H (by simp)
    · rw [if_neg c6] at H
      exact absurd H (by simp)
def bytes_IndexByte.f (l0 : List Int) (a1 : Int) : Option (Int) := some (Lib.indexByte (Lib.bytesOf l0) a1.toNat.toUInt8)
set_option maxHeartbeats 8000000 in
set_option maxRecDepth 100000 in
theorem bytes_IndexByte.calls (A0 : Option Addr) (c0 : Nat) (l0 : List Int) (a1 : Int) (r : Int) (w : World) (hr0 : Kd.C (Kd.int .u8) w A0 l0.length l0) (hc0 : l0.length ≤ c0) (h : bytes_IndexByte.f l0 a1 = some r) :
    Calls Try.prog 86 #[.slice A0 l0.length c0, .int .u8 a1] w fun e w' => e = .returned (.int .i64 r) ∧ Drawn0 w w' := by
  obtain rfl := Option.some.inj h
  have HR := Aside0.mk hr0
  clear hr0 h
  go_enter Try.func86, Try.ntmps86
  go_wp2
  rw [run_callFunc_extern Try.func102 (by kernel_rfl) (by kernel_rfl) (by kernel_rfl) (e := Extern.BytealgIndexByte.indexByte) (by kernel_rfl), Go.Proofs.YtbkeakeldegkeaaX.run_idxb A0 c0 l0 HR.out a1]
  simp only [Result.andThen]
  rw [Oper.upon_value]
  go_wp2
  go_ret
  exact ⟨rfl, Drawn0.refl _⟩
end Go.Proofs.Ytbkeakeldegkeaa.Q
namespace Go.Proofs.Ytbkeakeldegkeaa.Q
open Go.RowKit Go.Proofs.YtbkeakeldegkeaaW.PrintWords Go.Proofs.YtbkeakeldegkeaaW.PrintLast Go.Proofs.YtbkeakeldegkeaaW.PrintMore
attribute [local go_sem] max2_int min2_int max_two min_two max_three min_three max_four min_four
set_option linter.unusedVariables false
set_option linter.unusedSimpArgs false
def hertzproto_decodeArgAppendNoPlus.l0 : Nat → List Int → List Int → Int → Option (List Int)
  | 0, _, _, _ => none
  | k + 1, x0, x1, x5 => if x5 < (x1.length : Int) then (if 0 ≤ x5 then (if (rd x1 x5) = 37 then (if (wrap64 (x5 + 2)) ≥ (x1.length : Int) then (if x5 ≤ (x1.length : Int) then ((some (x1.drop (x5 : Int).toNat : List Int)).bind fun y117 => (if x0.length + y117.length < 140737488355328 then (some (x0 ++ y117)) else (none))) else (none)) else (if 0 ≤ (wrap64 (x5 + 2)) then (if (wrap64 (x5 + 2)) < (x1.length : Int) then (if 0 ≤ (rd x1 (wrap64 (x5 + 2))) then (if (rd x1 (wrap64 (x5 + 2))) < (tab1.size : Int) then (if 0 ≤ (wrap64 (x5 + 1)) then (if (wrap64 (x5 + 1)) < (x1.length : Int) then (if 0 ≤ (rd x1 (wrap64 (x5 + 1))) then (if (rd x1 (wrap64 (x5 + 1))) < (tab1.size : Int) then (if (bt tab1 (rd x1 (wrap64 (x5 + 1)))) = 16 then (if x0.length < 140737488355328 then (hertzproto_decodeArgAppendNoPlus.l0 k (x0 ++ [37]) x1 (wrap64 (x5 + 1))) else (none)) else (if (bt tab1 (rd x1 (wrap64 (x5 + 2)))) = 16 then (if x0.length < 140737488355328 then (hertzproto_decodeArgAppendNoPlus.l0 k (x0 ++ [37]) x1 (wrap64 (x5 + 1))) else (none)) else (if x0.length < 140737488355328 then (hertzproto_decodeArgAppendNoPlus.l0 k (x0 ++ [Go.bits .or .u8 (((bt tab1 (rd x1 (wrap64 (x5 + 1)))) * 16) % 256) (bt tab1 (rd x1 (wrap64 (x5 + 2))))]) x1 (wrap64 ((wrap64 (x5 + 2)) + 1))) else (none)))) else (none)) else (none)) else (none)) else (none)) else (none)) else (none)) else (none)) else (none))) else (if x0.length < 140737488355328 then (hertzproto_decodeArgAppendNoPlus.l0 k (x0 ++ [rd x1 x5]) x1 (wrap64 (x5 + 1))) else (none))) else (none)) else (some x0)
def hertzproto_decodeArgAppendNoPlus.f (k : Nat) (l0 : List Int) (l1 : List Int) : Option (List Int) := (bytes_IndexByte.f l1 37).bind fun t112 => (if t112 < 0 then (if l0.length + l1.length < 140737488355328 then (some (l0 ++ l1)) else (none)) else (hertzproto_decodeArgAppendNoPlus.l0 k l0 l1 0))
set_option maxHeartbeats 8000000 in
set_option maxRecDepth 100000 in
theorem hertzproto_decodeArgAppendNoPlus.calls (k : Nat) (P0_ : Nat → Prop) (u9000_ : Value) (l0 : List Int) (A1 : Option Addr) (c1 : Nat) (l1 : List Int) (r : List Int) (w0 w : World) (hB : Below w0.heap.size w0 w) (ho0 : Kd.R (Kd.int .u8) 5 w w0.heap.size P0_ u9000_ l0) (hr1 : ∀ W_, Kept w W_ (fun k_ => P0_ k_) → Kd.C (Kd.int .u8) W_ A1 l1.length l1) (hc1 : l1.length ≤ c1) (h : hertzproto_decodeArgAppendNoPlus.f k l0 l1 = some r) :
    Calls Try.prog 93 #[u9000_, .slice A1 l1.length c1] w fun e w' => ∃ v0_ : Value, e = .returned (v0_) ∧ Kd.R (Kd.int .u8) 5 w' w0.heap.size (fun k_ => (P0_ k_ ∨ w.heap.size ≤ k_)) v0_ r ∧ Below w0.heap.size w0 w' ∧ Kept w w' (fun k_ => P0_ k_) := by
  have HO0 := Aside0.mk (show Kd.R (Kd.int .u8) 5 w w0.heap.size (fun k_ => (P0_ k_ ∨ w.heap.size ≤ k_)) u9000_ l0 from Kd.R_mono ho0 (fun k_ hk => (.inl hk)))
  have HR1 := Aside0.mk hr1
  have HC1 := Aside0.mk hc1
  clear hr1 hc1
  have HK := Aside0.mk (Kept.refl w (fun k_ => P0_ k_))
  have HW0 := Aside0.mk hB.size
  have HB := Aside0.mk hB
  clear hB
  have H : ((bytes_IndexByte.f l1 37).bind fun t112 => (if t112 < 0 then (if l0.length + l1.length < 140737488355328 then (some (l0 ++ l1)) else (none)) else (hertzproto_decodeArgAppendNoPlus.l0 k l0 l1 0))) = some r := h
  clear h
  replace H := Option.bind_eq_some_iff.mp H
  obtain ⟨t112, A30, H⟩ := H
  replace H : (if t112 < 0 then (if l0.length + l1.length < 140737488355328 then (some (l0 ++ l1)) else (none)) else (hertzproto_decodeArgAppendNoPlus.l0 k l0 l1 0)) = some r := H
  have A3 := Aside0.mk A30
  clear A30
  by_cases c4 : t112 < 0
  · rw [if_pos c4] at H
    have c4b0 : decide (t112 < 0) = true := decide_eq_true c4
    clear c4
    by_cases c5 : l0.length + l1.length < 140737488355328
    · rw [if_pos c5] at H
      have LMc5 := Aside0.mk c5
      clear c5
      obtain ⟨y113, hy113⟩ : ∃ y_ : List Int, y_ = (l0 ++ l1) := ⟨_, rfl⟩
      replace H : (some y113) = some r := by first | (rw [hy113]; with_reducible exact H) | (have H2_ := (Option.bind_some _ _).symm.trans H; rw [hy113]; with_reducible exact H2_) | (have H2_ := (Option.bind_some _ _).symm.trans H; with_reducible exact H2_) | with_reducible exact H | (rw [hy113]; exact H) | exact H
      have Ny113 := Aside0.mk hy113
      clear hy113
      obtain rfl := Option.some.inj H
      go_enter Try.func93, Try.ntmps93
      go_wp2_with (first | ((with_reducible refine gate_callee (f := 86) rfl ?_); refine goesL_ (some 10) rfl rfl Try.func86 (by kernel_rfl) rfl #[.slice A1 l1.length c1, .int .u8 37] rfl (by (try simp only [List.map_toArray, List.map_cons, List.map_nil]); first | done | rfl | (simp only [List.length_drop, List.length_take]; rfl)) ?_; (with_reducible refine (bytes_IndexByte.calls _ _ l1 37 t112 _ ?side1 ?side2 A3.out).mono ?_); (case side1 => exact Kd.C_kept_now HR1.out (by repeat (first | (with_reducible first | exact HK.out | apply Kept.alloc | apply Kept.drewN | apply Kept.drew) | exact HK.out))); (case side2 => exact HC1.out); rintro e w' ⟨rfl, ⟨nd, rfl⟩⟩; refine ⟨_, rfl, ?_⟩) | ((with_reducible refine gate_builtin (b := .append) (xs := #[.tmp 12, .tmp 13]) rfl ?_); at_builtin; refine Kd.R_append_rows (Kd.int .u8) (w0 := w0) w0.heap.size rfl (.tmp 12) (.tmp 13) 49 5 (.int .u8 0) 1 rfl Try.underlying49 info5 rfl (by decide) (by omega) u9000_ l0 l1 _ _ _ (fun k_ => (P0_ k_ ∨ w.heap.size ≤ k_)) (fun _ => False) rfl rfl ?aO ?aR (fun _ _ h => h) (fun _ h => h.elim) ?aF ?aB ?aS ?aL ?_; (case aR => exact Kd.C_kept_now HR1.out (by repeat (first | (with_reducible first | exact HK.out | apply Kept.alloc | apply Kept.drewN | apply Kept.drew) | exact HK.out))); (case aB => exact (by repeat (first | (with_reducible first | exact HB.out | apply below_alloc | apply pw_below_drewN | apply below_drew1) | exact HB.out))); (case aF => exact (fun k_ hk => (.inr (Nat.le_trans (by first | exact HK.out.1 | exact (show Kept w _ (fun k_ => P0_ k_) from by repeat (first | (with_reducible first | exact HK.out | apply Kept.alloc | apply Kept.drewN | apply Kept.drew) | exact HK.out)).1) hk)))); (case aO => exact (by (with_reducible repeat (first | apply Kd.R_alloc | apply Kd.R_drewN | apply Kd.R_drew)); exact HO0.out)); (case aS => exact (below_size (by repeat (first | (with_reducible first | exact HB.out | apply below_alloc | apply pw_below_drewN | apply below_drew1) | exact HB.out)))); (case aL => have := LMc5.out; omega); intro v114 w6 ho hb hg hat; rw [← Ny113.out] at ho; have n0_ := Aside0.mk (hb); have n1_ := Aside0.mk (Kept.of_grown (S := (fun k_ => P0_ k_)) hg (by repeat (first | (with_reducible first | exact HK.out | apply Kept.alloc | apply Kept.drewN | apply Kept.drew) | exact HK.out)) (fun k_ e_ => (HO0.out.1 k_ e_))); have n2_ := Aside0.mk (ho); clear HB; clear HK; clear HO0; have HB := n0_; have HK := n1_; have HO115 := n2_; clear n0_ n1_ n2_; clear ho hb hg hat))
      go_ret
      exact ⟨_, by first | rfl | (simp [errW_none, errW_some] <;> rfl) | (simp [*, errW_none, errW_some] <;> rfl), by (with_reducible repeat (first | apply Kd.R_alloc | apply Kd.R_drewN | apply Kd.R_drew)); exact HO115.out, by repeat (first | (with_reducible first | exact HB.out | apply below_alloc | apply pw_below_drewN | apply below_drew1) | exact HB.out), by repeat (first | (with_reducible first | exact HK.out | apply Kept.alloc | apply Kept.drewN | apply Kept.drew) | exact HK.out)⟩
    · rw [if_neg c5] at H
      exact absurd H (by simp)
  · rw [if_neg c4] at H
    have c4b0 : decide (t112 < 0) = false := decide_eq_false c4
    clear c4
    have H' := Aside0.mk H
    clear H
    go_enter Try.func93, Try.ntmps93
    go_wp2_with (first | ((with_reducible refine gate_callee (f := 86) rfl ?_); refine goesL_ (some 10) rfl rfl Try.func86 (by kernel_rfl) rfl #[.slice A1 l1.length c1, .int .u8 37] rfl (by (try simp only [List.map_toArray, List.map_cons, List.map_nil]); first | done | rfl | (simp only [List.length_drop, List.length_take]; rfl)) ?_; (with_reducible refine (bytes_IndexByte.calls _ _ l1 37 t112 _ ?side1 ?side2 A3.out).mono ?_); (case side1 => exact Kd.C_kept_now HR1.out (by repeat (first | (with_reducible first | exact HK.out | apply Kept.alloc | apply Kept.drewN | apply Kept.drew) | exact HK.out))); (case side2 => exact HC1.out); rintro e w' ⟨rfl, ⟨nd, rfl⟩⟩; refine ⟨_, rfl, ?_⟩))
    go_loopg [0, 5] k (fun kq v0 v5 w' => ∃ (x0_1 : List Int) (x5_1 : Int), v5 = .int .i64 x5_1 ∧ Aside0 (hertzproto_decodeArgAppendNoPlus.l0 kq x0_1 l1 x5_1 = some r) ∧ Aside0 (kq ≤ k) ∧ Aside0 (Kd.R (Kd.int .u8) 5 w' w0.heap.size (fun k_ => (P0_ k_ ∨ w.heap.size ≤ k_)) v0 x0_1) ∧ Aside0 (Kept w w' (fun k_ => P0_ k_)) ∧ Aside0 (Below w0.heap.size w0 w'))
    case atStart => exact ⟨(l0), (0), (by first | rfl | (simp; done) | (simp [*]; done) | (simp [Go.Proofs.YtbkeakeldegkeaaX.isEmpty_ne]; done)), H', ⟨Nat.le_refl _⟩, ⟨by (with_reducible repeat (first | apply Kd.R_alloc | apply Kd.R_drewN | apply Kd.R_drew)); exact HO0.out⟩, ⟨by repeat (first | (with_reducible first | exact HK.out | apply Kept.alloc | apply Kept.drewN | apply Kept.drew) | exact HK.out)⟩, ⟨by repeat (first | (with_reducible first | exact HB.out | apply below_alloc | apply pw_below_drewN | apply below_drew1) | exact HB.out)⟩⟩
    case round =>
      clear H'
      try clear c1
      try clear p2
      try clear c4
      try clear c4b0
      try clear c5
      obtain ⟨x0_1, x5_1, rfl, HA, HK1, HO_0, HK, HB⟩ := hrel
      cases gk with
      | zero => exact absurd HA.out (by simp [hertzproto_decodeArgAppendNoPlus.l0])
      | succ k1 =>
        have H := HA.out
        clear HA
        simp only [hertzproto_decodeArgAppendNoPlus.l0] at H
        by_cases c7 : x5_1 < (l1.length : Int)
        · rw [if_pos c7] at H
          have c7b0 : decide (x5_1 < (l1.length : Int)) = true := decide_eq_true c7
          clear c7
          by_cases c8 : 0 ≤ x5_1
          · rw [if_pos c8] at H
            have c8b0 : decide (0 ≤ x5_1) = true := decide_eq_true c8
            clear c8
            by_cases c9 : (rd l1 x5_1) = 37
            · rw [if_pos c9] at H
              have c9b0 : ((rd l1 x5_1) == 37) = true := beq_iff_eq.mpr c9
              have c9b1 : ((rd l1 x5_1) != 37) = false := bne_eq_false_iff_eq.mpr c9
              clear c9
              by_cases c10 : (wrap64 (x5_1 + 2)) ≥ (l1.length : Int)
              · rw [if_pos c10] at H
                have c10b0 : decide ((l1.length : Int) ≤ (wrap64 (x5_1 + 2))) = true := decide_eq_true c10
                clear c10
                have c11b0 := eq_true (of_decide_eq_true (by first | (with_reducible assumption) | assumption) : 0 ≤ x5_1)
                by_cases c12 : x5_1 ≤ (l1.length : Int)
                · rw [if_pos c12] at H
                  have c12b0 := eq_true c12
                  have c12b1 : decide (x5_1 ≤ (l1.length : Int)) = true := decide_eq_true c12
                  clear c12
                  obtain ⟨y117, hy117⟩ : ∃ y_ : List Int, y_ = (l1.drop (x5_1 : Int).toNat) := ⟨_, rfl⟩
                  replace H : (if x0_1.length + y117.length < 140737488355328 then (some (x0_1 ++ y117)) else (none)) = some r := by first | (rw [hy117]; with_reducible exact H) | (have H2_ := (Option.bind_some _ _).symm.trans H; rw [hy117]; with_reducible exact H2_) | (have H2_ := (Option.bind_some _ _).symm.trans H; with_reducible exact H2_) | with_reducible exact H | (rw [hy117]; exact H) | exact H
                  have Ny117 := Aside0.mk hy117
                  clear hy117
                  by_cases c13 : x0_1.length + y117.length < 140737488355328
                  · rw [if_pos c13] at H
                    have LMc13 := Aside0.mk c13
                    clear c13
                    obtain ⟨y121, hy121⟩ : ∃ y_ : List Int, y_ = (x0_1 ++ y117) := ⟨_, rfl⟩
                    replace H : (some y121) = some r := by first | (rw [hy121]; with_reducible exact H) | (have H2_ := (Option.bind_some _ _).symm.trans H; rw [hy121]; with_reducible exact H2_) | (have H2_ := (Option.bind_some _ _).symm.trans H; with_reducible exact H2_) | with_reducible exact H | (rw [hy121]; exact H) | exact H
                    have Ny121 := Aside0.mk hy121
                    clear hy121
                    obtain rfl := Option.some.inj H
                    have p116 : 0 ≤ (x5_1 : Int) := of_decide_eq_true (by first | (with_reducible assumption) | assumption)
                    have q116 : x5_1 < (l1.length : Int) := of_decide_eq_true (by first | (with_reducible assumption) | assumption)
                    obtain ⟨ad116, e116, hx116_0⟩ := Kd.at_int (Kd.C_kept_now HR1.out HK.out) x5_1 p116 q116
                    cases e116
                    replace p116 := eq_true p116
                    replace q116 := eq_true q116
                    have q14 : (x5_1 : Int) ≤ ((l1.length : Int) : Int) := of_decide_eq_true (by first | (with_reducible assumption) | assumption)
                    obtain ⟨i014, hi014, _, hsz14, _⟩ := info_parts info5
                    have hroom14 : l1.length ≤ c1 := HC1.out
                    have hC14 : Kd.C (Kd.int .u8) _ (some ad116) l1.length l1 := (Kd.C_kept_now HR1.out HK.out)
                    have q014 : (0 : Int) ≤ (x5_1 : Int) := of_decide_eq_true (by first | (with_reducible assumption) | assumption)
                    have hcut14 := cut_from (P := Try.prog) 49 5 .i64 Try.underlying49 hi014 1 hsz14 (some ad116) l1.length c1 x5_1 q014 q14
                    have hr14 := Kd.C_drop (m := (x5_1 : Int).toNat) (c := c1) hC14 (by omega) hroom14
                    obtain ⟨A14, hA14⟩ : ∃ zq_, zq_ = (if c1 = (x5_1 : Int).toNat then (some ad116) else ((some ad116) : Option Addr).map (·.add ((x5_1 : Int).toNat * 1))) := ⟨_, rfl⟩
                    obtain ⟨c14, hc14⟩ : ∃ zq_, zq_ = c1 - (x5_1 : Int).toNat := ⟨_, rfl⟩
                    have hy14 : y117.length = l1.length - (x5_1 : Int).toNat := (by rw [Ny117.out, List.length_drop] <;> omega)
                    rw [show (l1).drop (x5_1 : Int).toNat = y117 from Ny117.out.symm] at hr14
                    replace hr14 : Kd.C (Kd.int .u8) _ A14 y117.length y117 := (by rw [hA14]; exact hr14)
                    rw [← hy14, ← hA14, ← hc14] at hcut14
                    have HR120 := Aside0.mk hr14
                    have HC120 := Aside0.mk (show y117.length ≤ c14 from by rw [hy14, hc14]; exact Nat.sub_le_sub_right hroom14 _)
                    clear hr14 hC14 hroom14 hi014 hsz14 hc14
                    have KY14 := Aside0.mk hy14
                    have KA14 := Aside0.mk hA14
                    clear hy14 hA14
                    have KL14 := Aside0.mk (show (x5_1 : Int).toNat ≤ l1.length from by omega)
                    replace q14 := eq_true q14
                    go_wp2_with (first | ((with_reducible refine gate_builtin (b := .append) (xs := #[.tmp 32, .tmp 35]) rfl ?_); at_builtin; refine Kd.R_append_rows (Kd.int .u8) (w0 := w0) w0.heap.size rfl (.tmp 32) (.tmp 35) 49 5 (.int .u8 0) 1 rfl Try.underlying49 info5 rfl (by decide) (by omega) u0 x0_1 y117 _ _ _ (fun k_ => (P0_ k_ ∨ w.heap.size ≤ k_)) (fun _ => False) rfl rfl ?aO ?aR (fun _ _ h => h) (fun _ h => h.elim) ?aF ?aB ?aS ?aL ?_; (case aR => repeat (first | exact (by repeat (first | (with_reducible exact HR120.out) | (with_reducible refine Kd.C_alloc ?_ _) | (with_reducible refine Kd.C_drewN ?_ _) | (with_reducible refine Kd.C_drew ?_) | exact HR120.out)) | (with_reducible refine Kd.C_alloc ?_ _) | (with_reducible refine Kd.C_drewN ?_ _) | (with_reducible refine Kd.C_drew ?_))); (case aB => exact (by repeat (first | (with_reducible first | exact HB.out | apply below_alloc | apply pw_below_drewN | apply below_drew1) | exact HB.out))); (case aF => exact (fun k_ hk => (.inr (Nat.le_trans (by first | exact HK.out.1 | exact (show Kept w _ (fun k_ => P0_ k_) from by repeat (first | (with_reducible first | exact HK.out | apply Kept.alloc | apply Kept.drewN | apply Kept.drew) | exact HK.out)).1) hk)))); (case aO => exact (by (with_reducible repeat (first | apply Kd.R_alloc | apply Kd.R_drewN | apply Kd.R_drew)); exact HO_0.out)); (case aS => exact (below_size (by repeat (first | (with_reducible first | exact HB.out | apply below_alloc | apply pw_below_drewN | apply below_drew1) | exact HB.out)))); (case aL => have := LMc13.out; omega); intro v122 w15 ho hb hg hat; rw [← Ny121.out] at ho; have n0_ := Aside0.mk (hb); have n1_ := Aside0.mk (Kept.of_grown (S := (fun k_ => P0_ k_)) hg (by repeat (first | (with_reducible first | exact HK.out | apply Kept.alloc | apply Kept.drewN | apply Kept.drew) | exact HK.out)) (fun k_ e_ => (HO_0.out.1 k_ e_))); have n2_ := Aside0.mk ((show Kd.C (Kd.int .u8) w15 A14 y117.length y117 from by rw [Ny117.out, KA14.out]; exact Kd.C_drop (m := (x5_1 : Int).toNat) (c := c1) (Kd.C_kept_now HR1.out (show Kept w w15 (fun k_ => P0_ k_) from (Kept.of_grown (S := (fun k_ => P0_ k_)) hg (by repeat (first | (with_reducible first | exact HK.out | apply Kept.alloc | apply Kept.drewN | apply Kept.drew) | exact HK.out)) (fun k_ e_ => (HO_0.out.1 k_ e_))))) KL14.out HC1.out)); have n3_ := Aside0.mk (ho); clear HB; clear HK; clear HR120; clear HO_0; have HB := n0_; have HK := n1_; have HR120 := n2_; have HO123 := n3_; clear n0_ n1_ n2_ n3_; clear ho hb hg hat))
                    go_ret
                    exact ⟨_, by first | rfl | (simp [errW_none, errW_some] <;> rfl) | (simp [*, errW_none, errW_some] <;> rfl), by (with_reducible repeat (first | apply Kd.R_alloc | apply Kd.R_drewN | apply Kd.R_drew)); exact HO123.out, by repeat (first | (with_reducible first | exact HB.out | apply below_alloc | apply pw_below_drewN | apply below_drew1) | exact HB.out), by repeat (first | (with_reducible first | exact HK.out | apply Kept.alloc | apply Kept.drewN | apply Kept.drew) | exact HK.out)⟩
                  · rw [if_neg c13] at H
                    exact absurd H (by simp)
                · rw [if_neg c12] at H
                  exact absurd H (by simp)
              · rw [if_neg c10] at H
                have c10b0 : decide ((l1.length : Int) ≤ (wrap64 (x5_1 + 2))) = false := decide_eq_false c10
                clear c10
                obtain ⟨ji16, hji16⟩ : ∃ j_ : Int, (wrap64 (x5_1 + 2)) = j_ := ⟨_, rfl⟩
                replace H : (if 0 ≤ (ji16) then (if (ji16) < (l1.length : Int) then (if 0 ≤ (rd l1 (ji16)) then (if (rd l1 (ji16)) < (tab1.size : Int) then (if 0 ≤ (wrap64 (x5_1 + 1)) then (if (wrap64 (x5_1 + 1)) < (l1.length : Int) then (if 0 ≤ (rd l1 (wrap64 (x5_1 + 1))) then (if (rd l1 (wrap64 (x5_1 + 1))) < (tab1.size : Int) then (if (bt tab1 (rd l1 (wrap64 (x5_1 + 1)))) = 16 then (if x0_1.length < 140737488355328 then (hertzproto_decodeArgAppendNoPlus.l0 k1 (x0_1 ++ [37]) l1 (wrap64 (x5_1 + 1))) else (none)) else (if (bt tab1 (rd l1 (ji16))) = 16 then (if x0_1.length < 140737488355328 then (hertzproto_decodeArgAppendNoPlus.l0 k1 (x0_1 ++ [37]) l1 (wrap64 (x5_1 + 1))) else (none)) else (if x0_1.length < 140737488355328 then (hertzproto_decodeArgAppendNoPlus.l0 k1 (x0_1 ++ [Go.bits .or .u8 (((bt tab1 (rd l1 (wrap64 (x5_1 + 1)))) * 16) % 256) (bt tab1 (rd l1 (ji16)))]) l1 (wrap64 ((ji16) + 1))) else (none)))) else (none)) else (none)) else (none)) else (none)) else (none)) else (none)) else (none)) else (none)) = some r := by first | (rw [hji16] at H; exact H) | (simp only [hji16] at H ⊢; exact H)
                (try rw [hji16] at c10b0)
                have hji16w : (IntKind.i64.wrap (x5_1 + 2)) = ji16 := (i64_w _).trans hji16
                by_cases c17 : 0 ≤ (ji16)
                · rw [if_pos c17] at H
                  have c17b0 : decide (0 ≤ (ji16)) = true := decide_eq_true c17
                  clear c17
                  by_cases c18 : (ji16) < (l1.length : Int)
                  · rw [if_pos c18] at H
                    have c18b0 : decide ((ji16) < (l1.length : Int)) = true := decide_eq_true c18
                    clear c18
                    by_cases c19 : 0 ≤ (rd l1 (ji16))
                    · rw [if_pos c19] at H
                      have c19b0 : decide (0 ≤ (rd l1 (ji16))) = true := decide_eq_true c19
                      clear c19
                      by_cases c20 : (rd l1 (ji16)) < (tab1.size : Int)
                      · rw [if_pos c20] at H
                        have c20b0 : decide ((rd l1 (ji16)) < (tab1.size : Int)) = true := decide_eq_true c20
                        clear c20
                        obtain ⟨ji22, hji22⟩ : ∃ j_ : Int, (wrap64 (x5_1 + 1)) = j_ := ⟨_, rfl⟩
                        replace H : (if 0 ≤ (ji22) then (if (ji22) < (l1.length : Int) then (if 0 ≤ (rd l1 (ji22)) then (if (rd l1 (ji22)) < (tab1.size : Int) then (if (bt tab1 (rd l1 (ji22))) = 16 then (if x0_1.length < 140737488355328 then (hertzproto_decodeArgAppendNoPlus.l0 k1 (x0_1 ++ [37]) l1 ji22) else (none)) else (if (bt tab1 (rd l1 (ji16))) = 16 then (if x0_1.length < 140737488355328 then (hertzproto_decodeArgAppendNoPlus.l0 k1 (x0_1 ++ [37]) l1 ji22) else (none)) else (if x0_1.length < 140737488355328 then (hertzproto_decodeArgAppendNoPlus.l0 k1 (x0_1 ++ [Go.bits .or .u8 (((bt tab1 (rd l1 (ji22))) * 16) % 256) (bt tab1 (rd l1 (ji16)))]) l1 (wrap64 ((ji16) + 1))) else (none)))) else (none)) else (none)) else (none)) else (none)) = some r := by first | (rw [hji22] at H; exact H) | (simp only [hji22] at H ⊢; exact H)
                        have hji22w : (IntKind.i64.wrap (x5_1 + 1)) = ji22 := (i64_w _).trans hji22
                        by_cases c23 : 0 ≤ (ji22)
                        · rw [if_pos c23] at H
                          have c23b0 : decide (0 ≤ (ji22)) = true := decide_eq_true c23
                          clear c23
                          by_cases c24 : (ji22) < (l1.length : Int)
                          · rw [if_pos c24] at H
                            have c24b0 : decide ((ji22) < (l1.length : Int)) = true := decide_eq_true c24
                            clear c24
                            by_cases c25 : 0 ≤ (rd l1 (ji22))
                            · rw [if_pos c25] at H
                              have c25b0 : decide (0 ≤ (rd l1 (ji22))) = true := decide_eq_true c25
                              clear c25
                              by_cases c26 : (rd l1 (ji22)) < (tab1.size : Int)
                              · rw [if_pos c26] at H
                                have c26b0 : decide ((rd l1 (ji22)) < (tab1.size : Int)) = true := decide_eq_true c26
                                clear c26
                                by_cases c28 : (bt tab1 (rd l1 (ji22))) = 16
                                · rw [if_pos c28] at H
                                  have c28b0 : ((bt tab1 (rd l1 (ji22))) == 16) = true := beq_iff_eq.mpr c28
                                  have c28b1 : ((bt tab1 (rd l1 (ji22))) != 16) = false := bne_eq_false_iff_eq.mpr c28
                                  clear c28
                                  by_cases c29 : x0_1.length < 140737488355328
                                  · rw [if_pos c29] at H
                                    have LMc29 := Aside0.mk c29
                                    clear c29
                                    obtain ⟨y126, hy126⟩ : ∃ y_ : List Int, y_ = (x0_1 ++ [37]) := ⟨_, rfl⟩
                                    replace H : (hertzproto_decodeArgAppendNoPlus.l0 k1 y126 l1 ji22) = some r := by first | (rw [hy126]; with_reducible exact H) | (have H2_ := (Option.bind_some _ _).symm.trans H; rw [hy126]; with_reducible exact H2_) | (have H2_ := (Option.bind_some _ _).symm.trans H; with_reducible exact H2_) | with_reducible exact H | (rw [hy126]; exact H) | exact H
                                    have Ny126 := Aside0.mk hy126
                                    clear hy126
                                    have H' := Aside0.mk H
                                    clear H
                                    have p116 : 0 ≤ (x5_1 : Int) := of_decide_eq_true (by first | (with_reducible assumption) | assumption)
                                    have q116 : x5_1 < (l1.length : Int) := of_decide_eq_true (by first | (with_reducible assumption) | assumption)
                                    obtain ⟨ad116, e116, hx116_0⟩ := Kd.at_int (Kd.C_kept_now HR1.out HK.out) x5_1 p116 q116
                                    cases e116
                                    replace p116 := eq_true p116
                                    replace q116 := eq_true q116
                                    have p124 : 0 ≤ ((ji16) : Int) := of_decide_eq_true (by first | (with_reducible assumption) | assumption)
                                    have q124 : (ji16) < (l1.length : Int) := of_decide_eq_true (by first | (with_reducible assumption) | assumption)
                                    obtain ⟨ad124, e124, hx124_0⟩ := Kd.at_int (Kd.C_kept_now HR1.out HK.out) (ji16) p124 q124
                                    obtain rfl : ad116 = ad124 := (by injection e124)
                                    replace p124 := eq_true p124
                                    replace q124 := eq_true q124
                                    have p125 : 0 ≤ ((ji22) : Int) := of_decide_eq_true (by first | (with_reducible assumption) | assumption)
                                    have q125 : (ji22) < (l1.length : Int) := of_decide_eq_true (by first | (with_reducible assumption) | assumption)
                                    obtain ⟨ad125, e125, hx125_0⟩ := Kd.at_int (Kd.C_kept_now HR1.out HK.out) (ji22) p125 q125
                                    obtain rfl : ad116 = ad125 := (by injection e125)
                                    replace p125 := eq_true p125
                                    replace q125 := eq_true q125
                                    go_wp2_with (first | ((with_reducible refine gate_dst (N := 42) rfl ?_); refine Go.Proofs.YtbkeakeldegkeaaX.index_tab (some 42) rfl rfl 9 _ _ rfl Try.underlying9 tab1 (by kernel_rfl) .u8 (rd l1 (ji16)) rfl (by first | exact of_decide_eq_true (by first | (with_reducible assumption) | assumption) | exact (bt_range _ _).1 | omega) (of_decide_eq_true (by first | (with_reducible assumption) | assumption)) ?_) | ((with_reducible refine gate_dst (N := 48) rfl ?_); refine Go.Proofs.YtbkeakeldegkeaaX.index_tab (some 48) rfl rfl 9 _ _ rfl Try.underlying9 tab1 (by kernel_rfl) .u8 (rd l1 (ji22)) rfl (by first | exact of_decide_eq_true (by first | (with_reducible assumption) | assumption) | exact (bt_range _ _).1 | omega) (of_decide_eq_true (by first | (with_reducible assumption) | assumption)) ?_) | ((with_reducible refine gate_builtin (b := .append) (xs := #[.tmp 55, .tmp 56]) rfl ?_); at_builtin; refine Kd.R_append (Kd.int .u8) (w0 := w0) w0.heap.size rfl (.tmp 55) (.tmp 56) 49 5 (.int .u8 0) 1 rfl Try.underlying49 info5 rfl (by decide) (by omega) u0 x0_1 37 [.int .u8 37] (fun k_ => (P0_ k_ ∨ w.heap.size ≤ k_)) (fun _ => False) rfl rfl ?aP (fun _ hk => hk.elim) ?aF ?aO ?aB ?aS ?aL ?_; (case aP => exact rfl); (case aB => exact (by repeat (first | (with_reducible first | exact HB.out | apply below_alloc | apply pw_below_drewN | apply below_drew1) | exact HB.out))); (case aF => exact (fun k_ hk => (.inr (Nat.le_trans (by first | exact HK.out.1 | exact (show Kept w _ (fun k_ => P0_ k_) from by repeat (first | (with_reducible first | exact HK.out | apply Kept.alloc | apply Kept.drewN | apply Kept.drew) | exact HK.out)).1) hk)))); (case aO => exact (by (with_reducible repeat (first | apply Kd.R_alloc | apply Kd.R_drewN | apply Kd.R_drew)); exact HO_0.out)); (case aS => exact (below_size (by repeat (first | (with_reducible first | exact HB.out | apply below_alloc | apply pw_below_drewN | apply below_drew1) | exact HB.out)))); (case aL => have := LMc29.out; omega); intro v127 w30 ho hb hg hat; rw [← Ny126.out] at ho; have n0_ := Aside0.mk (hb); have n1_ := Aside0.mk (Kept.of_grown (S := (fun k_ => P0_ k_)) hg (by repeat (first | (with_reducible first | exact HK.out | apply Kept.alloc | apply Kept.drewN | apply Kept.drew) | exact HK.out)) (fun k_ e_ => (HO_0.out.1 k_ e_))); have n2_ := Aside0.mk (ho); clear HB; clear HK; clear HO_0; have HB := n0_; have HK := n1_; have HO128 := n2_; clear n0_ n1_ n2_; clear ho hb hg hat))
                                    go_roundg k1
                                    case measure => have := HK1.out; omega
                                    case rel => exact ⟨(y126), (ji22), (by first | rfl | (simp; done) | (simp only [← hji22] <;> (first | rfl | simp)) | (simp [*]; done) | (simp [Go.Proofs.YtbkeakeldegkeaaX.isEmpty_ne]; done)), H', ⟨by have := HK1.out; omega⟩, ⟨by (with_reducible repeat (first | apply Kd.R_alloc | apply Kd.R_drewN | apply Kd.R_drew)); exact HO128.out⟩, ⟨by repeat (first | (with_reducible first | exact HK.out | apply Kept.alloc | apply Kept.drewN | apply Kept.drew) | exact HK.out)⟩, ⟨by repeat (first | (with_reducible first | exact HB.out | apply below_alloc | apply pw_below_drewN | apply below_drew1) | exact HB.out)⟩⟩
                                  · rw [if_neg c29] at H
                                    exact absurd H (by simp)
                                · rw [if_neg c28] at H
                                  have c28b0 : ((bt tab1 (rd l1 (ji22))) == 16) = false := beq_eq_false_iff_ne.mpr c28
                                  have c28b1 : ((bt tab1 (rd l1 (ji22))) != 16) = true := bne_iff_ne.mpr c28
                                  by_cases c31 : (bt tab1 (rd l1 (ji16))) = 16
                                  · rw [if_pos c31] at H
                                    have c31b0 : ((bt tab1 (rd l1 (ji16))) == 16) = true := beq_iff_eq.mpr c31
                                    have c31b1 : ((bt tab1 (rd l1 (ji16))) != 16) = false := bne_eq_false_iff_eq.mpr c31
                                    clear c31
                                    by_cases c32 : x0_1.length < 140737488355328
                                    · rw [if_pos c32] at H
                                      have LMc32 := Aside0.mk c32
                                      clear c32
                                      obtain ⟨y129, hy129⟩ : ∃ y_ : List Int, y_ = (x0_1 ++ [37]) := ⟨_, rfl⟩
                                      replace H : (hertzproto_decodeArgAppendNoPlus.l0 k1 y129 l1 ji22) = some r := by first | (rw [hy129]; with_reducible exact H) | (have H2_ := (Option.bind_some _ _).symm.trans H; rw [hy129]; with_reducible exact H2_) | (have H2_ := (Option.bind_some _ _).symm.trans H; with_reducible exact H2_) | with_reducible exact H | (rw [hy129]; exact H) | exact H
                                      have Ny129 := Aside0.mk hy129
                                      clear hy129
                                      have H' := Aside0.mk H
                                      clear H
                                      have p116 : 0 ≤ (x5_1 : Int) := of_decide_eq_true (by first | (with_reducible assumption) | assumption)
                                      have q116 : x5_1 < (l1.length : Int) := of_decide_eq_true (by first | (with_reducible assumption) | assumption)
                                      obtain ⟨ad116, e116, hx116_0⟩ := Kd.at_int (Kd.C_kept_now HR1.out HK.out) x5_1 p116 q116
                                      cases e116
                                      replace p116 := eq_true p116
                                      replace q116 := eq_true q116
                                      have p124 : 0 ≤ ((ji16) : Int) := of_decide_eq_true (by first | (with_reducible assumption) | assumption)
                                      have q124 : (ji16) < (l1.length : Int) := of_decide_eq_true (by first | (with_reducible assumption) | assumption)
                                      obtain ⟨ad124, e124, hx124_0⟩ := Kd.at_int (Kd.C_kept_now HR1.out HK.out) (ji16) p124 q124
                                      obtain rfl : ad116 = ad124 := (by injection e124)
                                      replace p124 := eq_true p124
                                      replace q124 := eq_true q124
                                      have p125 : 0 ≤ ((ji22) : Int) := of_decide_eq_true (by first | (with_reducible assumption) | assumption)
                                      have q125 : (ji22) < (l1.length : Int) := of_decide_eq_true (by first | (with_reducible assumption) | assumption)
                                      obtain ⟨ad125, e125, hx125_0⟩ := Kd.at_int (Kd.C_kept_now HR1.out HK.out) (ji22) p125 q125
                                      obtain rfl : ad116 = ad125 := (by injection e125)
                                      replace p125 := eq_true p125
                                      replace q125 := eq_true q125
                                      go_wp2_with (first | ((with_reducible refine gate_dst (N := 42) rfl ?_); refine Go.Proofs.YtbkeakeldegkeaaX.index_tab (some 42) rfl rfl 9 _ _ rfl Try.underlying9 tab1 (by kernel_rfl) .u8 (rd l1 (ji16)) rfl (by first | exact of_decide_eq_true (by first | (with_reducible assumption) | assumption) | exact (bt_range _ _).1 | omega) (of_decide_eq_true (by first | (with_reducible assumption) | assumption)) ?_) | ((with_reducible refine gate_dst (N := 48) rfl ?_); refine Go.Proofs.YtbkeakeldegkeaaX.index_tab (some 48) rfl rfl 9 _ _ rfl Try.underlying9 tab1 (by kernel_rfl) .u8 (rd l1 (ji22)) rfl (by first | exact of_decide_eq_true (by first | (with_reducible assumption) | assumption) | exact (bt_range _ _).1 | omega) (of_decide_eq_true (by first | (with_reducible assumption) | assumption)) ?_) | ((with_reducible refine gate_builtin (b := .append) (xs := #[.tmp 55, .tmp 56]) rfl ?_); at_builtin; refine Kd.R_append (Kd.int .u8) (w0 := w0) w0.heap.size rfl (.tmp 55) (.tmp 56) 49 5 (.int .u8 0) 1 rfl Try.underlying49 info5 rfl (by decide) (by omega) u0 x0_1 37 [.int .u8 37] (fun k_ => (P0_ k_ ∨ w.heap.size ≤ k_)) (fun _ => False) rfl rfl ?aP (fun _ hk => hk.elim) ?aF ?aO ?aB ?aS ?aL ?_; (case aP => exact rfl); (case aB => exact (by repeat (first | (with_reducible first | exact HB.out | apply below_alloc | apply pw_below_drewN | apply below_drew1) | exact HB.out))); (case aF => exact (fun k_ hk => (.inr (Nat.le_trans (by first | exact HK.out.1 | exact (show Kept w _ (fun k_ => P0_ k_) from by repeat (first | (with_reducible first | exact HK.out | apply Kept.alloc | apply Kept.drewN | apply Kept.drew) | exact HK.out)).1) hk)))); (case aO => exact (by (with_reducible repeat (first | apply Kd.R_alloc | apply Kd.R_drewN | apply Kd.R_drew)); exact HO_0.out)); (case aS => exact (below_size (by repeat (first | (with_reducible first | exact HB.out | apply below_alloc | apply pw_below_drewN | apply below_drew1) | exact HB.out)))); (case aL => have := LMc32.out; omega); intro v130 w33 ho hb hg hat; rw [← Ny129.out] at ho; have n0_ := Aside0.mk (hb); have n1_ := Aside0.mk (Kept.of_grown (S := (fun k_ => P0_ k_)) hg (by repeat (first | (with_reducible first | exact HK.out | apply Kept.alloc | apply Kept.drewN | apply Kept.drew) | exact HK.out)) (fun k_ e_ => (HO_0.out.1 k_ e_))); have n2_ := Aside0.mk (ho); clear HB; clear HK; clear HO_0; have HB := n0_; have HK := n1_; have HO131 := n2_; clear n0_ n1_ n2_; clear ho hb hg hat))
                                      go_roundg k1
                                      case measure => have := HK1.out; omega
                                      case rel => exact ⟨(y129), (ji22), (by first | rfl | (simp; done) | (simp only [← hji22] <;> (first | rfl | simp)) | (simp [*]; done) | (simp [Go.Proofs.YtbkeakeldegkeaaX.isEmpty_ne]; done)), H', ⟨by have := HK1.out; omega⟩, ⟨by (with_reducible repeat (first | apply Kd.R_alloc | apply Kd.R_drewN | apply Kd.R_drew)); exact HO131.out⟩, ⟨by repeat (first | (with_reducible first | exact HK.out | apply Kept.alloc | apply Kept.drewN | apply Kept.drew) | exact HK.out)⟩, ⟨by repeat (first | (with_reducible first | exact HB.out | apply below_alloc | apply pw_below_drewN | apply below_drew1) | exact HB.out)⟩⟩
                                    · rw [if_neg c32] at H
                                      exact absurd H (by simp)
                                  · rw [if_neg c31] at H
                                    have c31b0 : ((bt tab1 (rd l1 (ji16))) == 16) = false := beq_eq_false_iff_ne.mpr c31
                                    have c31b1 : ((bt tab1 (rd l1 (ji16))) != 16) = true := bne_iff_ne.mpr c31
                                    by_cases c34 : x0_1.length < 140737488355328
                                    · rw [if_pos c34] at H
                                      have LMc34 := Aside0.mk c34
                                      clear c34
                                      obtain ⟨y132, hy132⟩ : ∃ y_ : List Int, y_ = (x0_1 ++ [Go.bits .or .u8 (((bt tab1 (rd l1 (ji22))) * 16) % 256) (bt tab1 (rd l1 (ji16)))]) := ⟨_, rfl⟩
                                      replace H : (hertzproto_decodeArgAppendNoPlus.l0 k1 y132 l1 (wrap64 ((ji16) + 1))) = some r := by first | (rw [hy132]; with_reducible exact H) | (have H2_ := (Option.bind_some _ _).symm.trans H; rw [hy132]; with_reducible exact H2_) | (have H2_ := (Option.bind_some _ _).symm.trans H; with_reducible exact H2_) | with_reducible exact H | (rw [hy132]; exact H) | exact H
                                      have Ny132 := Aside0.mk hy132
                                      clear hy132
                                      have H' := Aside0.mk H
                                      clear H
                                      have p116 : 0 ≤ (x5_1 : Int) := of_decide_eq_true (by first | (with_reducible assumption) | assumption)
                                      have q116 : x5_1 < (l1.length : Int) := of_decide_eq_true (by first | (with_reducible assumption) | assumption)
                                      obtain ⟨ad116, e116, hx116_0⟩ := Kd.at_int (Kd.C_kept_now HR1.out HK.out) x5_1 p116 q116
                                      cases e116
                                      replace p116 := eq_true p116
                                      replace q116 := eq_true q116
                                      have p124 : 0 ≤ ((ji16) : Int) := of_decide_eq_true (by first | (with_reducible assumption) | assumption)
                                      have q124 : (ji16) < (l1.length : Int) := of_decide_eq_true (by first | (with_reducible assumption) | assumption)
                                      obtain ⟨ad124, e124, hx124_0⟩ := Kd.at_int (Kd.C_kept_now HR1.out HK.out) (ji16) p124 q124
                                      obtain rfl : ad116 = ad124 := (by injection e124)
                                      replace p124 := eq_true p124
                                      replace q124 := eq_true q124
                                      have p125 : 0 ≤ ((ji22) : Int) := of_decide_eq_true (by first | (with_reducible assumption) | assumption)
                                      have q125 : (ji22) < (l1.length : Int) := of_decide_eq_true (by first | (with_reducible assumption) | assumption)
                                      obtain ⟨ad125, e125, hx125_0⟩ := Kd.at_int (Kd.C_kept_now HR1.out HK.out) (ji22) p125 q125
                                      obtain rfl : ad116 = ad125 := (by injection e125)
                                      replace p125 := eq_true p125
                                      replace q125 := eq_true q125
                                      go_wp2_with (first | ((with_reducible refine gate_dst (N := 42) rfl ?_); refine Go.Proofs.YtbkeakeldegkeaaX.index_tab (some 42) rfl rfl 9 _ _ rfl Try.underlying9 tab1 (by kernel_rfl) .u8 (rd l1 (ji16)) rfl (by first | exact of_decide_eq_true (by first | (with_reducible assumption) | assumption) | exact (bt_range _ _).1 | omega) (of_decide_eq_true (by first | (with_reducible assumption) | assumption)) ?_) | ((with_reducible refine gate_dst (N := 48) rfl ?_); refine Go.Proofs.YtbkeakeldegkeaaX.index_tab (some 48) rfl rfl 9 _ _ rfl Try.underlying9 tab1 (by kernel_rfl) .u8 (rd l1 (ji22)) rfl (by first | exact of_decide_eq_true (by first | (with_reducible assumption) | assumption) | exact (bt_range _ _).1 | omega) (of_decide_eq_true (by first | (with_reducible assumption) | assumption)) ?_) | ((with_reducible refine gate_builtin (b := .append) (xs := #[.tmp 58, .tmp 63]) rfl ?_); at_builtin; refine Kd.R_append (Kd.int .u8) (w0 := w0) w0.heap.size rfl (.tmp 58) (.tmp 63) 49 5 (.int .u8 0) 1 rfl Try.underlying49 info5 rfl (by decide) (by omega) u0 x0_1 (Go.bits .or .u8 (((bt tab1 (rd l1 (ji22))) * 16) % 256) (bt tab1 (rd l1 (ji16)))) [.int .u8 (Go.bits .or .u8 (((bt tab1 (rd l1 (ji22))) * 16) % 256) (bt tab1 (rd l1 (ji16))))] (fun k_ => (P0_ k_ ∨ w.heap.size ≤ k_)) (fun _ => False) rfl rfl ?aP (fun _ hk => hk.elim) ?aF ?aO ?aB ?aS ?aL ?_; (case aP => exact rfl); (case aB => exact (by repeat (first | (with_reducible first | exact HB.out | apply below_alloc | apply pw_below_drewN | apply below_drew1) | exact HB.out))); (case aF => exact (fun k_ hk => (.inr (Nat.le_trans (by first | exact HK.out.1 | exact (show Kept w _ (fun k_ => P0_ k_) from by repeat (first | (with_reducible first | exact HK.out | apply Kept.alloc | apply Kept.drewN | apply Kept.drew) | exact HK.out)).1) hk)))); (case aO => exact (by (with_reducible repeat (first | apply Kd.R_alloc | apply Kd.R_drewN | apply Kd.R_drew)); exact HO_0.out)); (case aS => exact (below_size (by repeat (first | (with_reducible first | exact HB.out | apply below_alloc | apply pw_below_drewN | apply below_drew1) | exact HB.out)))); (case aL => have := LMc34.out; omega); intro v133 w35 ho hb hg hat; rw [← Ny132.out] at ho; have n0_ := Aside0.mk (hb); have n1_ := Aside0.mk (Kept.of_grown (S := (fun k_ => P0_ k_)) hg (by repeat (first | (with_reducible first | exact HK.out | apply Kept.alloc | apply Kept.drewN | apply Kept.drew) | exact HK.out)) (fun k_ e_ => (HO_0.out.1 k_ e_))); have n2_ := Aside0.mk (ho); clear HB; clear HK; clear HO_0; have HB := n0_; have HK := n1_; have HO134 := n2_; clear n0_ n1_ n2_; clear ho hb hg hat))
                                      go_roundg k1
                                      case measure => have := HK1.out; omega
                                      case rel => exact ⟨(y132), (wrap64 ((ji16) + 1)), (by first | rfl | (simp; done) | (simp only [← hji16] <;> (first | rfl | simp)) | (simp [*]; done) | (simp [Go.Proofs.YtbkeakeldegkeaaX.isEmpty_ne]; done)), H', ⟨by have := HK1.out; omega⟩, ⟨by (with_reducible repeat (first | apply Kd.R_alloc | apply Kd.R_drewN | apply Kd.R_drew)); exact HO134.out⟩, ⟨by repeat (first | (with_reducible first | exact HK.out | apply Kept.alloc | apply Kept.drewN | apply Kept.drew) | exact HK.out)⟩, ⟨by repeat (first | (with_reducible first | exact HB.out | apply below_alloc | apply pw_below_drewN | apply below_drew1) | exact HB.out)⟩⟩
                                    · rw [if_neg c34] at H
                                      exact absurd H (by simp)
                              · rw [if_neg c26] at H
                                exact absurd H (by simp)
                            · rw [if_neg c25] at H
                              exact absurd H (by simp)
                          · rw [if_neg c24] at H
                            exact absurd H (by simp)
                        · rw [if_neg c23] at H
                          exact absurd H (by simp)
                      · rw [if_neg c20] at H
                        exact absurd H (by simp)
                    · rw [if_neg c19] at H
                      exact absurd H (by simp)
                  · rw [if_neg c18] at H
                    exact absurd H (by simp)
                · rw [if_neg c17] at H
                  exact absurd H (by simp)
            · rw [if_neg c9] at H
              have c9b0 : ((rd l1 x5_1) == 37) = false := beq_eq_false_iff_ne.mpr c9
              have c9b1 : ((rd l1 x5_1) != 37) = true := bne_iff_ne.mpr c9
              by_cases c36 : x0_1.length < 140737488355328
              · rw [if_pos c36] at H
                have LMc36 := Aside0.mk c36
                clear c36
                obtain ⟨y135, hy135⟩ : ∃ y_ : List Int, y_ = (x0_1 ++ [rd l1 x5_1]) := ⟨_, rfl⟩
                replace H : (hertzproto_decodeArgAppendNoPlus.l0 k1 y135 l1 (wrap64 (x5_1 + 1))) = some r := by first | (rw [hy135]; with_reducible exact H) | (have H2_ := (Option.bind_some _ _).symm.trans H; rw [hy135]; with_reducible exact H2_) | (have H2_ := (Option.bind_some _ _).symm.trans H; with_reducible exact H2_) | with_reducible exact H | (rw [hy135]; exact H) | exact H
                have Ny135 := Aside0.mk hy135
                clear hy135
                have H' := Aside0.mk H
                clear H
                have p116 : 0 ≤ (x5_1 : Int) := of_decide_eq_true (by first | (with_reducible assumption) | assumption)
                have q116 : x5_1 < (l1.length : Int) := of_decide_eq_true (by first | (with_reducible assumption) | assumption)
                obtain ⟨ad116, e116, hx116_0⟩ := Kd.at_int (Kd.C_kept_now HR1.out HK.out) x5_1 p116 q116
                cases e116
                replace p116 := eq_true p116
                replace q116 := eq_true q116
                go_wp2_with (first | ((with_reducible refine gate_builtin (b := .append) (xs := #[.tmp 67, .tmp 69]) rfl ?_); at_builtin; refine Kd.R_append (Kd.int .u8) (w0 := w0) w0.heap.size rfl (.tmp 67) (.tmp 69) 49 5 (.int .u8 0) 1 rfl Try.underlying49 info5 rfl (by decide) (by omega) u0 x0_1 (rd l1 x5_1) [.int .u8 (rd l1 x5_1)] (fun k_ => (P0_ k_ ∨ w.heap.size ≤ k_)) (fun _ => False) rfl rfl ?aP (fun _ hk => hk.elim) ?aF ?aO ?aB ?aS ?aL ?_; (case aP => exact rfl); (case aB => exact (by repeat (first | (with_reducible first | exact HB.out | apply below_alloc | apply pw_below_drewN | apply below_drew1) | exact HB.out))); (case aF => exact (fun k_ hk => (.inr (Nat.le_trans (by first | exact HK.out.1 | exact (show Kept w _ (fun k_ => P0_ k_) from by repeat (first | (with_reducible first | exact HK.out | apply Kept.alloc | apply Kept.drewN | apply Kept.drew) | exact HK.out)).1) hk)))); (case aO => exact (by (with_reducible repeat (first | apply Kd.R_alloc | apply Kd.R_drewN | apply Kd.R_drew)); exact HO_0.out)); (case aS => exact (below_size (by repeat (first | (with_reducible first | exact HB.out | apply below_alloc | apply pw_below_drewN | apply below_drew1) | exact HB.out)))); (case aL => have := LMc36.out; omega); intro v136 w37 ho hb hg hat; rw [← Ny135.out] at ho; have n0_ := Aside0.mk (hb); have n1_ := Aside0.mk (Kept.of_grown (S := (fun k_ => P0_ k_)) hg (by repeat (first | (with_reducible first | exact HK.out | apply Kept.alloc | apply Kept.drewN | apply Kept.drew) | exact HK.out)) (fun k_ e_ => (HO_0.out.1 k_ e_))); have n2_ := Aside0.mk (ho); clear HB; clear HK; clear HO_0; have HB := n0_; have HK := n1_; have HO137 := n2_; clear n0_ n1_ n2_; clear ho hb hg hat))
                go_roundg k1
                case measure => have := HK1.out; omega
                case rel => exact ⟨(y135), (wrap64 (x5_1 + 1)), (by first | rfl | (simp; done) | (simp [*]; done) | (simp [Go.Proofs.YtbkeakeldegkeaaX.isEmpty_ne]; done)), H', ⟨by have := HK1.out; omega⟩, ⟨by (with_reducible repeat (first | apply Kd.R_alloc | apply Kd.R_drewN | apply Kd.R_drew)); exact HO137.out⟩, ⟨by repeat (first | (with_reducible first | exact HK.out | apply Kept.alloc | apply Kept.drewN | apply Kept.drew) | exact HK.out)⟩, ⟨by repeat (first | (with_reducible first | exact HB.out | apply below_alloc | apply pw_below_drewN | apply below_drew1) | exact HB.out)⟩⟩
              · rw [if_neg c36] at H
                exact absurd H (by simp)
          · rw [if_neg c8] at H
            exact absurd H (by simp)
        · rw [if_neg c7] at H
          have c7b0 : decide (x5_1 < (l1.length : Int)) = false := decide_eq_false c7
          clear c7
          obtain rfl := Option.some.inj H
          go_wp2
          go_ret
          exact ⟨_, by first | rfl | (simp [errW_none, errW_some] <;> rfl) | (simp [*, errW_none, errW_some] <;> rfl), by (with_reducible repeat (first | apply Kd.R_alloc | apply Kd.R_drewN | apply Kd.R_drew)); exact HO_0.out, by repeat (first | (with_reducible first | exact HB.out | apply below_alloc | apply pw_below_drewN | apply below_drew1) | exact HB.out), by repeat (first | (with_reducible first | exact HK.out | apply Kept.alloc | apply Kept.drewN | apply Kept.drew) | exact HK.out)⟩
end Go.Proofs.Ytbkeakeldegkeaa.Q
end
