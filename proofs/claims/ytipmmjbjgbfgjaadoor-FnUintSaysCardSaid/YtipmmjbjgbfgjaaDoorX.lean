/- Laws of single operations that the printed words lack: an index into a constant text, '[]byte(s)'. No program in sight. -/
import Derived.Test.YtipmmjbjgbfgjaaDoorWWords
import Derived.Test.YtipmmjbjgbfgjaaDoorWLast
import Derived.Test.YtipmmjbjgbfgjaaDoorWShare
import Derived.Test.YtipmmjbjgbfgjaaDoorWMore
import Derived.Lib.ConvBytes
import Derived.Deep.QuietTactic
import Derived.Laws.AppendOwn
import Derived.Laws.Strings
namespace Go.Proofs.YtipmmjbjgbfgjaaDoorX
open Go.RowKit Go.Proofs.YtipmmjbjgbfgjaaDoorW.PrintWords Go.Proofs.YtipmmjbjgbfgjaaDoorW.PrintLast
theorem isEmpty_eq (l : List UInt8) : l.isEmpty = (l == []) := by cases l <;> rfl
theorem isEmpty_ne (l : List UInt8) : l.isEmpty = !(l != []) := by cases l <;> rfl
theorem wrap_u8 (x : Int) : IntKind.u8.wrap x = x % 256 := by
  unfold IntKind.wrap
  simp only [show IntKind.u8.signed = false from rfl, show IntKind.u8.bits = 8 from rfl, Bool.false_and]
  rfl
theorem C_string2 {P : Program} {w : World} {src dst e : TypeId} {A : Option Addr} {n c : Nat} {xs : List Int} (hs : P.underlying src = some (.slice e)) (he : P.underlying e = some (.int .u8)) (hd : P.underlying dst = some .string) (h : (Kd.int .u8).C w A n xs) :
    (convert src dst (.slice A n c)).run P w = .ok (.string (strOfNums xs)) w ∧ ∀ m, (convert src dst (.slice A n c)).run P (w.drewN m) = .ok (.string (strOfNums xs)) (w.drewN m) :=
  ⟨Kd.C_string hs he hd h, fun m => Kd.C_string (w := w.drewN m) hs he hd (Kd.C_below h (pw_below_drewN (Below.refl _ _) m))⟩
theorem wrap_i64 (x : Int) : IntKind.i64.wrap x = wrap64 x := by unfold wrap64; first | rfl | exact IntKind.wrap_i64 x
section
variable {P : Program} {ops : Array Oper} {Q : Exit → Act → World → Prop} {rest : List Oper} {o : Oper} {a : Act} {w : World}
/-- A byte of a text, by an index that lies in it. -/
theorem index_tab (N : Option Tmp) (hd : o.dst = N) (hg : o.guard = none) (t : TypeId) (x i : Operand) (hop : o.op = .index t x i) (ht : P.underlying t = some .string)
    (s : ByteArray) (hx : a.eval x = .string s) (k : IntKind) (n : Int) (hi : a.eval i = .int k n) (h0 : 0 ≤ n) (h1 : n < (s.size : Int))
    (h : wpList P ops Q rest (a.put N (.int .u8 (bt s n))) w) : wpList P ops Q (o :: rest) a w := by
  refine wpList_plain hg fun K hK => ?_
  have hrun : (execOp a.eval o).run P w = .ok (.value (.int .u8 (bt s n))) w := by
    unfold execOp
    simp only [hop, hx, hi, Sem.run_bind, Sem.run_pure, run_index_string (P := P) (w := w) t s k n ht]
    rw [dif_pos ⟨h0, h1⟩]
    simp only [Result.andThen_ok]
    rw [bt_at]
  unfold Oper.wp
  rw [hrun, Oper.upon_value]
  subst hd
  exact hK _ _ h
/-- .. in a region that draws its order and only reads. -/
theorem quiet_tab {C : World → Prop} {Qq : Act → Prop} (N : Option Tmp) (hd : o.dst = N) (hg : o.guard = none) (t : TypeId) (x i : Operand) (hop : o.op = .index t x i) (ht : P.underlying t = some .string)
    (s : ByteArray) (hx : a.eval x = .string s) (k : IntKind) (n : Int) (hi : a.eval i = .int k n) (h0 : 0 ≤ n) (h1 : n < (s.size : Int))
    (h : wpQuiet P ops C Qq rest (a.put N (.int .u8 (bt s n)))) : wpQuiet P ops C Qq (o :: rest) a := by
  refine wpQuiet_step fun K hK => ?_
  have hw : Region.wanted o (yielded ops a.tmps) = true := by simp [Region.wanted, hg]
  rw [if_pos hw]
  refine ⟨.int .u8 (bt s n), fun W _ => ?_, hK _ (by subst hd; exact h)⟩
  have hrun : (execOp a.eval o).run P W = .ok (.value (.int .u8 (bt s n))) W := by
    unfold execOp
    simp only [hop, hx, hi, Sem.run_bind, Sem.run_pure, run_index_string (P := P) (w := W) t s k n ht]
    rw [dif_pos ⟨h0, h1⟩]
    simp only [Result.andThen_ok]
    rw [bt_at]
  unfold Oper.quietAt
  rw [hrun]
  exact ⟨rfl, rfl⟩
/-- What holds of a world is all that is told of it from here on. -/
theorem gen_world {c : Code} {Qc : Exit → Act → World → Prop} {W0 : World} (F : World → Prop) (h0 : F W0) (h : ∀ W, F W → Code.wp P c Qc a W) : Code.wp P c Qc a W0 := h W0 h0
/-- What '[]byte(s)' comes to. -/
def ConvCalls (P : Program) (src dst : TypeId) (s : ByteArray) (w : World) (Q : Ending → World → Prop) : Prop := ∃ v w', (convert src dst (.string s)).run P w = .ok v w' ∧ Q (.returned v) w'
theorem ConvCalls.mono {src dst : TypeId} {s : ByteArray} {Q R : Ending → World → Prop} (h : ConvCalls P src dst s w Q) (k : ∀ e w', Q e w' → R e w') : ConvCalls P src dst s w R := by
  obtain ⟨v, w', hr, hq⟩ := h
  exact ⟨v, w', hr, k _ _ hq⟩
theorem convL_ (N : Option Tmp) (hd : o.dst = N) (hg : o.guard = none) (src dst : TypeId) (x : Operand) (hop : o.op = .convert src dst x) (s : ByteArray) (hx : a.eval x = .string s)
    (h : ConvCalls P src dst s w fun e w' => ∃ v, e = .returned v ∧ wpList P ops Q rest (a.put N v) w') : wpList P ops Q (o :: rest) a w := by
  obtain ⟨v, w', hr, v', hv, hk⟩ := h
  obtain rfl : v = v' := by simpa using hv
  refine wpList_plain hg fun K hK => ?_
  have hrun : (execOp a.eval o).run P w = .ok (.value v) w' := by
    unfold execOp
    simp only [hop, hx, Sem.run_bind, Sem.run_pure, hr, Result.andThen_ok]
  unfold Oper.wp
  rw [hrun, Oper.upon_value]
  subst hd
  exact hK _ _ hk
theorem conv_bytes (src dst e : TypeId) (hs : P.underlying src = some .string) (hd : P.underlying dst = some (.slice e)) (he : P.underlying e = some (.int .u8)) (s : ByteArray) (hl : s.size ≤ 140737488355328) (w : World) :
    ConvCalls P src dst s w fun en w' => ∃ v0_ : Value, en = .returned v0_ ∧ Kd.V (Kd.int .u8) e w' w.heap.size (fun k_ => (w.heap.size ≤ k_)) v0_ (bytesOf s) ∧ Below w.heap.size w w' := by
  refine ⟨_, _, Lib.run_convert_string_bytes w src dst e s hs hd he, _, rfl, ?_, ?_⟩
  · have hb : (bytesOf s).length = s.size := bytesOf_length s
    refine ⟨some ⟨w.heap.size, 0, none⟩, _, by rw [hb], by rw [hb]; exact grownCap_ge _ _ _ _, ?_⟩
    intro W' hsame
    refine ⟨rfl, by rw [hb]; omega, fun _ => ⟨_, rfl, fun j p hj => ⟨[.int .u8 p], rfl, rfl, fun i u hi => ?_⟩⟩⟩
    have hjl : j < s.size := by rw [← hb]; exact (List.getElem?_eq_some_iff.1 hj).1
    have hi0 : i = 0 := by
      have := (List.getElem?_eq_some_iff.1 hi).1
      simp at this
      omega
    subst hi0
    have hu : u = .int .u8 p := by simpa using hi.symm
    subst hu
    have hp : p = ((s.data.toList.getD j 0).toNat : Int) := by
      simp only [bytesOf, List.getElem?_map, Option.map_eq_some_iff] at hj
      obtain ⟨c, hc, rfl⟩ := hj
      rw [List.getD_eq_getElem?_getD, hc]; rfl
    have hcell := Lib.bytesWorld_cell w e s j hjl
    rw [← hp] at hcell
    have := hsame w.heap.size (Nat.le_refl _) (by rw [Lib.bytesWorld_size]; omega)
    have ha : Addr.add ⟨w.heap.size, 0, none⟩ (j * 1 + 0) = ⟨w.heap.size, j, none⟩ := by
      rw [Nat.mul_one, Nat.add_zero]
      unfold Addr.add
      by_cases hj0 : j = 0 <;> simp [hj0]
    show W'.cell? (Addr.add ⟨w.heap.size, 0, none⟩ (j * 1 + 0)) = _
    rw [ha, ← hcell]
    unfold World.cell?
    rw [this]
  · exact ⟨rfl, rfl, rfl, by rw [Lib.bytesWorld_size]; omega, fun k hk => Lib.bytesWorld_at_old w e s k hk⟩
end
end Go.Proofs.YtipmmjbjgbfgjaaDoorX
