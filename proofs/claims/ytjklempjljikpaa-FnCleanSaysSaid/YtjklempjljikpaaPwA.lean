/- Rows of bytes in a block of the call's own: cuts of them, what is shifted in them, what the callees of the path's cleaning make of them. -/
import Derived.Test.YtjklempjljikpaaQ3
import Derived.Test.YtjklempjljikpaaQ6
import Derived.Test.YtjklempjljikpaaBt
import Derived.Test.YtjklempjljikpaaSpIdx
import Derived.Test.YtjklempjljikpaaCl
import Derived.Laws.IdiomCopy
import Derived.Lib.SlBytesConst
import Derived.StillTailTactics
namespace Go.Proofs.Ytjklempjljikpaa.Q
open Go.RowKit Go.Proofs.YtjklempjljikpaaW.PrintWords Go.Proofs.YtjklempjljikpaaW.PrintLast Go.Proofs.YtjklempjljikpaaW.PrintMore
open Go.Proofs.Ytjklempjljikpaa.SpA (toI toI_length toI_append)
theorem addr_add (g k j : Nat) : (⟨g, k, none⟩ : Addr).add j = ⟨g, k + j, none⟩ := by unfold Addr.add; by_cases hj : j = 0 <;> simp [hj]
theorem BR.pre {w : World} {g : Nat} {e : TypeId} {p q : List UInt8} (h : BR w g e (p ++ q)) : BR w g e p := by
  obtain ⟨C, lo, hi, hg, hs, hf, hc⟩ := h.out
  simp only [List.length_append] at hs hf
  refine ⟨C, lo, hi, hg, by omega, by omega, fun j hj => ?_⟩
  have := hc j (by simp; omega)
  rw [List.getElem_append_left hj] at this
  exact this
theorem BR.C {w : World} {g : Nat} {e : TypeId} {p q : List UInt8} (h : BR w g e (p ++ q)) (hl : (p ++ q).length ≤ 4611686018427387904) : Kd.C (Kd.int .u8) w (some ⟨g, p.length, none⟩) (toI q).length (toI q) := by
  simp only [List.length_append] at hl
  refine Kd.C_of_reads (enc := Value.int .u8) (d := (0 : Int)) (h1 := fun _ => rfl) ⟨rfl, by rw [toI_length]; omega, fun _ => ⟨_, rfl, fun j hj => ?_⟩⟩
  rw [toI_length] at hj
  have := h.cell (p.length + j) (by simp; omega)
  rw [addr_add, this, List.getElem_append_right (by omega)]
  simp [toI, hj]
theorem BR.of_R {w : World} {base : Nat} {ok : Nat → Prop} {v : Value} {e : TypeId} {l : List UInt8} (h : Kd.R (Kd.int .u8) e w base ok v (toI l)) (hl : l ≠ []) :
    ∃ g c, v = .slice (some ⟨g, 0, none⟩) l.length c ∧ base ≤ g ∧ l.length ≤ c ∧ c ≤ maxLen ∧ BR w g e l := by
  have ho := Kd.own_of_R h
  obtain ⟨_, ho2⟩ := ho
  have hp := List.length_pos_iff.2 hl
  rw [toI_length] at ho2
  rcases ho2 with ⟨_, h0⟩ | ⟨g, cap, cur, hv, hb, hg, hn, hm, hs, ht⟩
  · omega
  · refine ⟨g, cap, hv, hb, hn, hm, cur, 0, 0, hg, by omega, .inr rfl, fun j hj => ?_⟩
    have h1 : (cur.toList.take (l.length * 1))[j]? = (encs (Value.int .u8) (toI l))[j]? := by rw [ht]
    rw [List.getElem?_take, if_pos (by omega), Array.getElem?_toList] at h1
    rw [h1]
    simp [encs, toI, hj]
theorem BR.below2 {w W w' : World} {g : Nat} {e : TypeId} {l : List UInt8} (h : BR w g e l) (hb : Below W.heap.size W w') (he : W.heap = w.heap) : BR w' g e l := (BR.heap h (by rw [he])).below hb
theorem BR.shift {w : World} {g : Nat} {e : TypeId} (p q r : List UInt8) (h : BR w g e (p ++ q ++ r)) : BR (w.setCells g p.length (r.map fun x => Value.int .u8 (x.toNat : Int))) g e (p ++ r) := by
  have h2 : BR w g e (p ++ (q ++ r).take r.length) := by
    refine BR.pre (q := (q ++ r).drop r.length) ?_
    rw [List.append_assoc, List.take_append_drop, ← List.append_assoc]
    exact h
  exact BR.copied r _ p w h2 (by simp)
section
variable {P : Program} {ops : Array Oper} {rest : List Oper} {o : Oper} {a : Act} {Q : Exit → Act → World → Prop} {W : World}
/-- What stands behind is shifted over what stands between. -/
theorem shift_run (P : Program) (W : World) (dT sT ty e : TypeId) (hu : P.underlying dT = some (.slice e)) (hz : (P.info? e).map (·.size) = some 1)
    (g cd cs : Nat) (p q r : List UInt8) (hb : BR W g e (p ++ q ++ r)) :
    (Builtin.copy_ #[dT, sT] ty #[.slice (some ⟨g, p.length, none⟩) (q.length + r.length) cd, .slice (some ⟨g, p.length + q.length, none⟩) r.length cs]).run P W = .ok (goInt r.length) (W.setCells g p.length (r.map fun x => Value.int .u8 (x.toNat : Int))) := by
  have h := run_copy_cells (P := P) W dT sT ty e g p.length (q.length + r.length) cd ⟨g, p.length + q.length, none⟩ r.length cs (r.map fun x => Value.int .u8 (x.toNat : Int)) hu hz (by rw [List.length_map]; exact (Nat.min_eq_left (by omega)).symm) (fun j v hj => by
      have hjl : j < r.length := by have := (List.getElem?_eq_some_iff.1 hj).1; simpa using this
      have h1 := hb.cell (p.length + q.length + j) (by simp; omega)
      rw [addr_add, h1, List.getElem_append_right (by simp)]
      rw [List.getElem?_map, List.getElem?_eq_getElem hjl] at hj
      simp at hj ⊢
      exact hj) (fun j hj => by
      rw [List.length_map] at hj
      rw [hb.cell (p.length + j) (by simp; omega)]; rfl) (fun j hj => by
      rw [List.length_map] at hj
      exact hb.frozen (p.length + j) (by simp; omega)) (fun v hv => by
      obtain ⟨x, _, rfl⟩ := List.mem_map.1 hv
      rfl)
  rw [List.length_map] at h
  exact h
theorem shift_BR (hgd : o.guard = none) (d x : Operand) (dT sT e : TypeId) (hop : o.op = Op.call { callee := Callee.builtin Builtin.copy, args := #[d, x], argTypes := #[dT, sT] }) (hu : P.underlying dT = some (.slice e)) (hz : (P.info? e).map (·.size) = some 1)
    (g cd cs : Nat) (p q r : List UInt8) (nd ns os : Nat) (hnd : nd = q.length + r.length) (hns : ns = r.length) (hos : os = p.length + q.length) (hd : a.eval d = .slice (some ⟨g, p.length, none⟩) nd cd) (hx : a.eval x = .slice (some ⟨g, os, none⟩) ns cs) (hb : BR W g e (p ++ q ++ r)) (B : Nat) (hB : B ≤ g)
    (h : ∀ w1, BR w1 g e (p ++ r) → Below B W w1 → wpList P ops Q rest (a.put o.dst (goInt r.length)) w1) : wpList P ops Q (o :: rest) a W := by
  subst hnd hns hos
  have hrun := shift_run P W dT sT o.type e hu hz g cd cs p q r hb
  refine wpList_plain hgd fun K hK => ?_
  unfold Oper.wp
  simp [execOp, hop, resolve, invoke, builtin, hd, hx, hrun, Result.andThen]
  exact hK _ _ (h _ (BR.shift p q r hb) (below_setCells hB _ _ _ (Below.refl _ _)))
end
/-- A constant text laid as a row: its rest is frozen. -/
theorem BR.const {w : World} {e : TypeId} (C : Array Value) (l : List UInt8) (hC : C.toList = l.map fun x => Value.int .u8 (x.toNat : Int)) : BR (w.alloc (.cells C e (C.size, C.size + 1))) w.heap.size e l := by
  have hs : C.size = l.length := by rw [← Array.length_toList, hC, List.length_map]
  refine ⟨C, _, _, heap_alloc_new w _, by omega, .inl (by omega), fun j hj => ?_⟩
  rw [← Array.getElem?_toList, hC]
  simp [hj]
end Go.Proofs.Ytjklempjljikpaa.Q
