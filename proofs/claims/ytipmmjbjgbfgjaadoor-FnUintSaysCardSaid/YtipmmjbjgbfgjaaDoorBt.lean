/- A row of bytes that lies in a block of its own (what '[]byte(s)' leaves), and what stores in it leave. -/
import Derived.Test.YtipmmjbjgbfgjaaDoorQ0
import Derived.WalkSpells
import Derived.Lib.LazyBuf
import Derived.Laws.OwnMore
namespace Go.Proofs.YtipmmjbjgbfgjaaDoor.Q
open Go.RowKit Go.Proofs.YtipmmjbjgbfgjaaDoorW.PrintWords Go.Proofs.YtipmmjbjgbfgjaaDoorW.PrintLast Go.Proofs.YtipmmjbjgbfgjaaDoorW.PrintMore
structure BR (w : World) (g : Nat) (e : TypeId) (l : List UInt8) : Prop where
  out : ∃ C lo hi, w.heap[g]? = some (.cells C e (lo, hi)) ∧ l.length ≤ C.size ∧ (l.length ≤ lo ∨ hi = 0) ∧ ∀ j (h : j < l.length), C[j]? = some (.int .u8 (l[j].toNat : Int))
theorem BR.cell {w : World} {g : Nat} {e : TypeId} {l : List UInt8} (h : BR w g e l) (j : Nat) (hj : j < l.length) : w.cell? ⟨g, j, none⟩ = some (.int .u8 (l[j].toNat : Int)) := by
  obtain ⟨C, lo, hi, hg, _, _, hc⟩ := h.out
  unfold World.cell?
  rw [hg]
  simpa using hc j hj
theorem BR.frozen {w : World} {g : Nat} {e : TypeId} {l : List UInt8} (h : BR w g e l) (j : Nat) (hj : j < l.length) : w.frozen? ⟨g, j, none⟩ = false := by
  obtain ⟨C, lo, hi, hg, _, hf, _⟩ := h.out
  unfold World.frozen?
  rw [hg]
  show (decide (lo ≤ j) && decide (j < hi)) = false
  rcases hf with hf | hf
  · rw [decide_eq_false (by omega)]; rfl
  · rw [hf, Bool.and_eq_false_iff]; right; exact decide_eq_false (by omega)
theorem BR.put {w : World} {g : Nat} {e : TypeId} {l : List UInt8} (h : BR w g e l) (k : Nat) (hk : k < l.length) (b : UInt8) : BR (w.setCell ⟨g, k, none⟩ (.int .u8 (b.toNat : Int))) g e (l.set k b) := by
  obtain ⟨C, lo, hi, hg, hs, hf, hc⟩ := h.out
  have hgl := (Array.getElem?_eq_some_iff.1 hg).1
  refine ⟨C.setIfInBounds k (.int .u8 (b.toNat : Int)), lo, hi, ?_, by simpa using hs, by simpa using hf, fun j hj => ?_⟩
  · have := (Array.getElem?_eq_some_iff.1 hg).2
    simp only [World.setCell, Array.getElem?_modify, if_pos, hg, Option.map_some]
    simp
  · have hjl : j < l.length := by simpa using hj
    rw [Array.getElem?_setIfInBounds, List.getElem_set]
    by_cases e1 : k = j
    · subst e1
      rw [if_pos rfl, if_pos (by omega), if_pos rfl]
    · rw [if_neg e1, if_neg e1]
      exact hc j hjl
theorem BR.heap {w w' : World} {g : Nat} {e : TypeId} {l : List UInt8} (h : BR w g e l) (hh : w'.heap[g]? = w.heap[g]?) : BR w' g e l := by
  obtain ⟨C, lo, hi, hg, r⟩ := h.out
  exact ⟨C, lo, hi, hh.trans hg, r⟩
theorem BR.drewN {w : World} {g : Nat} {e : TypeId} {l : List UInt8} (h : BR w g e l) (m : Nat) : BR (w.drewN m) g e l := h.heap rfl
theorem BR.lt {w : World} {g : Nat} {e : TypeId} {l : List UInt8} (h : BR w g e l) : g < w.heap.size := by
  obtain ⟨C, lo, hi, hg, r⟩ := h.out
  exact (Array.getElem?_eq_some_iff.1 hg).1
theorem BR.below {w w' : World} {g : Nat} {e : TypeId} {l : List UInt8} (h : BR w g e l) (hb : Below w.heap.size w w') : BR w' g e l := h.heap (hb.block g h.lt)
theorem BR.conv (w : World) (e : TypeId) (s : ByteArray) : BR (Lib.bytesWorld w e s) w.heap.size e s.data.toList := by
  refine ⟨_, _, _, Lib.bytesWorld_at_new w e s, ?_, .inl ?_, fun j hj => ?_⟩
  · simp [Lib.bytesCells]
  · simp [Lib.bytesCells]
  · have hj' : j < s.data.size := by simpa using hj
    have hsz : (s.data.map fun b => Value.int .u8 b.toNat).size = s.data.size := Array.size_map ..
    unfold Lib.bytesCells
    rw [Array.getElem?_append, if_pos (by rw [hsz]; exact hj'), Array.getElem?_map, Array.getElem?_eq_getElem hj']
    simp
theorem conv_BR {P : Program} (src dst e : TypeId) (hs : P.underlying src = some .string) (hd : P.underlying dst = some (.slice e)) (he : P.underlying e = some (.int .u8)) (s : ByteArray) (w : World) :
    Go.Proofs.YtipmmjbjgbfgjaaDoorX.ConvCalls P src dst s w fun en w' => ∃ c, en = .returned (.slice (some ⟨w.heap.size, 0, none⟩) s.size c) ∧ BR w' w.heap.size e s.data.toList ∧ Below w.heap.size w w' := by
  refine ⟨_, _, Lib.run_convert_string_bytes w src dst e s hs hd he, _, rfl, BR.conv w e s, ?_⟩
  exact ⟨rfl, rfl, rfl, by rw [Lib.bytesWorld_size]; omega, fun k hk => Lib.bytesWorld_at_old w e s k hk⟩
theorem conv_BR2 {P : Program} (src dst e : TypeId) (hs : P.underlying src = some .string) (hd : P.underlying dst = some (.slice e)) (he : P.underlying e = some (.int .u8)) (s : ByteArray) (w : World) :
    Go.Proofs.YtipmmjbjgbfgjaaDoorX.ConvCalls P src dst s w fun en w' => ∃ c, en = .returned (.slice (some ⟨w.heap.size, 0, none⟩) s.size c) ∧ s.size ≤ c ∧ BR w' w.heap.size e s.data.toList ∧ Below w.heap.size w w' := by
  refine ⟨_, _, Lib.run_convert_string_bytes w src dst e s hs hd he, _, rfl, grownCap_ge _ _ _ _, BR.conv w e s, ?_⟩
  exact ⟨rfl, rfl, rfl, by rw [Lib.bytesWorld_size]; omega, fun k hk => Lib.bytesWorld_at_old w e s k hk⟩
theorem BR.back {P : Program} {w : World} {g : Nat} {e : TypeId} {l : List UInt8} (h : BR w g e l) (src dst : TypeId) (cap : Nat) (hs : P.underlying src = some (.slice e)) (he : P.underlying e = some (.int .u8)) (hd : P.underlying dst = some .string) :
    (convert src dst (.slice (some ⟨g, 0, none⟩) l.length cap)).run P w = .ok (.string ⟨l.toArray⟩) w := by
  refine run_convert_bytes_back w src dst e ⟨g, 0, none⟩ cap l hs he hd fun j hj => ?_
  rw [show (⟨g, 0, none⟩ : Addr).add j = ⟨g, j, none⟩ by unfold Addr.add; by_cases hj0 : j = 0 <;> simp [hj0]]
  exact h.cell j hj
theorem BR.alloc {w : World} {e : TypeId} {n : Nat} : BR (w.alloc (.cells (madeCells #[.int .u8 0] n) e)) w.heap.size e (List.replicate n 0) := by
  refine ⟨_, 0, 0, heap_alloc_new w _, by simp [size_madeCells], .inr rfl, fun j hj => ?_⟩
  have hjn : j < n := by simpa using hj
  rw [← Array.getElem?_toList, toList_madeCells_one, List.getElem?_replicate, if_pos hjn]
  simp
theorem BR.copied {g : Nat} {e : TypeId} : ∀ (t old pre : List UInt8) (w : World), BR w g e (pre ++ old) → old.length = t.length → BR (w.setCells g pre.length (t.map fun x => Value.int .u8 (x.toNat : Int))) g e (pre ++ t)
  | [], [], pre, w, h, _ => h
  | x :: t, y :: old, pre, w, h, hl => by
    have h1 := h.put pre.length (by simp) x
    rw [show (pre ++ y :: old).set pre.length x = (pre ++ [x]) ++ old by simp] at h1
    have h2 := BR.copied t old (pre ++ [x]) _ h1 (by simpa using hl)
    rw [show (pre ++ [x]) ++ t = pre ++ x :: t by simp, show (pre ++ [x]).length = pre.length + 1 by simp] at h2
    exact h2
  | [], _ :: _, _, _, _, hl => by simp at hl
  | _ :: _, [], _, _, _, hl => by simp at hl
section
variable {P : Program} {ops : Array Oper} {rest : List Oper} {o : Oper} {a : Act} {Q : Exit → Act → World → Prop} {W : World}
theorem make_BR (hgd : o.guard = none) (t e : TypeId) (x y : Operand) (ho : o.op = .makeSlice t x y) (n : Nat) (hx : a.eval x = .int .i64 (n : Int)) (hy : a.eval y = .int .i64 (n : Int)) (ht : P.underlying t = some (.slice e))
    (hinfo : (P.info? e).map (fun i => (i.zero, i.size, i.bytes)) = some (some (.int .u8 0), 1, 1)) (hn : n ≤ 281474976710656)
    (h : ∀ w1 g, g = W.heap.size → BR w1 g e (List.replicate n 0) → Below W.heap.size W w1 → wpList P ops Q rest (a.put o.dst (.slice (some ⟨g, 0, none⟩) n n)) w1) : wpList P ops Q (o :: rest) a W := by
  obtain ⟨i0, hi, hzz⟩ := Option.map_eq_some_iff.1 hinfo
  simp only [Prod.mk.injEq] at hzz
  obtain ⟨hz0, hz1, hz2⟩ := hzz
  have hr := run_make (P := P) W t e i0 _ ht hi hz0 .i64 .i64 (n : Int) (n : Int) (by omega) (by omega) (by rw [hz2]; omega) (by omega)
  simp only [Int.toNat_natCast] at hr
  rw [hz1, Nat.mul_one] at hr
  refine Kd.event_run hgd (v := .slice (some ⟨W.heap.size, 0, none⟩) n n) (w1 := W.alloc (.cells (madeCells #[.int .u8 0] n) e)) ?_ (h _ _ rfl BR.alloc (below_alloc (Below.refl _ _) _))
  simp [execOp, ho, hx, hy, hr]
  rfl
theorem copy_BR (hgd : o.guard = none) (d x : Operand) (dT sT e : TypeId) (hop : o.op = Op.call { callee := Callee.builtin Builtin.copy, args := #[d, x], argTypes := #[dT, sT] }) (hu : P.underlying dT = some (.slice e)) (hz : ∀ w, (Go.sizeOf e).run P w = .ok 1 w)
    (g cap : Nat) (old : List UInt8) (t : ByteArray) (hold : old.length = t.size) (hd : a.eval d = .slice (some ⟨g, 0, none⟩) t.size cap) (hx : a.eval x = .string t) (hb : BR W g e old) (B : Nat) (hB : B ≤ g)
    (h : ∀ w1, BR w1 g e t.data.toList → Below B W w1 → wpList P ops Q rest (a.put o.dst (goInt t.size)) w1) : wpList P ops Q (o :: rest) a W := by
  have hl : t.data.toList.length = t.size := by simp
  have hrun := run_copy_string (P := P) W dT sT o.type e g 0 t.size cap t hu hz (Nat.le_refl _) (fun j hj => by rw [Nat.zero_add, hb.cell j (by omega)]; rfl) (fun j hj => by rw [Nat.zero_add]; exact hb.frozen j (by omega))
  refine wpList_plain hgd fun K hK => ?_
  unfold Oper.wp
  simp [execOp, hop, resolve, invoke, builtin, hd, hx, hrun, Result.andThen]
  refine hK _ _ (h _ ?_ (below_setCells hB _ _ _ (Below.refl _ _)))
  exact BR.copied t.data.toList old [] W hb (by omega)
end
end Go.Proofs.YtipmmjbjgbfgjaaDoor.Q
