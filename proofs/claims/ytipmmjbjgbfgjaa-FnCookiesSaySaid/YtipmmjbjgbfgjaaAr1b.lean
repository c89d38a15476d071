/- Rows of arguments with room behind them. -/
import Derived.Test.YtipmmjbjgbfgjaaAr1
import Derived.Test.YtipmmjbjgbfgjaaBt
import Derived.Test.YtipmmjbjgbfgjaaSpBytes
import Derived.Laws.Append
namespace Go.Proofs.Ytipmmjbjgbfgjaa.Q
open Go.RowKit Go.Proofs.YtipmmjbjgbfgjaaW.PrintWords Go.Proofs.YtipmmjbjgbfgjaaW.PrintLast Go.Proofs.YtipmmjbjgbfgjaaW.PrintMore
open Go.Proofs.Ytipmmjbjgbfgjaa.SpA (toI toI_length toI_append)
set_option linter.unusedVariables false
set_option linter.unusedSimpArgs false
/-- Nothing but blocks of S has turned. -/
structure OnlS (S : Nat → Prop) (w w' : World) : Prop where
  os : w'.os = w.os
  tape : w'.tape = w.tape
  output : w'.output = w.output
  size : w.heap.size ≤ w'.heap.size
  block : ∀ k, k < w.heap.size → ¬ S k → w'.heap[k]? = w.heap[k]?
section
variable {S T : Nat → Prop} {a b c w : World}
theorem OnlS.refl (S : Nat → Prop) (w : World) : OnlS S w w := ⟨rfl, rfl, rfl, Nat.le_refl _, fun _ _ _ => rfl⟩
theorem OnlS.trans (h : OnlS S a b) (k : OnlS S b c) : OnlS S a c := ⟨k.os.trans h.os, k.tape.trans h.tape, k.output.trans h.output, Nat.le_trans h.size k.size, fun i hi hn => (k.block i (Nat.lt_of_lt_of_le hi h.size) hn).trans (h.block i hi hn)⟩
theorem OnlS.trans' (h : OnlS S a b) (k : OnlS T b c) (hs : ∀ i, i < a.heap.size → T i → S i) : OnlS S a c := ⟨k.os.trans h.os, k.tape.trans h.tape, k.output.trans h.output, Nat.le_trans h.size k.size, fun i hi hn => (k.block i (Nat.lt_of_lt_of_le hi h.size) (fun e => hn (hs i hi e))).trans (h.block i hi hn)⟩
theorem OnlS.mono (h : OnlS S a b) (hs : ∀ k, k < a.heap.size → S k → T k) : OnlS T a b := ⟨h.os, h.tape, h.output, h.size, fun k hk hn => h.block k hk (fun e => hn (hs k hk e))⟩
theorem OnlS.drew (h : OnlS S a w) : OnlS S a w.drew := ⟨h.os, h.tape, h.output, h.size, h.block⟩
theorem OnlS.drewN (h : OnlS S a w) (m : Nat) : OnlS S a (w.drewN m) := ⟨h.os, h.tape, h.output, h.size, h.block⟩
theorem OnlS.set (h : OnlS S a w) {g : Nat} (hg : S g ∨ a.heap.size ≤ g) (j : Nat) (u : Value) : OnlS S a (w.setCell ⟨g, j, none⟩ u) :=
  ⟨h.os, h.tape, h.output, by simpa [World.setCell] using h.size, fun k hk hn => by
    rw [Below.heap_setCell _ _ _ _ (show k ≠ g from fun e => hg.elim (fun hs => hn (e ▸ hs)) (fun hl => by omega))]
    exact h.block k hk hn⟩
theorem OnlS.alloc (h : OnlS S a w) (o : Obj) : OnlS S a (w.alloc o) :=
  ⟨h.os, h.tape, h.output, by have := h.size; simp; omega, fun k hk hn => by
    rw [Below.heap_alloc _ _ _ (Nat.lt_of_lt_of_le hk h.size)]
    exact h.block k hk hn⟩
theorem OnlS.below (h : OnlS S a w) {B : Nat} (hB : ∀ k, S k → B ≤ k) (hs : B ≤ a.heap.size) : Below B a w := ⟨h.os, h.tape, h.output, h.size, fun k hk => h.block k (by omega) (fun e => by have := hB k e; omega)⟩
theorem OnlS.of_below {B : Nat} (h : Below B a w) (hB : ∀ k, B ≤ k → k < a.heap.size → S k) : OnlS S a w := ⟨h.os, h.tape, h.output, h.size, fun k hk hn => h.block k (Nat.lt_of_not_le fun e => hn (hB k e hk))⟩
theorem OnlS.kept (h : OnlS S a w) : Kept a w S := ⟨h.size, fun i hi hn => h.block i hi hn⟩
end
/-- The cells of arguments. -/
def cellsA : List AE → List Value
  | [] => []
  | e :: t => e.k :: e.v :: .bool e.b :: cellsA t
theorem cellsA_length : ∀ es, (cellsA es).length = 3 * es.length
  | [] => rfl
  | e :: t => by simp only [cellsA, List.length_cons, cellsA_length t]; omega
theorem cellsA_append : ∀ a b, cellsA (a ++ b) = cellsA a ++ cellsA b
  | [], b => rfl
  | e :: t, b => by simp only [List.cons_append, cellsA, cellsA_append t b]
theorem cellsA_get : ∀ (es : List AE) (i : Nat) (h : i < es.length), (cellsA es)[3 * i]? = some es[i].k ∧ (cellsA es)[3 * i + 1]? = some es[i].v ∧ (cellsA es)[3 * i + 2]? = some (.bool es[i].b)
  | [], i, h => absurd h (Nat.not_lt_zero _)
  | e :: t, 0, h => ⟨rfl, rfl, rfl⟩
  | e :: t, i + 1, h => by
    have := cellsA_get t i (by simpa using h)
    rw [show 3 * (i + 1) = 3 * i + 1 + 1 + 1 by omega, show 3 * i + 1 + 1 + 1 + 1 = 3 * i + 1 + 1 + 1 + 1 from rfl, show 3 * i + 1 + 1 + 1 + 2 = 3 * i + 2 + 1 + 1 + 1 by omega]
    simpa only [cellsA, List.getElem?_cons_succ, List.getElem_cons_succ] using this
theorem AB.of_cells {w : World} {g : Nat} {es : List AE} (h : w.heap[g]? = some (.cells (cellsA es).toArray 86 (0, 0))) : AB w g es :=
  ⟨_, h, by rw [List.size_toArray, cellsA_length], fun i hi => by simpa only [List.getElem?_toArray] using cellsA_get es i hi⟩
theorem cellsA_replicate : ∀ n, cellsA (List.replicate n aeZ) = (List.range (n * 3)).map fun i => (#[Value.slice none 0 0, .slice none 0 0, .bool false] : Array Value)[i % 3]!
  | 0 => rfl
  | n + 1 => by
    rw [List.replicate_succ', cellsA_append, cellsA_replicate n, show (n + 1) * 3 = n * 3 + 1 + 1 + 1 by omega, List.range_succ, List.range_succ, List.range_succ]
    simp only [List.map_append, List.map_cons, List.map_nil, List.append_assoc]
    rw [show n * 3 % 3 = 0 by omega, show (n * 3 + 1) % 3 = 1 by omega, show (n * 3 + 1 + 1) % 3 = 2 by omega]
    rfl
theorem zeroA (n : Nat) : (Builtin.zeroCells #[Value.slice none 0 0, .slice none 0 0, .bool false] n).toList = cellsA (List.replicate n aeZ) := by
  rw [cellsA_replicate]
  simp [Builtin.zeroCells]
/-- A row of arguments, with room behind it. -/
def AR (w : World) (v : Value) (es : List AE) : Prop := (v = .slice none 0 0 ∧ es = []) ∨ ∃ g C, v = .slice (some ⟨g, 0, none⟩) es.length C ∧ es.length ≤ C ∧ C ≤ maxLen ∧ AB w g (es ++ List.replicate (C - es.length) aeZ)
theorem AR.move {w w' : World} {v : Value} {es : List AE} (h : AR w v es) (hm : ∀ k, v.ownBlock = some k → w'.heap[k]? = w.heap[k]?) : AR w' v es := by
  rcases h with h | ⟨g, C, rfl, h1, h2, h3⟩
  · exact .inl h
  · exact .inr ⟨g, C, rfl, h1, h2, h3.move (hm g rfl)⟩
theorem AR.heap {w w' : World} {v : Value} {es : List AE} (h : AR w v es) (e : w'.heap = w.heap) : AR w' v es := h.move fun k _ => by rw [e]
theorem AR.lt {w : World} {v : Value} {es : List AE} (h : AR w v es) : ∀ k, v.ownBlock = some k → k < w.heap.size := by
  rcases h with ⟨rfl, _⟩ | ⟨g, C, rfl, h1, h2, h3⟩
  · intro k hk; cases hk
  · intro k hk
    have : g = k := by simpa [Value.ownBlock] using hk
    subst this
    exact h3.lt
/-- A part of a text that is read. -/
theorem BR.C {w : World} {g : Nat} {e : TypeId} {p q : List UInt8} (h : BR w g e (p ++ q)) (hl : (p ++ q).length ≤ 4611686018427387904) : Kd.C (Kd.int .u8) w (some ⟨g, p.length, none⟩) (toI q).length (toI q) := by
  simp only [List.length_append] at hl
  refine Kd.C_of_reads (enc := Value.int .u8) (d := (0 : Int)) (h1 := fun _ => rfl) ⟨rfl, by rw [toI_length]; omega, fun _ => ⟨_, rfl, fun j hj => ?_⟩⟩
  rw [toI_length] at hj
  have := h.cell (p.length + j) (by simp; omega)
  rw [addr_add', this, List.getElem_append_right (by omega)]
  simp [toI, hj]
theorem BR.pre {w : World} {g : Nat} {e : TypeId} {p q : List UInt8} (h : BR w g e (p ++ q)) : BR w g e p := by
  obtain ⟨C, lo, hi, hg, hs, hf, hc⟩ := h.out
  simp only [List.length_append] at hs hf
  refine ⟨C, lo, hi, hg, by omega, by omega, fun j hj => ?_⟩
  have := hc j (by simp; omega)
  rw [List.getElem_append_left hj] at this
  exact this
theorem C_nil {w : World} (A : Option Addr) : Kd.C (Kd.int .u8) w A (toI []).length (toI []) := by
  refine Kd.C_of_reads (enc := Value.int .u8) (d := (0 : Int)) (h1 := fun _ => rfl) ⟨rfl, by simp [toI], fun h => ?_⟩
  simp [toI] at h
/-- A row laid anew at a higher base. -/
theorem R_raise {w : World} {e : Nat} {base b : Nat} {ok : Nat → Prop} {v : Value} {xs : List Int} (h : Kd.R (Kd.int .u8) e w base ok v xs) (hb : ∀ k, ok k → b ≤ k) : Kd.R (Kd.int .u8) e w b ok v xs := by
  refine Kd.R_of_own ?_ h.1
  obtain ⟨h1, h2⟩ := Kd.own_of_R h
  refine ⟨h1, ?_⟩
  rcases h2 with h2 | ⟨g, cap, cur, rfl, hg, r⟩
  · exact .inl h2
  · exact .inr ⟨g, cap, cur, rfl, hb g (h.1 g rfl), r⟩
theorem R_slot {w : World} {g b : Nat} {ok : Nat → Prop} (h : w.heap[g]? = some (.cells #[] 5 (0, 0))) (hb : b ≤ g) (hk : ok g) : Kd.R (Kd.int .u8) 5 w b ok (.slice (some ⟨g, 0, none⟩) 0 0) (toI []) := by
  refine Kd.R_of_own (xs := toI []) ?_ fun k hk' => ?_
  · exact ⟨rfl, .inr ⟨g, 0, #[], rfl, hb, h, Nat.le_refl _, by decide, rfl, rfl⟩⟩
  · have : g = k := by simpa [Value.ownBlock] using hk'
    subst this
    exact hk
end Go.Proofs.Ytipmmjbjgbfgjaa.Q
