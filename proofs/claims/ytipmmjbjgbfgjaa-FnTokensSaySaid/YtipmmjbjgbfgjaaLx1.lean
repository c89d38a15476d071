/- The lexer's state: a block of four cells; what is read of it and written into it. -/
import Derived.Test.YtipmmjbjgbfgjaaKit
import Derived.Test.YtipmmjbjgbfgjaaQ0
import Derived.Test.YtipmmjbjgbfgjaaX
import Derived.WalkSpells
import Derived.StillTailTactics
namespace Go.Proofs.Ytipmmjbjgbfgjaa.Q
open Go.RowKit Go.Proofs.YtipmmjbjgbfgjaaW.PrintWords Go.Proofs.YtipmmjbjgbfgjaaW.PrintLast Go.Proofs.YtipmmjbjgbfgjaaW.PrintMore
set_option linter.unusedVariables false
set_option linter.unusedSimpArgs false
def LX (w : World) (g : Nat) (s : ByteArray) (p rp c : Int) : Prop := w.heap[g]? = some (.cells #[.string s, .int .i64 p, .int .i64 rp, .int .u8 c] 90 (0, 0))
/-- Nothing but block g has turned. -/
structure Onl (g : Nat) (w w' : World) : Prop where
  os : w'.os = w.os
  tape : w'.tape = w.tape
  output : w'.output = w.output
  size : w.heap.size ≤ w'.heap.size
  block : ∀ k, k < w.heap.size → k ≠ g → w'.heap[k]? = w.heap[k]?
theorem Onl.refl (g : Nat) (w : World) : Onl g w w := ⟨rfl, rfl, rfl, Nat.le_refl _, fun _ _ _ => rfl⟩
theorem Onl.trans {g : Nat} {a b c : World} (h : Onl g a b) (k : Onl g b c) : Onl g a c := ⟨k.os.trans h.os, k.tape.trans h.tape, k.output.trans h.output, Nat.le_trans h.size k.size, fun i hi hn => (k.block i (Nat.lt_of_lt_of_le hi h.size) hn).trans (h.block i hi hn)⟩
theorem Onl.drew {g : Nat} {a w : World} (h : Onl g a w) : Onl g a w.drew := ⟨h.os, h.tape, h.output, h.size, h.block⟩
theorem Onl.drewN {g : Nat} {a w : World} (h : Onl g a w) (m : Nat) : Onl g a (w.drewN m) := ⟨h.os, h.tape, h.output, h.size, h.block⟩
theorem Onl.set {g : Nat} {a w : World} (h : Onl g a w) (j : Nat) (u : Value) : Onl g a (w.setCell ⟨g, j, none⟩ u) :=
  h.trans ⟨rfl, rfl, rfl, by simp [World.setCell], fun k _ hk => Below.heap_setCell _ _ _ _ hk⟩
theorem Onl.alloc {g : Nat} {a w : World} (h : Onl g a w) (o : Obj) : Onl g a (w.alloc o) := h.trans ⟨rfl, rfl, rfl, by simp, fun k hk _ => Below.heap_alloc _ _ _ hk⟩
theorem Onl.below {g B : Nat} {a w : World} (h : Onl g a w) (hB : B ≤ g) (hs : B ≤ a.heap.size) : Below B a w := ⟨h.os, h.tape, h.output, h.size, fun k hk => h.block k (by omega) (by omega)⟩
theorem Onl.of_below {g : Nat} {a w : World} (h : Below a.heap.size a w) : Onl g a w := ⟨h.os, h.tape, h.output, h.size, fun k hk _ => h.block k hk⟩
theorem Onl.kept {g : Nat} {a w : World} (h : Onl g a w) : Kept a w (fun k => k = g) := ⟨h.size, fun i hi hn => h.block i hi hn⟩
section
variable {w w' : World} {g : Nat} {s : ByteArray} {p rp c : Int}
theorem LX.lt (h : LX w g s p rp c) : g < w.heap.size := (Array.getElem?_eq_some_iff.1 h).1
theorem LX.heap (h : LX w g s p rp c) (e : w'.heap = w.heap) : LX w' g s p rp c := by unfold LX; rw [e]; exact h
theorem LX.below (h : LX w g s p rp c) (hb : Below w.heap.size w w') : LX w' g s p rp c := (hb.block g h.lt).trans h
theorem LX.alloc (h : LX w g s p rp c) (o : Obj) : LX (w.alloc o) g s p rp c := (Below.heap_alloc w o g h.lt).trans h
theorem LX.c0 (h : LX w g s p rp c) : w.cell? ⟨g, 0, none⟩ = some (.string s) := by unfold World.cell?; rw [h]; rfl
theorem LX.c1 (h : LX w g s p rp c) : w.cell? ⟨g, 1, none⟩ = some (.int .i64 p) := by unfold World.cell?; rw [h]; rfl
theorem LX.c2 (h : LX w g s p rp c) : w.cell? ⟨g, 2, none⟩ = some (.int .i64 rp) := by unfold World.cell?; rw [h]; rfl
theorem LX.c3 (h : LX w g s p rp c) : w.cell? ⟨g, 3, none⟩ = some (.int .u8 c) := by unfold World.cell?; rw [h]; rfl
theorem LX.fz (h : LX w g s p rp c) (j : Nat) : w.frozen? ⟨g, j, none⟩ = false := by unfold World.frozen?; rw [h]; simp
theorem LX.far (h : LX w g s p rp c) {a : Addr} (ha : a.block ≠ g) (u : Value) : LX (w.setCell a u) g s p rp c := (Below.heap_setCell w a u g (fun e => ha e.symm)).trans h
theorem LX.set (h : LX w g s p rp c) (j : Nat) (u : Value) : (w.setCell ⟨g, j, none⟩ u).heap[g]? = some (.cells ((#[.string s, .int .i64 p, .int .i64 rp, .int .u8 c] : Array Value).setIfInBounds j u) 90 (0, 0)) := by
  simp only [World.setCell, Array.getElem?_modify, if_pos]
  unfold LX at h
  rw [h]
  rfl
theorem LX.set1 (h : LX w g s p rp c) (x : Int) : LX (w.setCell ⟨g, 1, none⟩ (.int .i64 x)) g s x rp c := h.set 1 _
theorem LX.set2 (h : LX w g s p rp c) (x : Int) : LX (w.setCell ⟨g, 2, none⟩ (.int .i64 x)) g s p x c := h.set 2 _
theorem LX.set3 (h : LX w g s p rp c) (x : Int) : LX (w.setCell ⟨g, 3, none⟩ (.int .u8 x)) g s p rp x := h.set 3 _
end
theorem still_tail2 {P : Program} {id : Nat} {Q : Exit → Act → World → Prop} {a : Act} {w : World} {l : List Oper} (n : Nat) (hm : P.follows .mixedOrders = true) (hB : Region.lexTailB .any l.toArray n = true)
    (h : ∀ W2 : World, W2.heap = w.heap → W2 = w.drew → wpStill P l.toArray W2 (fun a' => wpList P l.toArray Q (l.drop n) a' W2) (l.take n) a) : (Code.region id l.toArray true).wp P Q a w := wp_region_still_tail n hm hB (h _ rfl rfl)
/-- The byte at a place; 0 behind the end. -/
def chAt (s : ByteArray) (n : Nat) : Int := if n < s.size then bt s (n : Int) else 0
set_option maxHeartbeats 8000000 in
set_option maxRecDepth 100000 in
theorem readChar_calls (w : World) (g : Nat) (s : ByteArray) (p c : Int) (n : Nat) (h : LX w g s p (n : Int) c) (hn : n ≤ 4611686018427387904) :
    Calls Try.prog 91 #[.pointer (some ⟨g, 0, none⟩)] w fun e w' => e = .returned (.tuple #[]) ∧ LX w' g s (n : Int) ((n + 1 : Nat) : Int) (chAt s n) ∧ Onl g w w' := by
  have HL := Aside0.mk h
  have f0 := h.c0
  have f1 := h.c1
  have f2 := h.c2
  have f3 := h.c3
  have z1 := h.fz 1
  have z2 := h.fz 2
  have z3 := h.fz 3
  obtain ⟨x, hx⟩ : ∃ x : Int, x = (n : Int) := ⟨_, rfl⟩
  rw [← hx] at f2
  have HX := Aside0.mk hx
  have HW : Aside0 (wrap64 (x + 1) = ((n + 1 : Nat) : Int)) := ⟨by unfold wrap64; omega⟩
  by_cases hc : n < s.size
  · have b1 : decide (x ≥ (s.size : Int)) = false := decide_eq_false (by omega)
    have b1' : decide ((s.size : Int) ≤ x) = false := decide_eq_false (by omega)
    have p1 : (0 ≤ x) = True := eq_true (by omega)
    have q1 : (x < (s.size : Int)) = True := eq_true (by omega)
    have HC : Aside0 (chAt s n = bt s x) := ⟨by unfold chAt; rw [if_pos hc, hx]⟩
    have HO := Aside0.mk (Onl.refl g w)
    clear h hx hn hc
    go_enter Try.func91, Try.ntmps91
    go_wp2
    repeat (go_quiet (fail); try go_wp2)
    refine still_tail2 12 (by kernel_rfl) (by kernel_rfl) (fun W2 hh hW2 => ?_)
    have HL2 : Aside0 (LX W2 g s p (n : Int) c) := ⟨(HL.out.heap hh)⟩
    have HO2 : Aside0 (Onl g w W2) := ⟨by rw [hW2]; exact ((Onl.refl g w).drewN nq).drew⟩
    clear f0 f1 f2 f3 z1 z2 z3 hh hW2 HL HO
    have f0 := HL2.out.c0
    have f1 := HL2.out.c1
    have f2 := HL2.out.c2
    have f3 := HL2.out.c3
    have z1 := HL2.out.fz 1
    have z2 := HL2.out.fz 2
    have z3 := HL2.out.fz 3
    rw [← HX.out] at f2
    simp only [List.take_succ_cons, List.take_zero, List.drop_succ_cons, List.drop_zero]
    repeat still_step
    try refine wpStill_nil ?_
    go_wp2
    go_end0
    refine ⟨rfl, ?_, ((HO2.out.set 3 _).set 1 _).set 2 _⟩
    rw [bt_at, HC.out]
    have h1 := (HL2.out.set3 (bt s x)).set1 x
    have h2 := h1.set2 (wrap64 (x + 1))
    rw [HW.out] at h2 ⊢
    rw [HX.out] at h2 ⊢
    exact h2
  · have b1 : decide (x ≥ (s.size : Int)) = true := decide_eq_true (by omega)
    have b1' : decide ((s.size : Int) ≤ x) = true := decide_eq_true (by omega)
    have HC : Aside0 (chAt s n = 0) := ⟨by unfold chAt; rw [if_neg hc]⟩
    clear h hx hn hc
    go_enter Try.func91, Try.ntmps91
    go_wp2
    repeat (go_quiet (fail); try go_wp2)
    go_end0
    refine ⟨rfl, ?_, by first | exact ((((Onl.refl g w).drewN _).set 3 _).set 1 _).set 2 _⟩
    rw [HC.out]
    have h1 := ((HL.out.heap (w' := w.drewN nq) rfl).set3 0).set1 x
    have h2 := h1.set2 (wrap64 (x + 1))
    rw [HW.out] at h2 ⊢
    rw [HX.out] at h2 ⊢
    exact h2
/-- The lexer stands at a place. -/
def LN (w : World) (g : Nat) (s : ByteArray) (n : Nat) : Prop := LX w g s (n : Int) ((n + 1 : Nat) : Int) (chAt s n)
theorem LN.below {w w' : World} {g : Nat} {s : ByteArray} {n : Nat} (h : LN w g s n) (hb : Below w.heap.size w w') : LN w' g s n := LX.below h hb
theorem LN.heap {w w' : World} {g : Nat} {s : ByteArray} {n : Nat} (h : LN w g s n) (e : w'.heap = w.heap) : LN w' g s n := LX.heap h e
theorem readNext_calls (w : World) (g : Nat) (s : ByteArray) (n : Nat) (h : LN w g s n) (hn : n ≤ 4611686018427387903) :
    Calls Try.prog 91 #[.pointer (some ⟨g, 0, none⟩)] w fun e w' => e = .returned (.tuple #[]) ∧ LN w' g s (n + 1) ∧ Onl g w w' := readChar_calls w g s _ _ (n + 1) h (by omega)
theorem ch_byte (s : ByteArray) (n : Nat) : 0 ≤ chAt s n ∧ chAt s n ≤ 255 := by
  unfold chAt
  split
  · exact bt_range _ _
  · omega
set_option maxHeartbeats 8000000 in
set_option maxRecDepth 100000 in
theorem new_calls (w : World) (s : ByteArray) : Calls Try.prog 74 #[.string s] w fun e w' => ∃ g, e = .returned (.pointer (some ⟨g, 0, none⟩)) ∧ w.heap.size ≤ g ∧ LN w' g s 0 ∧ Below w.heap.size w w' := by
  go_enter Try.func74, Try.ntmps74
  go_wp2_with (first | ((with_reducible refine gate_callee (f := 91) rfl ?_); refine goesL_ (some 8) rfl rfl Try.func91 (by kernel_rfl) rfl #[.pointer (some ⟨w.heap.size, 0, none⟩)] rfl (by (try simp only [List.map_toArray, List.map_cons, List.map_nil]); first | done | rfl) ?_; refine (readChar_calls _ w.heap.size s 0 0 0 (show LX _ _ _ _ _ _ from heap_alloc_new w _) (by omega)).mono ?_; rintro e w7 ⟨rfl, hl, ho⟩; refine ⟨_, rfl, ?_⟩; have HL := Aside0.mk hl; have HO := Aside0.mk ho; clear hl ho))
  go_ret
  exact ⟨_, rfl, Nat.le_refl _, HL.out, (below_alloc (Below.refl _ _) _).trans (HO.out.below (Nat.le_refl _) (by simp))⟩
/-- Where a run of bytes of a kind ends. -/
def skipN (P : Int → Bool) (s : ByteArray) : Nat → Nat → Nat
  | 0, n => n
  | f + 1, n => if P (chAt s n) = true then skipN P s f (n + 1) else n
def skipTo (P : Int → Bool) (s : ByteArray) (n : Nat) : Nat := skipN P s (s.size - n) n
theorem ch_in {P : Int → Bool} (h0 : P 0 = false) {s : ByteArray} {n : Nat} (h : P (chAt s n) = true) : n < s.size := by
  refine Classical.byContradiction fun hn => ?_
  unfold chAt at h
  rw [if_neg hn, h0] at h
  cases h
theorem skip_go {P : Int → Bool} (h0 : P 0 = false) {s : ByteArray} {n : Nat} (h : P (chAt s n) = true) : skipTo P s n = skipTo P s (n + 1) := by
  have := ch_in h0 h
  unfold skipTo
  rw [show s.size - n = (s.size - (n + 1)) + 1 by omega, skipN, if_pos h]
theorem skip_stop {P : Int → Bool} {s : ByteArray} {n : Nat} (h : P (chAt s n) = false) : skipTo P s n = n := by
  unfold skipTo
  cases hd : s.size - n with
  | zero => rfl
  | succ f => rw [skipN, if_neg (by rw [h]; simp)]
/-- The lexer's place, as its block tells it. -/
def posW (w : World) (g : Nat) : Nat := match w.cell? ⟨g, 1, none⟩ with
  | some (.int _ p) => p.toNat
  | _ => 0
theorem LN.pos {w : World} {g : Nat} {s : ByteArray} {n : Nat} (h : LN w g s n) : posW w g = n := by unfold posW; rw [LX.c1 h]; rfl
def isWs (c : Int) : Bool := decide (c = 32) || (decide (c = 9) || (decide (c = 10) || decide (c = 13)))
end Go.Proofs.Ytipmmjbjgbfgjaa.Q
