/- Arguments that are done; small steps. -/
import Derived.Test.YtipmmjbjgbfgjaaAr3g
namespace Go.Proofs.Ytipmmjbjgbfgjaa.Q
open Go.RowKit Go.Proofs.YtipmmjbjgbfgjaaW.PrintWords Go.Proofs.YtipmmjbjgbfgjaaW.PrintLast Go.Proofs.YtipmmjbjgbfgjaaW.PrintMore
open Go.Proofs.Ytipmmjbjgbfgjaa.SpA (toI toI_length toI_append)
set_option linter.unusedVariables false
set_option linter.unusedSimpArgs false
/-- An argument: its key, its value, whether it has none. -/
abbrev En := List UInt8 × List UInt8 × Bool
/-- Arguments that are done: their rows lie below b. -/
def FIN (w : World) (b : Nat) : List AE → List En → Prop
  | [], [] => True
  | e :: es, x :: xs => Kd.R (Kd.int .u8) 5 w 0 (fun j => j < b) e.k (toI x.1) ∧ Kd.R (Kd.int .u8) 5 w 0 (fun j => j < b) e.v (toI x.2.1) ∧ e.b = x.2.2 ∧ FIN w b es xs
  | _, _ => False
theorem FIN.length {w : World} {b : Nat} : ∀ {es : List AE} {xs : List En}, FIN w b es xs → es.length = xs.length
  | [], [], _ => rfl
  | e :: es, x :: xs, h => by simp only [List.length_cons, FIN.length h.2.2.2]
theorem R_bd {w : World} {base b : Nat} {v : Value} {xs : List Int} (h : Kd.R (Kd.int .u8) 5 w base (fun j => j < b) v xs) {w1 : World} (hm : ∀ j cells, j < b → w.heap[j]? = some (.cells cells 5 (0, 0)) → w1.heap[j]? = w.heap[j]?) : Kd.R (Kd.int .u8) 5 w1 base (fun j => j < b) v xs := by
  refine Kd.R_mono (Kd.R_step (Kd.R_bound h) fun j hj hl => ?_) fun j hj => hj.1
  obtain ⟨h1, h2, h3, q, hq, cells, hc⟩ := hj
  have hq5 : q = 5 := by simpa [Kd.E, Kd.int, Kd.scalar] using hq
  subst hq5
  exact hm j cells h1 hc
theorem FIN.move {w w1 : World} {b : Nat} (hm : ∀ j cells, j < b → w.heap[j]? = some (.cells cells 5 (0, 0)) → w1.heap[j]? = w.heap[j]?) : ∀ {es : List AE} {xs : List En}, FIN w b es xs → FIN w1 b es xs
  | [], [], _ => trivial
  | e :: es, x :: xs, h => ⟨R_bd h.1 hm, R_bd h.2.1 hm, h.2.2.1, FIN.move hm h.2.2.2⟩
theorem FIN.more {w : World} {b b' : Nat} (hb : b ≤ b') : ∀ {es : List AE} {xs : List En}, FIN w b es xs → FIN w b' es xs
  | [], [], _ => trivial
  | e :: es, x :: xs, h => ⟨Kd.R_mono h.1 fun j hj => Nat.lt_of_lt_of_le hj hb, Kd.R_mono h.2.1 fun j hj => Nat.lt_of_lt_of_le hj hb, h.2.2.1, FIN.more hb h.2.2.2⟩
theorem FIN.snoc {w : World} {b : Nat} {e : AE} {x : En} (hk : Kd.R (Kd.int .u8) 5 w 0 (fun j => j < b) e.k (toI x.1)) (hv : Kd.R (Kd.int .u8) 5 w 0 (fun j => j < b) e.v (toI x.2.1)) (hb : e.b = x.2.2) : ∀ {es : List AE} {xs : List En}, FIN w b es xs → FIN w b (es ++ [e]) (xs ++ [x])
  | [], [], _ => ⟨hk, hv, hb, trivial⟩
  | _ :: es, _ :: xs, h => ⟨h.1, h.2.1, h.2.2.1, FIN.snoc hk hv hb h.2.2.2⟩
theorem FIN.get {w : World} {b : Nat} : ∀ {es : List AE} {xs : List En}, FIN w b es xs → ∀ (i : Nat) (h1 : i < es.length) (h2 : i < xs.length), Kd.R (Kd.int .u8) 5 w 0 (fun j => j < b) es[i].k (toI xs[i].1) ∧ Kd.R (Kd.int .u8) 5 w 0 (fun j => j < b) es[i].v (toI xs[i].2.1) ∧ es[i].b = xs[i].2.2
  | [], [], _, i, h1, _ => absurd h1 (Nat.not_lt_zero _)
  | e :: es, x :: xs, h, 0, _, _ => ⟨h.1, h.2.1, h.2.2.1⟩
  | e :: es, x :: xs, h, i + 1, h1, h2 => FIN.get h.2.2.2 i (by simpa using h1) (by simpa using h2)
theorem CUR.done {w : World} {b : Nat} {k v : Value} {key val : List UInt8} (h : CUR w b k v key val) : Kd.R (Kd.int .u8) 5 w 0 (fun j => j < w.heap.size) k (toI key) ∧ Kd.R (Kd.int .u8) 5 w 0 (fun j => j < w.heap.size) v (toI val) := by
  obtain ⟨D, h1, h2⟩ := h
  exact ⟨Kd.R_mono (Kd.R_bound (Kd.R_lower h1 (Nat.zero_le _))) fun j hj => hj.2.2.1, Kd.R_mono (Kd.R_bound (Kd.R_lower h2 (Nat.zero_le _))) fun j hj => hj.2.2.1⟩
theorem CUR.slot {w : World} {b g0 : Nat} (h : w.heap[g0]? = some (.cells #[] 5 (0, 0))) (hb : b ≤ g0) : CUR w b (slot g0).k (slot g0).v [] [] :=
  ⟨fun j => j = g0, Kd.R_nil _ _ _ _ _, R_slot h hb rfl⟩
theorem CUR.move {w w1 : World} {b : Nat} {k v : Value} {key val : List UInt8} (h : CUR w b k v key val) (hm : ∀ j cells, b ≤ j → w.heap[j]? = some (.cells cells 5 (0, 0)) → w1.heap[j]? = w.heap[j]?) : CUR w1 b k v key val := by
  obtain ⟨D, h1, h2⟩ := h
  refine ⟨D, Kd.R_mono (Kd.R_step (R_P5 h1) fun j hj hl => ?_) fun j hj => hj.1, Kd.R_mono (Kd.R_step (R_P5 h2) fun j hj hl => ?_) fun j hj => hj.1⟩
  · obtain ⟨_, h3, cells, hc⟩ := hj
    exact hm j cells h3 hc
  · obtain ⟨_, h3, cells, hc⟩ := hj
    exact hm j cells h3 hc
theorem set_mid (es : List AE) (c c' : AE) (r : List AE) : (es ++ [c] ++ r).set es.length c' = es ++ [c'] ++ r := by
  rw [List.append_assoc, List.set_append_right _ _ (Nat.le_refl _), Nat.sub_self]
  simp
/-- How much is still to be read. -/
def scanW (w : World) (gs : Nat) : Nat := match w.cell? ⟨gs, 0, none⟩ with
  | some (.slice _ n _) => n
  | _ => 0
theorem SQ.len {w : World} {gt gs : Nat} {L q : List UInt8} {v : Value} (h : SQ w gt L q v) (ho : OB w gs 99 v) : scanW w gs = q.length := by
  obtain ⟨p, off, c, h1, rfl, _⟩ := h
  unfold scanW
  rw [ho.c0]
set_option maxHeartbeats 4000000 in
set_option maxRecDepth 100000 in
theorem release_calls (w : World) (A : Option Addr) (n C : Nat) (hn : n + 1 ≤ 4294967297) (hC : n + 1 ≤ C) :
    Calls Try.prog 106 #[.slice A (n + 1) C] w fun e w' => e = .returned (.slice A n C) ∧ w' = w := by
  obtain ⟨i0, hi0, _, hsz0, _⟩ := info_parts info86
  obtain ⟨m, hm⟩ : ∃ m, m = n + 1 := ⟨_, rfl⟩
  rw [← hm]
  obtain ⟨x, hx⟩ : ∃ x : Int, x = (n : Int) := ⟨_, rfl⟩
  have hw : wrap64 ((m : Int) - 1) = x := by unfold wrap64; omega
  have HC := cutUp (P := Try.prog) Try.underlying83 hi0 A m C n x hx (by omega)
  go_enter Try.func106, Try.ntmps106
  go_wp2
  go_ret
  exact ⟨rfl, rfl⟩
end Go.Proofs.Ytipmmjbjgbfgjaa.Q
