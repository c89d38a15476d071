/- Tokens made: their kinds, texts and places. -/
import Derived.Test.YtipmmjbjgbfgjaaQ1
import Derived.Test.YtipmmjbjgbfgjaaLx2
import Derived.BigRegion
import Derived.Laws.Cover4
import Derived.Deep.Cut
namespace Go.Proofs.Ytipmmjbjgbfgjaa.Q
open Go.RowKit Go.Proofs.YtipmmjbjgbfgjaaW.PrintWords Go.Proofs.YtipmmjbjgbfgjaaW.PrintLast Go.Proofs.YtipmmjbjgbfgjaaW.PrintMore
set_option linter.unusedVariables false
set_option linter.unusedSimpArgs false
theorem set4 {w : World} {g : Nat} {t : TypeId} {a b c d : Value} (h : w.heap[g]? = some (.cells #[a, b, c, d] t (0, 0))) (a' b' c' d' : Value) :
    ((((w.setCell ⟨g, 0, none⟩ a').setCell ⟨g, 1, none⟩ b').setCell ⟨g, 2, none⟩ c').setCell ⟨g, 3, none⟩ d').heap[g]? = some (.cells #[a', b', c', d'] t (0, 0)) := by
  simp only [World.setCell, Array.getElem?_modify, if_pos]
  rw [h]
  rfl
theorem below4 {B : Nat} {w0 w : World} {g : Nat} (h : Below B w0 w) (hB : B ≤ g) (a b c d : Value) : Below B w0 ((((w.setCell ⟨g, 0, none⟩ a).setCell ⟨g, 1, none⟩ b).setCell ⟨g, 2, none⟩ c).setCell ⟨g, 3, none⟩ d) := (((h.setCell hB _).setCell hB _).setCell hB _).setCell hB _
/-- A token: its kind, text, beginning and end. -/
structure Tk where
  k : Int
  t : ByteArray
  a : Int
  z : Int
def Tk.val (x : Tk) : Value := .agg #[.int .i64 x.k, .string x.t, .int .i64 x.a, .int .i64 x.z]
def tokAt (k : Int) (t : ByteArray) (n : Nat) : Tk := if 1 < n ∧ 1 < t.size then ⟨k, t, (n : Int) - (t.size : Int), (n : Int) - 1⟩ else ⟨k, t, n, n⟩
set_option maxHeartbeats 8000000 in
set_option maxRecDepth 100000 in
theorem newToken_calls (w : World) (g : Nat) (s : ByteArray) (n : Nat) (k : Int) (t : ByteArray) (h : LN w g s n) (hn : n ≤ 4611686018427387903) (ht : t.size ≤ 4611686018427387903) (T : Tk) (hT : tokAt k t n = T) :
    Calls Try.prog 97 #[.pointer (some ⟨g, 0, none⟩), .int .i64 k, .string t] w fun e w' => e = .returned (.agg #[.int .i64 T.k, .string T.t, .int .i64 T.a, .int .i64 T.z]) ∧ Below w.heap.size w w' := by
  have HTT := Aside0.mk hT
  clear hT
  have HL0 := Aside0.mk h
  obtain ⟨x, hx⟩ : ∃ x : Int, x = (n : Int) := ⟨_, rfl⟩
  have HX := Aside0.mk hx
  have f1 := (h.alloc (.cells #[.int .i64 0, .string ⟨#[]⟩, .int .i64 0, .int .i64 0] 76)).c1
  rw [← hx] at f1
  clear h hx
  go_enter Try.func97, Try.ntmps97
  go_wp2
  obtain ⟨W2, hW2⟩ : ∃ W2, W2 = w.alloc (.cells #[.int .i64 0, .string ⟨#[]⟩, .int .i64 0, .int .i64 0] 76) := ⟨_, rfl⟩
  rw [← hW2] at f1 ⊢
  have HLW : Aside0 (LN W2 g s n) := ⟨by rw [hW2]; exact LX.alloc HL0.out _⟩
  have f2 : ∀ C : Array Value, (W2.alloc (.cells C 76)).cell? ⟨g, 1, none⟩ = some (.int .i64 x) := fun C => by rw [HX.out]; exact LX.c1 (HLW.out.alloc _)
  have HB2 : Aside0 (Below w.heap.size w W2) := ⟨by rw [hW2]; exact below_alloc (Below.refl _ _) _⟩
  obtain ⟨g6, hg6⟩ : ∃ g6, g6 = w.heap.size := ⟨_, rfl⟩
  have HZ6 : Aside0 (W2.heap[g6]? = some (.cells #[.int .i64 0, .string ⟨#[]⟩, .int .i64 0, .int .i64 0] 76 (0, 0))) := ⟨by rw [hW2, hg6]; exact heap_alloc_new w _⟩
  have HG6 : Aside0 (w.heap.size ≤ g6) := ⟨by omega⟩
  rw [← hg6]
  clear hW2 hg6
  have f3 : ∀ C : Array Value, (W2.drew.alloc (.cells C 76)).cell? ⟨g, 1, none⟩ = some (.int .i64 x) := f2
  have hlt : g6 < W2.heap.size := (Array.getElem?_eq_some_iff.1 HZ6.out).1
  have hz : ∀ C : Array Value, (W2.alloc (.cells C 76)).heap[g6]? = some (.cells #[.int .i64 0, .string ⟨#[]⟩, .int .i64 0, .int .i64 0] 76 (0, 0)) := fun C => (Below.heap_alloc W2 _ g6 hlt).trans HZ6.out
  have zc0 : ∀ C : Array Value, (W2.alloc (.cells C 76)).cell? ⟨g6, 0, none⟩ = some (.int .i64 0) := fun C => by unfold World.cell?; rw [hz C]; rfl
  have zc1 : ∀ C : Array Value, (W2.alloc (.cells C 76)).cell? ⟨g6, 1, none⟩ = some (.string ⟨#[]⟩) := fun C => by unfold World.cell?; rw [hz C]; rfl
  have zc2 : ∀ C : Array Value, (W2.alloc (.cells C 76)).cell? ⟨g6, 2, none⟩ = some (.int .i64 0) := fun C => by unfold World.cell?; rw [hz C]; rfl
  have zc3 : ∀ C : Array Value, (W2.alloc (.cells C 76)).cell? ⟨g6, 3, none⟩ = some (.int .i64 0) := fun C => by unfold World.cell?; rw [hz C]; rfl
  have zf0 : ∀ C : Array Value, (W2.alloc (.cells C 76)).frozen? ⟨g6, 0, none⟩ = false := fun C => by unfold World.frozen?; rw [hz C]; rfl
  have zf1 : ∀ C : Array Value, (W2.alloc (.cells C 76)).frozen? ⟨g6, 1, none⟩ = false := fun C => by unfold World.frozen?; rw [hz C]; rfl
  have zf2 : ∀ C : Array Value, (W2.alloc (.cells C 76)).frozen? ⟨g6, 2, none⟩ = false := fun C => by unfold World.frozen?; rw [hz C]; rfl
  have zf3 : ∀ C : Array Value, (W2.alloc (.cells C 76)).frozen? ⟨g6, 3, none⟩ = false := fun C => by unfold World.frozen?; rw [hz C]; rfl
  have HT := Aside0.mk ht
  have HN := Aside0.mk hn
  clear hlt ht hn
  by_cases h1 : 1 < n
  · have b1 : decide (x > 1) = true := decide_eq_true (by have := HX.out; omega)
    have b1' : decide (1 < x) = true := decide_eq_true (by have := HX.out; omega)
    by_cases h2 : 1 < t.size
    · have b2 : decide ((t.size : Int) > 1) = true := decide_eq_true (by omega)
      have b2' : decide (1 < (t.size : Int)) = true := decide_eq_true (by omega)
      obtain ⟨en, hen⟩ : ∃ en : Int, en = x - 1 := ⟨_, rfl⟩
      obtain ⟨st, hst⟩ : ∃ st : Int, st = x - (t.size : Int) := ⟨_, rfl⟩
      have w1 : wrap64 (x - 1) = en := by have := HX.out; have := HN.out; unfold wrap64; omega
      have w2 : wrap64 (wrap64 (en - (t.size : Int)) + 1) = st := by have := HX.out; have := HN.out; have := HT.out; unfold wrap64; omega
      have HE : Aside0 (tokAt k t n = ⟨k, t, st, en⟩) := ⟨by unfold tokAt; rw [if_pos ⟨h1, h2⟩, hst, hen, HX.out]⟩
      clear hen hst h1 h2
      go_region
      go_wp2
      refine bodyPost_ret (results_cell_row rfl _ _ g6 76 _ (0, 0) _ rfl (set4 (hz _) _ _ _ _) Try.underlying76 rfl (by kernel_rfl)) rfl ?_
      refine ⟨by rw [← HTT.out, HE.out], ?_⟩
      exact below_drew1 (below4 (below_alloc HB2.out _) HG6.out _ _ _ _)
    · have b2 : decide ((t.size : Int) > 1) = false := decide_eq_false (by omega)
      have b2' : decide (1 < (t.size : Int)) = false := decide_eq_false (by omega)
      have HE : Aside0 (tokAt k t n = ⟨k, t, x, x⟩) := ⟨by unfold tokAt; rw [if_neg (fun h => h2 h.2), HX.out]⟩
      clear h1 h2
      go_region
      go_wp2
      refine bodyPost_ret (results_cell_row rfl _ _ g6 76 _ (0, 0) _ rfl (set4 (hz _) _ _ _ _) Try.underlying76 rfl (by kernel_rfl)) rfl ?_
      refine ⟨by rw [← HTT.out, HE.out], ?_⟩
      exact below_drew1 (below4 (below_alloc HB2.out _) HG6.out _ _ _ _)
  · have b1 : decide (x > 1) = false := decide_eq_false (by have := HX.out; omega)
    have b1' : decide (1 < x) = false := decide_eq_false (by have := HX.out; omega)
    have HE : Aside0 (tokAt k t n = ⟨k, t, x, x⟩) := ⟨by unfold tokAt; rw [if_neg (fun h => h1 h.1), HX.out]⟩
    clear h1
    go_region
    go_wp2
    refine bodyPost_ret (results_cell_row rfl _ _ g6 76 _ (0, 0) _ rfl (set4 (hz _) _ _ _ _) Try.underlying76 rfl (by kernel_rfl)) rfl ?_
    refine ⟨by rw [← HTT.out, HE.out], ?_⟩
    exact below_drew1 (below4 (below_alloc HB2.out _) HG6.out _ _ _ _)
theorem enc_size (c : Int) : (Utf8.encode c).size ≤ 4 := encode_size_le c
set_option maxHeartbeats 8000000 in
set_option maxRecDepth 100000 in
theorem newTokenRune_calls (w : World) (g : Nat) (s : ByteArray) (n : Nat) (k c : Int) (h : LN w g s n) (hn : n ≤ 4611686018427387903) (T : Tk) (hT : tokAt k (Utf8.encode c) n = T) :
    Calls Try.prog 100 #[.pointer (some ⟨g, 0, none⟩), .int .i64 k, .int .u8 c] w fun e w' => e = .returned (.agg #[.int .i64 T.k, .string T.t, .int .i64 T.a, .int .i64 T.z]) ∧ Below w.heap.size w w' := by
  have HTT := Aside0.mk hT
  have HL0 := Aside0.mk h
  have HN := Aside0.mk hn
  clear h hT hn
  obtain ⟨W1, hW1⟩ : ∃ W1, W1 = w.alloc (.cells #[.int .i64 0, .string ⟨#[]⟩, .int .i64 0, .int .i64 0] 76) := ⟨_, rfl⟩
  have HLW : Aside0 (LN W1 g s n) := ⟨by rw [hW1]; exact LX.alloc HL0.out _⟩
  have HB1 : Aside0 (Below w.heap.size w W1) := ⟨by rw [hW1]; exact below_alloc (Below.refl _ _) _⟩
  obtain ⟨g6, hg6⟩ : ∃ g6, g6 = w.heap.size := ⟨_, rfl⟩
  have HZ6 : Aside0 (W1.heap[g6]? = some (.cells #[.int .i64 0, .string ⟨#[]⟩, .int .i64 0, .int .i64 0] 76 (0, 0))) := ⟨by rw [hW1, hg6]; exact heap_alloc_new w _⟩
  have HG6 : Aside0 (w.heap.size ≤ g6) := ⟨by omega⟩
  go_enter Try.func100, Try.ntmps100
  go_upto_region 1 with (fail)
  rw [← hg6, ← hW1]
  clear hW1 hg6
  go_wp2_with (first | ((with_reducible refine gate_callee (f := 97) rfl ?_); refine goesL_ (some 11) rfl rfl Try.func97 (by kernel_rfl) rfl #[.pointer (some ⟨g, 0, none⟩), .int .i64 k, .string (Utf8.encode c)] rfl (by (try simp only [List.map_toArray, List.map_cons, List.map_nil]); first | done | rfl) ?_; refine (newToken_calls _ g s n k (Utf8.encode c) HLW.out HN.out (by have := enc_size c; omega) T HTT.out).mono ?_; rintro e wq ⟨rfl, hb⟩; refine ⟨_, rfl, ?_⟩; have HB2 := Aside0.mk (HB1.out.trans (hb.mono HB1.out.size)); have hz := (hb.block g6 (Array.getElem?_eq_some_iff.1 HZ6.out).1).trans HZ6.out; have HZ := Aside0.mk hz; have zc0 : wq.cell? ⟨g6, 0, none⟩ = some (.int .i64 0) := (by unfold World.cell?; rw [hz]; rfl); have zc1 : wq.cell? ⟨g6, 1, none⟩ = some (.string ⟨#[]⟩) := (by unfold World.cell?; rw [hz]; rfl); have zc2 : wq.cell? ⟨g6, 2, none⟩ = some (.int .i64 0) := (by unfold World.cell?; rw [hz]; rfl); have zc3 : wq.cell? ⟨g6, 3, none⟩ = some (.int .i64 0) := (by unfold World.cell?; rw [hz]; rfl); have zf0 : wq.frozen? ⟨g6, 0, none⟩ = false := (by unfold World.frozen?; rw [hz]; rfl); have zf1 : wq.frozen? ⟨g6, 1, none⟩ = false := (by unfold World.frozen?; rw [hz]; rfl); have zf2 : wq.frozen? ⟨g6, 2, none⟩ = false := (by unfold World.frozen?; rw [hz]; rfl); have zf3 : wq.frozen? ⟨g6, 3, none⟩ = false := (by unfold World.frozen?; rw [hz]; rfl); clear hz hb))
  refine bodyPost_ret (results_cell_row rfl _ _ g6 76 _ (0, 0) _ rfl (set4 HZ.out _ _ _ _) Try.underlying76 rfl (by kernel_rfl)) rfl ?_
  exact ⟨rfl, below4 HB2.out HG6.out _ _ _ _⟩
end Go.Proofs.Ytipmmjbjgbfgjaa.Q
