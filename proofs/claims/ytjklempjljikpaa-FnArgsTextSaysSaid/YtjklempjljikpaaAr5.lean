/- A query is read: Args.ParseBytes. -/
import Derived.Test.YtjklempjljikpaaAr4
namespace Go.Proofs.Ytjklempjljikpaa.Q
open Go.RowKit Go.Proofs.YtjklempjljikpaaW.PrintWords Go.Proofs.YtjklempjljikpaaW.PrintLast Go.Proofs.YtjklempjljikpaaW.PrintMore
open Go.Proofs.Ytjklempjljikpaa.SpA (toI toI_length toI_append decP)
set_option linter.unusedVariables false
set_option linter.unusedSimpArgs false
/-- Where the reading of a query stands. -/
structure PB (w0 wr : World) (ga gs gt : Nat) (L : List UInt8) (u : Value) (g C b : Nat) (es : List AE) (cur : AE) (fin : List En) (q : List UInt8) (sv : Value) : Prop where
  tb : TB wr ga (.slice (some ⟨g, 0, none⟩) (es.length + 1) C) u
  hC : es.length + 1 ≤ C
  hM : C ≤ maxLen
  ab : AB wr g (es ++ [cur] ++ List.replicate (C - (es.length + 1)) aeZ)
  fi : FIN wr b es fin
  cr : CUR wr b cur.k cur.v [] []
  ob : OB wr gs 66 sv
  sq : SQ wr gt L q sv
  hgt : gt < b
  hga : ga < b
  hb : b ≤ wr.heap.size
  hl : es.length + q.length ≤ L.length
  all : fin ++ argsL q = argsL L
  on : OnlS (fun j => j = ga) w0 wr
  g0 : w0.heap.size ≤ g
  b0 : w0.heap.size ≤ b
  gs0 : w0.heap.size ≤ gs
theorem AB.ne_TB {w : World} {g ga : Nat} {es : List AE} {v u : Value} (h : AB w g es) (ho : TB w ga v u) : ga ≠ g := fun e => by subst e; obtain ⟨C, hC, _⟩ := h; unfold TB at ho; rw [hC] at ho; cases ho
theorem OB.ne_TB {w : World} {g ga : Nat} {s v u : Value} (h : OB w g 66 s) (ho : TB w ga v u) : ga ≠ g := fun e => by subst e; unfold OB at h; unfold TB at ho; rw [h] at ho; cases ho
theorem BR.ne_TB {w : World} {g ga : Nat} {l : List UInt8} {v u : Value} (h : BR w g 5 l) (ho : TB w ga v u) : g ≠ ga := fun e => by subst e; obtain ⟨C, _, _, hC, _⟩ := h.out; unfold TB at ho; rw [hC] at ho; cases ho
/-- What stands behind one more argument that was read. -/
theorem PB.next {w0 wr w1 : World} {ga gs gt g C b : Nat} {L q : List UInt8} {u sv : Value} {es : List AE} {cur : AE} {fin : List En} (h : PB w0 wr ga gs gt L u g C b es cur fin q sv) (hn : NextPost wr g gs gt es.length b (es ++ [cur] ++ List.replicate (C - (es.length + 1)) aeZ) L q (.returned (.bool true)) w1) :
    ∃ k v sv', TB w1 ga (.slice (some ⟨g, 0, none⟩) (es.length + 1) C) u ∧ AB w1 g (es ++ [⟨k, v, bareOf (fstP q)⟩] ++ List.replicate (C - (es.length + 1)) aeZ) ∧ FIN w1 b es fin ∧ CUR w1 b k v (keyOf (fstP q)) (valOf (fstP q)) ∧ OB w1 gs 66 sv' ∧ SQ w1 gt L (rstP q) sv' ∧ OnlS (fun j => j = ga) w0 w1 ∧ wr.heap.size ≤ w1.heap.size := by
  obtain ⟨_, ho, k, v, sv', ha, hc, hob, hsq⟩ := hn
  rw [set_mid] at ha
  have hg1 := h.ab.ne_TB h.tb
  have hg2 := h.ob.ne_TB h.tb
  refine ⟨k, v, sv', ?_, ha, ?_, hc, hob, hsq, ?_, ho.size⟩
  · exact h.tb.move (ho.block ga h.tb.lt (by have := h.hga; rintro (e | e | e) <;> omega))
  · refine FIN.move (fun j cells hj hc' => ho.block j (Array.getElem?_eq_some_iff.1 hc').1 ?_) h.fi
    rintro (e | e | e)
    · subst e; obtain ⟨C', hC', _⟩ := h.ab; rw [hC'] at hc'; cases hc'
    · subst e; have := h.ob; unfold OB at this; rw [this] at hc'; cases hc'
    · omega
  · refine h.on.trans' ho fun j hj hs => ?_
    have := h.g0
    have := h.b0
    have := h.gs0
    rcases hs with e | e | e <;> omega
/-- .. and it is not kept. -/
theorem PB.skip {w0 wr w1 : World} {ga gs gt g C b : Nat} {L q : List UInt8} {u sv : Value} {es : List AE} {cur : AE} {fin : List En} (h : PB w0 wr ga gs gt L u g C b es cur fin q sv) (hq : q ≠ []) (he : keyOf (fstP q) = [] ∧ valOf (fstP q) = []) {k v sv' : Value}
    (h1 : TB w1 ga (.slice (some ⟨g, 0, none⟩) (es.length + 1) C) u) (h2 : AB w1 g (es ++ [⟨k, v, bareOf (fstP q)⟩] ++ List.replicate (C - (es.length + 1)) aeZ)) (h3 : FIN w1 b es fin) (h4 : CUR w1 b k v (keyOf (fstP q)) (valOf (fstP q))) (h5 : OB w1 gs 66 sv') (h6 : SQ w1 gt L (rstP q) sv') (h7 : OnlS (fun j => j = ga) w0 w1) (h8 : wr.heap.size ≤ w1.heap.size) :
    PB w0 w1 ga gs gt L u g C b es ⟨k, v, bareOf (fstP q)⟩ fin (rstP q) sv' := by
  have hr := rst_lt q hq
  refine ⟨h1, h.hC, h.hM, h2, h3, ?_, h5, h6, h.hgt, h.hga, Nat.le_trans h.hb h8, by have := h.hl; omega, ?_, h7, h.g0, h.b0, h.gs0⟩
  · rw [he.1, he.2] at h4; exact h4
  · rw [← h.all, argsL_step q hq, entOf, if_pos he]; rfl
/-- .. and it is kept: a place for one more is made. -/
theorem PB.keep {w0 wr w1 w2 : World} {ga gs gt g C b g' C' g0 : Nat} {L q : List UInt8} {u sv : Value} {es : List AE} {cur : AE} {fin : List En} (h : PB w0 wr ga gs gt L u g C b es cur fin q sv) (hq : q ≠ []) (he : ¬ (keyOf (fstP q) = [] ∧ valOf (fstP q) = [])) {k v sv' : Value}
    (h1 : TB w1 ga (.slice (some ⟨g, 0, none⟩) (es.length + 1) C) u) (h2 : AB w1 g (es ++ [⟨k, v, bareOf (fstP q)⟩] ++ List.replicate (C - (es.length + 1)) aeZ)) (h3 : FIN w1 b es fin) (h4 : CUR w1 b k v (keyOf (fstP q)) (valOf (fstP q))) (h5 : OB w1 gs 66 sv') (h6 : SQ w1 gt L (rstP q) sv') (h7 : OnlS (fun j => j = ga) w0 w1) (h8 : wr.heap.size ≤ w1.heap.size)
    (a1 : g = g' ∨ w1.heap.size ≤ g') (a2 : w1.heap.size ≤ g0) (a3 : es.length + 1 + 1 ≤ C') (a4 : C' ≤ maxLen) (a5 : w2.heap[g0]? = some (.cells #[] 5 (0, 0))) (a6 : AB w2 g' (es ++ [⟨k, v, bareOf (fstP q)⟩] ++ [slot g0] ++ List.replicate (C' - (es.length + 1 + 1)) aeZ)) (a7 : OnlS (fun j => j = g) w1 w2) :
    PB w0 (w2.setCell ⟨ga, 0, none⟩ (.slice (some ⟨g', 0, none⟩) (es.length + 1 + 1) C')) ga gs gt L u g' C' w1.heap.size (es ++ [⟨k, v, bareOf (fstP q)⟩]) (slot g0) (fin ++ entOf q) (rstP q) sv' := by
  have hr := rst_lt q hq
  have hlen : (es ++ [(⟨k, v, bareOf (fstP q)⟩ : AE)]).length = es.length + 1 := by simp
  have hgag := h2.ne_TB h1
  have hT2 : TB w2 ga (.slice (some ⟨g, 0, none⟩) (es.length + 1) C) u := h1.move (a7.block ga h1.lt hgag)
  have hgs2 : gs ≠ g := h2.ne_OB h5
  have hO2 : OB w2 gs 66 sv' := h5.move (a7.block gs h5.lt hgs2)
  obtain ⟨p, off, c, s1, s2, s3, s4, s5⟩ := h6
  have hB2 : BR w2 gt 5 L := s5.heap (a7.block gt s5.lt (h2.ne_BR s5))
  have m5 : ∀ j cells, j < w1.heap.size → w1.heap[j]? = some (.cells cells 5 (0, 0)) → (w2.setCell ⟨ga, 0, none⟩ (.slice (some ⟨g', 0, none⟩) (es.length + 1 + 1) C')).heap[j]? = w1.heap[j]? := fun j cells hj hc => by
    rw [Below.heap_setCell _ _ _ _ (fun e => by subst e; unfold TB at h1; rw [h1] at hc; cases hc)]
    exact a7.block j hj fun e => by subst e; obtain ⟨C2, hC2, _⟩ := h2; rw [hC2] at hc; cases hc
  have hga2 : ga ≠ g' := a6.ne_TB hT2
  have hd := CUR.done h4
  refine ⟨by rw [hlen]; exact hT2.set0 _, by rw [hlen]; exact a3, a4, ?_, ?_, ?_, hO2.move (Below.heap_setCell _ _ _ _ (fun e => (hO2.ne_TB hT2) e.symm)), ⟨p, off, c, s1, s2, s3, s4, hB2.heap (Below.heap_setCell _ _ _ _ (hB2.ne_TB hT2))⟩, by have := h.hgt; have := h.hb; omega, h1.lt, ?_, by rw [hlen]; have := h.hl; omega, ?_, ?_, ?_, by have := h7.size; omega, h.gs0⟩
  · rw [hlen]; exact a6.move (Below.heap_setCell _ _ _ _ (fun e => hga2 e.symm))
  · have hF := FIN.move m5 (FIN.more (Nat.le_trans h.hb h8) h3)
    rw [entOf, if_neg he]
    exact FIN.snoc (R_bd hd.1 m5) (R_bd hd.2 m5) rfl hF
  · refine CUR.slot ?_ a2
    exact (Below.heap_setCell _ _ _ _ (fun e => by have := h1.lt; have e' : g0 = ga := e; omega)).trans a5
  · have := a7.size; simpa [World.setCell] using this
  · rw [List.append_assoc, ← argsL_step q hq]; exact h.all
  · refine OnlS.set (S := fun j => j = ga) (h7.trans' a7 fun j hj e => ?_) (.inl rfl) _ _
    have := h.g0
    omega
  · rcases a1 with e | e
    · rw [← e]; exact h.g0
    · have := h7.size; omega
theorem PB.start {w0 w2 : World} {ga gs gt g C g0 : Nat} {L : List UInt8} {u sv : Value} (b : Nat) (w1 : World) (hb1 : b = w1.heap.size)
    (h1 : TB w2 ga (.slice (some ⟨g, 0, none⟩) 1 C) u) (h2 : 1 ≤ C) (h3 : C ≤ maxLen) (h4 : AB w2 g ([] ++ [slot g0] ++ List.replicate (C - 1) aeZ)) (h5 : w2.heap[g0]? = some (.cells #[] 5 (0, 0))) (h6 : b ≤ g0) (h7 : OB w2 gs 66 sv) (h8 : SQ w2 gt L L sv) (h9 : gt < b) (h10 : ga < b) (h11 : b ≤ w2.heap.size) (h12 : OnlS (fun j => j = ga) w0 w2) (h13 : w0.heap.size ≤ g) (h14 : w0.heap.size ≤ b) (h15 : w0.heap.size ≤ gs) :
    PB w0 w2 ga gs gt L u g C b [] (slot g0) [] L sv :=
  ⟨h1, h2, h3, h4, trivial, CUR.slot h5 h6, h7, h8, h9, h10, h11, by simp, rfl, h12, h13, h14, h15⟩
theorem genW {P : Program} {a : Act} {c : Code} {Qc : Exit → Act → World → Prop} {W0 : World} (F : World → Prop) (h0 : F W0) (h : ∀ W, F W → Code.wp P c Qc a W) : Code.wp P c Qc a W0 := h W0 h0
theorem toI_nil_of {l : List UInt8} {n : Nat} (h : n = (toI l).length) : n = l.length := by rw [h, toI_length]
/-- What is told of a query that was read. -/
def ParsePost (w : World) (ga : Nat) (L : List UInt8) (u : Value) (e : Ending) (w' : World) : Prop :=
  e = .returned (.tuple #[]) ∧ ∃ g C b es r, TB w' ga (.slice (some ⟨g, 0, none⟩) es.length C) u ∧ AB w' g (es ++ r) ∧ FIN w' b es (argsL L) ∧ es.length ≤ L.length ∧ OnlS (fun j => j = ga) w w'
theorem PB.cells {w : World} {g : Nat} {es r : List AE} {k v : Value} {x : Bool} (h : AB w g (es ++ [⟨k, v, x⟩] ++ r)) : w.cell? ⟨g, es.length * 3, none⟩ = some k ∧ w.cell? ⟨g, es.length * 3 + 1, none⟩ = some v := by
  rw [← set_mid es ⟨k, v, x⟩ ⟨k, v, x⟩ r] at h
  have := h.at_ (by simp)
  exact ⟨this.1, this.2.1⟩
theorem PB.less {w0 wr w1 : World} {ga gs gt g C b g' C' b' : Nat} {L q : List UInt8} {u sv sv' : Value} {es es' : List AE} {cur cur' : AE} {fin fin' : List En} (h : PB w0 wr ga gs gt L u g C b es cur fin q sv) (h' : PB w0 w1 ga gs gt L u g' C' b' es' cur' fin' (rstP q) sv') (hq : q ≠ []) : scanW w1 gs < scanW wr gs := by
  rw [h.sq.len h.ob, h'.sq.len h'.ob]
  exact rst_lt q hq
theorem parse_end {w0 wr : World} {ga gs gt g C b : Nat} {L : List UInt8} {u sv : Value} {es : List AE} {cur : AE} {fin : List En} (h : PB w0 wr ga gs gt L u g C b es cur fin [] sv) : ParsePost w0 ga L u (.returned (.tuple #[])) (wr.setCell ⟨ga, 0, none⟩ (.slice (some ⟨g, 0, none⟩) es.length C)) := by
  have hall := h.all
  rw [argsL_nil, List.append_nil] at hall
  refine ⟨rfl, g, C, b, es, [cur] ++ List.replicate (C - (es.length + 1)) aeZ, h.tb.set0 _, ?_, ?_, by have := h.hl; omega, OnlS.set (S := fun j => j = ga) h.on (.inl rfl) _ _⟩
  · rw [← List.append_assoc]
    exact h.ab.move (Below.heap_setCell _ _ _ _ (fun e => (h.ab.ne_TB h.tb) e.symm))
  · rw [← hall]
    exact FIN.move (fun j cells hj hc => Below.heap_setCell _ _ _ _ (fun e => by subst e; have := h.tb; unfold TB at this; rw [this] at hc; cases hc)) h.fi
set_option maxHeartbeats 16000000 in
set_option maxRecDepth 100000 in
theorem parse_calls (w : World) (ga gt c : Nat) (L : List UInt8) (u : Value) (htb : TB w ga (.slice none 0 0) u) (hbr : BR w gt 5 L) (hc : L.length ≤ c) (hL : L.length ≤ 2147483647) :
    Calls Try.prog 37 #[.pointer (some ⟨ga, 0, none⟩), .slice (some ⟨gt, 0, none⟩) L.length c] w (ParsePost w ga L u) := by
  obtain ⟨w1, hw1⟩ : ∃ w1, w1 = w.setCell ⟨ga, 0, none⟩ (.slice none 0 0) := ⟨_, rfl⟩
  have hga := htb.lt
  have hgt := hbr.lt
  have hsz1 : w1.heap.size = w.heap.size := by rw [hw1]; simp [World.setCell]
  have htb1 : TB w1 ga (.slice none 0 0) u := by rw [hw1]; exact htb.set0 _
  have hbr1 : BR w1 gt 5 L := by rw [hw1]; exact hbr.heap (Below.heap_setCell _ _ _ _ (hbr.ne_TB htb))
  have hon1 : OnlS (fun j => j = ga) w w1 := by rw [hw1]; exact OnlS.set (S := fun j => j = ga) (OnlS.refl _ _) (.inl rfl) _ _
  have HTB := Aside0.mk htb
  have HTB1 := Aside0.mk htb1
  have HBR1 := Aside0.mk hbr1
  have HON1 := Aside0.mk hon1
  have HW1 := Aside0.mk hw1
  have HSZ1 := Aside0.mk hsz1
  have HGA := Aside0.mk hga
  have HGT := Aside0.mk hgt
  have HC := Aside0.mk hc
  have HL := Aside0.mk hL
  clear htb hbr hc hL hw1 hga hgt hsz1 htb1 hbr1 hon1
  go_enter Try.func37, Try.ntmps37
  go_wp2_with (fail)
  refine (reset_calls w ga u HTB.out).mono ?_
  rintro e w' ⟨rfl, hw'⟩
  rw [← HW1.out] at hw'
  subst hw'
  go_upto_region 3 with (fail)
  obtain ⟨gs, hgs⟩ : ∃ gs, gs = w'.heap.size := ⟨_, rfl⟩
  rw [← hgs]
  refine genW (fun W => OB W gs 66 (.slice (some ⟨gt, 0, none⟩) L.length c) ∧ TB W ga (.slice none 0 0) u ∧ BR W gt 5 L ∧ OnlS (fun j => j = ga) w W ∧ gs < W.heap.size ∧ w.heap.size ≤ gs) ⟨?_, ?_, ?_, ?_, ?_, ?_⟩ ?_
  · have hz := heap_alloc_new w' (.cells #[.slice (some ⟨gt, 0, none⟩) L.length c] 66)
    rw [← hgs] at hz
    exact hz
  · refine HTB1.out.move ?_
    have := HTB1.out.lt
    rw [Below.heap_alloc _ _ _ (by omega)]
  · refine HBR1.out.heap ?_
    have := HBR1.out.lt
    rw [Below.heap_alloc _ _ _ (by omega)]
  · exact OnlS.alloc HON1.out _
  · simp [hgs]
  · rw [hgs]; exact HON1.out.size
  clear HTB1 HBR1 HON1 HW1 HSZ1 hgs
  intro W hW
  obtain ⟨hob, htb, hbr, hon, hgsW, hgsw⟩ := hW
  have ft := htb.c0
  have zt := htb.fz 0
  have HO := Aside0.mk hob
  have HT := Aside0.mk htb
  have HR := Aside0.mk hbr
  have HN := Aside0.mk hon
  have HGS := Aside0.mk hgsW
  have HGW := Aside0.mk hgsw
  clear hob htb hbr hon hgsW hgsw
  go_wp2_with (first | ((with_reducible refine gate_callee (f := 51) rfl ?_); refine goesL_ (some 16) rfl rfl Try.func51 (by kernel_rfl) rfl #[.slice none 0 0] rfl (by (try simp only [List.map_toArray, List.map_cons, List.map_nil]); first | done | rfl) ?_; refine (alloc_calls W (.slice none 0 0) [] (.inl ⟨rfl, rfl⟩) (by decide)).mono ?_; rintro e w2 ⟨g, C, g0, rfl, a1, a2, a3, a4, a5, a6, a7⟩; refine ⟨_, rfl, ?_⟩; have ht2 := HT.out.move (a7.block ga HT.out.lt (by intro e; cases e)); have ft2 := ht2.c0; have zt2 := ht2.fz 0; have HT2 := Aside0.mk ht2; have A7 := Aside0.mk a7; have A1 := Aside0.mk a1; have A2 := Aside0.mk a2; have A3 := Aside0.mk a3; have A4 := Aside0.mk a4; have A5 := Aside0.mk a5; have A6 := Aside0.mk a6; clear ht2 a7 a1 a2 a3 a4 a5 a6 ft zt))
  have HP0 : Aside0 (PB w (w2.setCell ⟨ga, 0, none⟩ (.slice (some ⟨g, 0, none⟩) 1 C)) ga gs gt L u g C W.heap.size [] (slot g0) [] L (.slice (some ⟨gt, 0, none⟩) L.length c)) := by
    have hT2 := HT2.out
    have hb7 : ∀ j, j < W.heap.size → w2.heap[j]? = W.heap[j]? := fun j hj => A7.out.block j hj (by intro e; cases e)
    have hgsga : gs ≠ ga := fun e => by have := HO.out; unfold OB at this; have h2 := HT.out; unfold TB at h2; rw [← e, this] at h2; cases h2
    have hg2 : W.heap.size ≤ g := A1.out.resolve_left (by intro e; cases e)
    have hwW := HN.out.size
    refine ⟨PB.start W.heap.size W rfl (hT2.set0 _) A3.out A4.out ?_ ?_ A2.out ?_ ?_ HR.out.lt HT.out.lt ?_ ?_ (by omega) hwW HGW.out⟩
    · exact A6.out.move (Below.heap_setCell _ _ _ _ (by have := HT.out.lt; show g ≠ ga; omega))
    · exact (Below.heap_setCell _ _ _ _ (by have := HT.out.lt; have := A2.out; show g0 ≠ ga; omega)).trans A5.out
    · exact (HO.out.move (hb7 gs HGS.out)).move (Below.heap_setCell _ _ _ _ hgsga)
    · exact ⟨[], 0, c, rfl, rfl, HC.out, .inr rfl, (HR.out.heap (hb7 gt HR.out.lt)).heap (Below.heap_setCell _ _ _ _ (HR.out.ne_TB HT.out))⟩
    · have := A7.out.size; simpa [World.setCell] using this
    · exact OnlS.set (S := fun j => j = ga) (HN.out.trans' A7.out fun j _ e => by cases e) (.inl rfl) _ _
  clear HO HT HR HN HGS HGW HT2 A1 A2 A3 A4 A5 A6 A7 ft2 zt2
  go_loopw [5] (fun v5 wr => ∃ (g C b : Nat) (es : List AE) (cur : AE) (fin : List En) (q : List UInt8) (sv : Value), v5 = .pointer (some ⟨g, es.length * 3, none⟩) ∧ Aside0 (PB w wr ga gs gt L u g C b es cur fin q sv)) (fun _ wr => scanW wr gs)
  case atStart => exact ⟨g, C, W.heap.size, [], slot g0, [], L, _, rfl, HP0⟩
  case round =>
    clear HP0
    obtain ⟨g, C, b, es, cur, fin, q, sv, rfl, HP⟩ := hrel
    have ft := HP.out.tb.c0
    have zt := HP.out.tb.fz 0
    by_cases hq : q = []
    · subst hq
      by_cases he : es.length = 0
      · have b1 : ((es.length : Int) == 0) = true := beq_iff_eq.2 (by omega)
        have HE := Aside0.mk he
        clear he
        go_wp2_with (first | ((with_reducible refine gate_callee (f := 52) rfl ?_); refine goesL_ (some 22) rfl rfl Try.func52 (by kernel_rfl) rfl #[.pointer (some ⟨gs, 0, none⟩), .pointer (some ⟨g, es.length * 3, none⟩)] rfl (by (try simp only [List.map_toArray, List.map_cons, List.map_nil]); first | done | rfl) ?_; refine (next_end wr gs gt L sv _ HP.out.ob HP.out.sq).mono ?_; rintro e w5 ⟨rfl, rfl⟩; refine ⟨_, rfl, ?_⟩) | ((with_reducible refine gate_callee (f := 53) rfl ?_); refine goesL_ (some 53) rfl rfl Try.func53 (by kernel_rfl) rfl #[.slice (some ⟨g, 0, none⟩) (es.length + 1) C] rfl (by (try simp only [List.map_toArray, List.map_cons, List.map_nil]); first | done | rfl) ?_; refine (release_calls _ (some ⟨g, 0, none⟩) es.length C (by have := HP.out.hl; have := HL.out; omega) HP.out.hC).mono ?_; rintro e w5 ⟨rfl, rfl⟩; refine ⟨_, rfl, ?_⟩))
        ((try simp only [Exit.inBlock, Exit.then]); refine bodyPost_ret (results_none rfl _ _ _) rfl ?_)
        exact parse_end HP.out
      · have b1 : ((es.length : Int) == 0) = false := beq_eq_false_iff_ne.2 (by omega)
        have HE := Aside0.mk he
        clear he
        go_wp2_with (first | ((with_reducible refine gate_callee (f := 52) rfl ?_); refine goesL_ (some 22) rfl rfl Try.func52 (by kernel_rfl) rfl #[.pointer (some ⟨gs, 0, none⟩), .pointer (some ⟨g, es.length * 3, none⟩)] rfl (by (try simp only [List.map_toArray, List.map_cons, List.map_nil]); first | done | rfl) ?_; refine (next_end wr gs gt L sv _ HP.out.ob HP.out.sq).mono ?_; rintro e w5 ⟨rfl, rfl⟩; refine ⟨_, rfl, ?_⟩) | ((with_reducible refine gate_callee (f := 53) rfl ?_); refine goesL_ (some 53) rfl rfl Try.func53 (by kernel_rfl) rfl #[.slice (some ⟨g, 0, none⟩) (es.length + 1) C] rfl (by (try simp only [List.map_toArray, List.map_cons, List.map_nil]); first | done | rfl) ?_; refine (release_calls _ (some ⟨g, 0, none⟩) es.length C (by have := HP.out.hl; have := HL.out; omega) HP.out.hC).mono ?_; rintro e w5 ⟨rfl, rfl⟩; refine ⟨_, rfl, ?_⟩))
        go_end0
        exact parse_end HP.out
    · have HQ := Aside0.mk hq
      clear hq
      go_upto_region 6 with (first | ((with_reducible refine gate_callee (f := 52) rfl ?_); refine goesL_ (some 22) rfl rfl Try.func52 (by kernel_rfl) rfl #[.pointer (some ⟨gs, 0, none⟩), .pointer (some ⟨g, es.length * 3, none⟩)] rfl (by (try simp only [List.map_toArray, List.map_cons, List.map_nil]); first | done | rfl) ?_; refine (next_calls wr g gs gt es.length b (es ++ [cur] ++ List.replicate (C - (es.length + 1)) aeZ) L q sv cur.k cur.v cur.b (by rw [set_mid]; exact HP.out.ab) (by simp) HP.out.cr HP.out.ob HP.out.sq HQ.out HP.out.hgt HP.out.hb HL.out).mono ?_; rintro e w5 hpost; obtain rfl := hpost.1; refine ⟨_, rfl, ?_⟩; obtain ⟨k, v, sv', h1, h2, h3, h4, h5, h6, h7, h8⟩ := HP.out.next hpost; obtain ⟨D, hk, hv⟩ := id h4; obtain ⟨Ak, ck, hkv⟩ := Kd.R_slice hk; obtain ⟨Av, cv, hvv⟩ := Kd.R_slice hv; obtain ⟨nk, hnk⟩ : ∃ n, n = (toI (keyOf (fstP q))).length := ⟨_, rfl⟩; obtain ⟨nv, hnv⟩ : ∃ n, n = (toI (valOf (fstP q))).length := ⟨_, rfl⟩; rw [← hnk] at hkv; rw [← hnv] at hvv; subst hkv hvv; obtain ⟨fk5, fv5⟩ : w5.cell? ⟨g, es.length * 3, none⟩ = some (.slice Ak nk ck) ∧ w5.cell? ⟨g, es.length * 3 + 1, none⟩ = some (.slice Av nv cv) := PB.cells h2; have hnk2 : nk = (keyOf (fstP q)).length := toI_nil_of hnk; have hnv2 : nv = (valOf (fstP q)).length := toI_nil_of hnv; have ft5 := h1.c0; have zt5 := h1.fz 0; have H1 := Aside0.mk h1; have H2 := Aside0.mk h2; have H3 := Aside0.mk h3; have H4 := Aside0.mk h4; have H5 := Aside0.mk h5; have H6 := Aside0.mk h6; have H7 := Aside0.mk h7; have H8 := Aside0.mk h8; clear h1 h2 h3 h4 h5 h6 h7 h8 hk hv hnk hnv ft zt hpost))
      by_cases hk0 : keyOf (fstP q) = []
      · obtain rfl : nk = 0 := by rw [hnk2, hk0]; rfl
        by_cases hv0 : valOf (fstP q) = []
        · obtain rfl : nv = 0 := by rw [hnv2, hv0]; rfl
          have HK := Aside0.mk (HP.out.skip HQ.out ⟨hk0, hv0⟩ H1.out H2.out H3.out H4.out H5.out H6.out H7.out H8.out)
          clear hk0 hv0 hnk2 hnv2
          go_wp2_with (fail)
          go_roundw
          case measure => exact PB.less HP.out HK.out HQ.out
          case rel => exact ⟨g, C, b, es, _, fin, rstP q, _, rfl, HK⟩
        · have hvl := List.length_pos_iff.2 hv0
          obtain ⟨mv, rfl⟩ : ∃ m, nv = m + 1 := ⟨nv - 1, by omega⟩
          have HNE : Aside0 (¬ (keyOf (fstP q) = [] ∧ valOf (fstP q) = [])) := ⟨fun h => hv0 h.2⟩
          clear hk0 hv0 hvl hnk2 hnv2
          go_wp2_with (first | ((with_reducible refine gate_callee (f := 51) rfl ?_); refine goesL_ (some 43) rfl rfl Try.func51 (by kernel_rfl) rfl #[.slice (some ⟨g, 0, none⟩) (es.length + 1) C] rfl (by (try simp only [List.map_toArray, List.map_cons, List.map_nil]); first | done | rfl) ?_; refine (alloc_calls w5 (.slice (some ⟨g, 0, none⟩) (es.length + 1) C) (es ++ [⟨.slice Ak 0 ck, .slice Av (mv + 1) cv, bareOf (fstP q)⟩]) (.inr ⟨g, C, by simp, by simpa using HP.out.hC, HP.out.hM, by simpa using H2.out⟩) (by have := HP.out.hl; have := HL.out; simp; omega)).mono ?_; rintro e w6 ⟨g', C', g0', rfl, a1, a2, a3, a4, a5, a6, a7⟩; simp only [List.length_append, List.length_cons, List.length_nil, Nat.zero_add] at a3 a6; refine ⟨_, rfl, ?_⟩; have a1 : g = g' ∨ w5.heap.size ≤ g' := a1.imp (fun h => by simpa [Value.ownBlock] using h) id; have a7 : OnlS (fun j => j = g) w5 w6 := a7.mono (fun j _ h => by simpa [Value.ownBlock, eq_comm] using h); have ht6 := H1.out.move (a7.block ga H1.out.lt (H2.out.ne_TB H1.out)); have ft6 := ht6.c0; have zt6 := ht6.fz 0; have HK := Aside0.mk (HP.out.keep HQ.out HNE.out H1.out H2.out H3.out H4.out H5.out H6.out H7.out H8.out a1 a2 a3 a4 a5 a6 a7); clear ht6 a1 a2 a3 a4 a5 a6 a7 ft5 zt5))
          go_roundw
          case measure => exact PB.less HP.out HK.out HQ.out
          case rel => exact ⟨g', C', w5.heap.size, _, _, _, rstP q, _, by simp, HK⟩
      · have hkl := List.length_pos_iff.2 hk0
        obtain ⟨mk, rfl⟩ : ∃ m, nk = m + 1 := ⟨nk - 1, by omega⟩
        have HNE : Aside0 (¬ (keyOf (fstP q) = [] ∧ valOf (fstP q) = [])) := ⟨fun h => hk0 h.1⟩
        clear hk0 hkl hnk2 hnv2
        go_wp2_with (first | ((with_reducible refine gate_callee (f := 51) rfl ?_); refine goesL_ (some 43) rfl rfl Try.func51 (by kernel_rfl) rfl #[.slice (some ⟨g, 0, none⟩) (es.length + 1) C] rfl (by (try simp only [List.map_toArray, List.map_cons, List.map_nil]); first | done | rfl) ?_; refine (alloc_calls w5 (.slice (some ⟨g, 0, none⟩) (es.length + 1) C) (es ++ [⟨.slice Ak (mk + 1) ck, .slice Av nv cv, bareOf (fstP q)⟩]) (.inr ⟨g, C, by simp, by simpa using HP.out.hC, HP.out.hM, by simpa using H2.out⟩) (by have := HP.out.hl; have := HL.out; simp; omega)).mono ?_; rintro e w6 ⟨g', C', g0', rfl, a1, a2, a3, a4, a5, a6, a7⟩; simp only [List.length_append, List.length_cons, List.length_nil, Nat.zero_add] at a3 a6; refine ⟨_, rfl, ?_⟩; have a1 : g = g' ∨ w5.heap.size ≤ g' := a1.imp (fun h => by simpa [Value.ownBlock] using h) id; have a7 : OnlS (fun j => j = g) w5 w6 := a7.mono (fun j _ h => by simpa [Value.ownBlock, eq_comm] using h); have ht6 := H1.out.move (a7.block ga H1.out.lt (H2.out.ne_TB H1.out)); have ft6 := ht6.c0; have zt6 := ht6.fz 0; have HK := Aside0.mk (HP.out.keep HQ.out HNE.out H1.out H2.out H3.out H4.out H5.out H6.out H7.out H8.out a1 a2 a3 a4 a5 a6 a7); clear ht6 a1 a2 a3 a4 a5 a6 a7 ft5 zt5))
        go_roundw
        case measure => exact PB.less HP.out HK.out HQ.out
        case rel => exact ⟨g', C', w5.heap.size, _, _, _, rstP q, _, by simp, HK⟩
end Go.Proofs.Ytjklempjljikpaa.Q
