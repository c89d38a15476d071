/- Arguments out of data: hertzproto.ZzArgs. -/
import Derived.Test.YtjklempjljikpaaAr7
import Derived.Test.YtjklempjljikpaaAr6
namespace Go.Proofs.Ytjklempjljikpaa.Q
open Go.RowKit Go.Proofs.YtjklempjljikpaaW.PrintWords Go.Proofs.YtjklempjljikpaaW.PrintLast Go.Proofs.YtjklempjljikpaaW.PrintMore
open Go.Proofs.Ytjklempjljikpaa.SpA (toI toI_length toI_append decP)
set_option linter.unusedVariables false
set_option linter.unusedSimpArgs false
def enS (x : S74) : En := (x.f0.data.toList, valIf x.f2 x.f1.data.toList, x.f2)
/-- Where the making of arguments stands. -/
structure ZA (w0 wr : World) (ga : Nat) (v : Value) (es : List AE) (fin : List En) : Prop where
  tb : TB wr ga v (.slice none 0 0)
  ar : AR wr v es
  fi : FIN wr wr.heap.size es fin
  bl : Below w0.heap.size w0 wr
  ga0 : w0.heap.size ≤ ga
  vb : ∀ j, v.ownBlock = some j → w0.heap.size ≤ j
theorem ZA.below {w0 wr w1 : World} {ga : Nat} {v : Value} {es : List AE} {fin : List En} (h : ZA w0 wr ga v es fin) (hb : Below wr.heap.size wr w1) : ZA w0 w1 ga v es fin :=
  ⟨h.tb.move (hb.block ga h.tb.lt), h.ar.move (fun k hk => hb.block k (h.ar.lt k hk)), FIN.more hb.size (FIN.move (fun j cells hj _ => hb.block j hj) h.fi), below_step h.bl hb, h.ga0, h.vb⟩
theorem ZA.ne {w0 wr : World} {ga : Nat} {v : Value} {es : List AE} {fin : List En} (h : ZA w0 wr ga v es fin) : v.ownBlock ≠ some ga := fun e => by
  rcases h.ar with ⟨rfl, _⟩ | ⟨g, C, rfl, _, _, h3⟩
  · cases e
  · have : g = ga := by simpa [Value.ownBlock] using e
    exact (h3.ne_TB h.tb) this.symm
theorem ZA.give {w0 wr w1 : World} {ga g C : Nat} {v : Value} {es : List AE} {e' : AE} {fin : List En} {x : En} (h : ZA w0 wr ga v es fin) (h1 : AR w1 (.slice (some ⟨g, 0, none⟩) (es.length + 1) C) (es ++ [e'])) (h2 : FIN w1 w1.heap.size (es ++ [e']) (fin ++ [x])) (h3 : v.ownBlock = some g ∨ wr.heap.size ≤ g) (h4 : OnlS (fun k => v.ownBlock = some k) wr w1) :
    TB w1 ga v (.slice none 0 0) ∧ ZA w0 (w1.setCell ⟨ga, 0, none⟩ (.slice (some ⟨g, 0, none⟩) (es.length + 1) C)) ga (.slice (some ⟨g, 0, none⟩) (es.length + 1) C) (es ++ [e']) (fin ++ [x]) := by
  have ht := h.tb.move (h4.block ga h.tb.lt h.ne)
  have hne : ga ≠ g := by
    rcases h1 with ⟨h1, _⟩ | ⟨g', C', h1, _, _, h5⟩
    · cases h1
    · have hgg : g = g' := by have := congrArg Value.ownBlock h1; simpa [Value.ownBlock] using this
      rw [hgg]; exact h5.ne_TB ht
  have hbl : Below w0.heap.size w0 w1 := Below.trans h.bl (h4.below (fun k hk => h.vb k hk) h.bl.size)
  refine ⟨ht, ht.set0 _, h1.move (fun k hk => Below.heap_setCell _ _ _ _ (fun e => ?_)), ?_, below_set hbl h.ga0, h.ga0, fun j hj => ?_⟩
  · have : g = k := by simpa [Value.ownBlock] using hk
    exact hne (by rw [this, e])
  · rw [show (w1.setCell ⟨ga, 0, none⟩ (.slice (some ⟨g, 0, none⟩) (es.length + 1) C)).heap.size = w1.heap.size by simp [World.setCell]]
    exact FIN.move (fun j cells hj hc => Below.heap_setCell _ _ _ _ (fun e => by subst e; have := ht; unfold TB at this; rw [this] at hc; cases hc)) h2
  · have : g = j := by simpa [Value.ownBlock] using hj
    rcases h3 with e | e
    · rw [← this]; exact h.vb g e
    · have := h.bl.size; omega
set_option maxHeartbeats 16000000 in
set_option maxRecDepth 100000 in
theorem zzArgs_calls (w : World) (A : Option Addr) (c : Nat) (l : List S74) (hr : Kd.C k74 w A l.length l) (hc : l.length ≤ c) (hl : l.length ≤ 2147483647) (hx : ∀ x ∈ l, x.f0.size ≤ 2147483647 ∧ x.f1.size ≤ 2147483647) :
    Calls Try.prog 40 #[.slice A l.length c] w fun e w' => ∃ ga v es, e = .returned (.pointer (some ⟨ga, 0, none⟩)) ∧ ZA w w' ga v es (l.map enS) := by
  have HR := Aside0.mk hr
  have HL := Aside0.mk hl
  have HX := Aside0.mk hx
  obtain ⟨ga, hga⟩ : ∃ ga, ga = w.heap.size := ⟨_, rfl⟩
  have HGA := Aside0.mk hga
  clear hr hc hl hx
  go_enter Try.func40, Try.ntmps40
  go_upto_region 2 with (fail)
  rw [← hga]
  refine genW2 (fun W => ZA w W ga (.slice none 0 0) [] []) ⟨?_, .inl ⟨rfl, rfl⟩, trivial, below_alloc (Below.refl _ _) _, Nat.le_of_eq hga.symm, fun j hj => by cases hj⟩ ?_
  · rw [hga]; exact heap_alloc_new w _
  clear hga
  intro W hW
  have HW := Aside0.mk hW
  clear hW
  go_wp2
  go_loopw [10] (fun v10 wr => ∃ (xi : Int) (i : Nat) (v : Value) (es : List AE), v10 = .int .i64 xi ∧ Aside0 (xi = (i : Int)) ∧ Aside0 (i ≤ l.length) ∧ Aside0 (ZA w wr ga v es ((l.take i).map enS))) (fun v10 _ => l.length - natV v10)
  case atStart => exact ⟨0, 0, _, _, rfl, ⟨rfl⟩, ⟨Nat.zero_le _⟩, HW⟩
  case round =>
    clear HW
    obtain ⟨xi, i, v, es, rfl, HXI, HI, HZ⟩ := hrel
    by_cases hi : i < l.length
    · have hxi := HXI.out
      have b2 : decide (xi < (l.length : Int)) = true := decide_eq_true (by omega)
      have p1 : 0 ≤ xi := by omega
      have q1 : xi < (l.length : Int) := by omega
      obtain ⟨ad, ead, hx0, hx1, hx2⟩ := at_T74 HR.out xi p1 q1
      cases ead
      replace hx0 := (HZ.out.bl.cell (World.block_lt_of_cell? w _ hx0)).trans hx0
      replace hx1 := (HZ.out.bl.cell (World.block_lt_of_cell? w _ hx1)).trans hx1
      replace hx2 := (HZ.out.bl.cell (World.block_lt_of_cell? w _ hx2)).trans hx2
      obtain ⟨x, hx⟩ : ∃ x, x = rd_T74 l xi := ⟨_, rfl⟩
      have hxm : x ∈ l := by
        rw [hx, hxi]; unfold rd_T74; rw [Int.toNat_natCast, List.getD_eq_getElem?_getD, List.getElem?_eq_getElem hi]; exact List.getElem_mem hi
      have htk : (l.take (i + 1)).map enS = (l.take i).map enS ++ [enS x] := by
        rw [List.take_add_one, List.getElem?_eq_getElem hi, List.map_append, hx, hxi]; unfold rd_T74; rw [Int.toNat_natCast, List.getD_eq_getElem?_getD, List.getElem?_eq_getElem hi]; rfl
      rw [← hx] at hx0 hx1 hx2
      have HSX := Aside0.mk (HX.out x hxm)
      have HTK := Aside0.mk htk
      have HIL := Aside0.mk hi
      have p1 := eq_true p1
      have q1 := eq_true q1
      have hlen : es.length = i := by have := HZ.out.fi.length; simp at this; omega
      have HLE := Aside0.mk hlen
      obtain ⟨g5, hg5⟩ : ∃ g5, g5 = wr.heap.size := ⟨_, rfl⟩
      clear hxi hx hxm htk hi hlen
      go_upto_region 5 with (fail)
      refine genW2 (fun W => W.heap[g5]? = some (.cells #[.string x.f0, .string x.f1, .bool x.f2] 74 (0, 0)) ∧ ZA w W ga v es ((l.take i).map enS)) ⟨?_, ?_⟩ ?_
      · rw [hg5]; exact heap_alloc_new wr _
      · exact HZ.out.below (below_alloc (Below.refl _ _) _)
      rw [← hg5]
      clear HZ hx0 hx1 hx2 hg5
      intro W hW
      obtain ⟨hz, hza⟩ := hW
      have zc0 : W.cell? ⟨g5, 0, none⟩ = some (.string x.f0) := by unfold World.cell?; rw [hz]; rfl
      have zc1 : W.cell? ⟨g5, 1, none⟩ = some (.string x.f1) := by unfold World.cell?; rw [hz]; rfl
      have zc2 : W.cell? ⟨g5, 2, none⟩ = some (.bool x.f2) := by unfold World.cell?; rw [hz]; rfl
      have ft := hza.tb.c0
      have HZA := Aside0.mk (hza.below (pw_below_drewN (Below.refl _ _) 1))
      clear hz hza
      go_region_with (go_at_call 54; refine (give_calls W.drew v es W.drew.heap.size ((l.take i).map enS) x.f0 x.f1 x.f2 ?h1 ?h2 (Nat.le_refl _) (by have := HLE.out; have := HIL.out; have := HL.out; omega) HSX.out.1 HSX.out.2).mono ?_; (case h1 => exact HZA.out.ar); (case h2 => exact HZA.out.fi); rintro e w5 ⟨g, C, e', rfl, k1, k2, k3, k4⟩; obtain ⟨ht5, hz5⟩ := ZA.give HZA.out k1 k2 k3 k4; have f5 := ht5.c0; have z5 := ht5.fz 0; have HZ5 := Aside0.mk hz5; clear k1 k2 k3 k4 ht5 hz5 ft zc0 zc1 zc2)
      all_goals go_wp2
      all_goals go_roundw
      all_goals first
        | (have h1_ := HIL.out; have h2_ := HXI.out; have h3_ := HL.out; have hw_ : wrap64 (xi + 1) = xi + 1 := (by unfold wrap64; omega); simp only [natV]; rw [hw_]; omega)
        | exact ⟨_, i + 1, _, _, rfl, ⟨by have h1_ := HIL.out; have h2_ := HXI.out; have h3_ := HL.out; unfold wrap64; omega⟩, ⟨HIL.out⟩, ⟨by rw [HTK.out]; exact HZ5.out⟩⟩
    · have hxi := HXI.out
      have hil := HI.out
      have b2 : decide (xi < (l.length : Int)) = false := decide_eq_false (by omega)
      have HALL : Aside0 (l.take i = l) := ⟨List.take_of_length_le (by omega)⟩
      clear hi hxi hil
      go_wp2
      go_ret
      exact ⟨ga, v, es, rfl, by have := HZ.out; rwa [HALL.out] at this⟩
end Go.Proofs.Ytjklempjljikpaa.Q
