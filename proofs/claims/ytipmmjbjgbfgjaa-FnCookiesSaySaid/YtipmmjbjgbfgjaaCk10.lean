/- The text of a request's cookies, out of data: ZzCookieText, impl.CookiesText. -/
import Derived.Test.YtipmmjbjgbfgjaaCk9
import Derived.Test.YtipmmjbjgbfgjaaAr10g
namespace Go.Proofs.Ytipmmjbjgbfgjaa.Q
open Go.RowKit Go.Proofs.YtipmmjbjgbfgjaaW.PrintWords Go.Proofs.YtipmmjbjgbfgjaaW.PrintLast Go.Proofs.YtipmmjbjgbfgjaaW.PrintMore Go.Proofs.YtipmmjbjgbfgjaaKit
open Go.Proofs.Ytipmmjbjgbfgjaa.SpA (toI toI_length toI_append)
set_option linter.unusedVariables false
set_option linter.unusedSimpArgs false
def enS (x : S82) : En := (x.f0.data.toList, valIf x.f2 x.f1.data.toList, x.f2)
/-- Where the making of arguments stands. -/
structure ZC (w0 wr : World) (v : Value) (es : List AE) (fin : List En) : Prop where
  ar : AR wr v es
  fi : FIN wr wr.heap.size es fin
  bl : Below w0.heap.size w0 wr
  vb : ∀ j, v.ownBlock = some j → w0.heap.size ≤ j
theorem ZC.below {w0 wr w1 : World} {v : Value} {es : List AE} {fin : List En} (h : ZC w0 wr v es fin) (hb : Below wr.heap.size wr w1) : ZC w0 w1 v es fin :=
  ⟨h.ar.move (fun k hk => hb.block k (h.ar.lt k hk)), FIN.more hb.size (FIN.move (fun j cells hj _ => hb.block j hj) h.fi), below_step h.bl hb, h.vb⟩
theorem ZC.give {w0 wr w1 : World} {g C : Nat} {v : Value} {es : List AE} {e' : AE} {fin : List En} {x : En} (h : ZC w0 wr v es fin) (h1 : AR w1 (.slice (some ⟨g, 0, none⟩) (es.length + 1) C) (es ++ [e'])) (h2 : FIN w1 w1.heap.size (es ++ [e']) (fin ++ [x])) (h3 : v.ownBlock = some g ∨ wr.heap.size ≤ g) (h4 : OnlS (fun k => v.ownBlock = some k) wr w1) :
    ZC w0 w1 (.slice (some ⟨g, 0, none⟩) (es.length + 1) C) (es ++ [e']) (fin ++ [x]) := by
  refine ⟨h1, h2, Below.trans h.bl (h4.below (fun k hk => h.vb k hk) h.bl.size), fun j hj => ?_⟩
  have : g = j := by simpa [Value.ownBlock] using hj
  rcases h3 with e | e
  · rw [← this]; exact h.vb g e
  · have := h.bl.size; omega
theorem ZC.form {w0 wr : World} {v : Value} {es : List AE} {fin : List En} (h : ZC w0 wr v es fin) : ∃ A C, v = .slice A es.length C := by
  rcases h.ar with ⟨rfl, rfl⟩ | ⟨g, C, rfl, _⟩
  · exact ⟨none, 0, rfl⟩
  · exact ⟨_, _, rfl⟩
set_option maxHeartbeats 16000000 in
set_option maxRecDepth 100000 in
theorem zzCookieText_calls (w : World) (A : Option Addr) (c : Nat) (l : List S82) (hr : Kd.C k82 w A l.length l) (hc : l.length ≤ c) (hl : l.length ≤ 2147483647) (hx : ∀ x ∈ l, x.f0.size ≤ 2147483647 ∧ x.f1.size ≤ 2147483647) (ht : (ckText (l.map enS)).length ≤ 1000000000000) :
    Calls Try.prog 69 #[.slice A l.length c] w fun e w' => e = .returned (.string ⟨(ckText (l.map enS)).toArray⟩) ∧ Below w.heap.size w w' := by
  have HR := Aside0.mk hr
  have HL := Aside0.mk hl
  have HX := Aside0.mk hx
  have HT := Aside0.mk ht
  clear hr hc hl hx ht
  go_enter Try.func69, Try.ntmps69
  go_wp2
  go_loopw [3, 8] (fun v3 v8 wr => ∃ (xi : Int) (i : Nat) (es : List AE), v8 = .int .i64 xi ∧ Aside0 (xi = (i : Int)) ∧ Aside0 (i ≤ l.length) ∧ Aside0 (ZC w wr v3 es ((l.take i).map enS))) (fun _ v8 _ => l.length - natV v8)
  case atStart => exact ⟨0, 0, [], rfl, ⟨rfl⟩, ⟨Nat.zero_le _⟩, ⟨⟨.inl ⟨rfl, rfl⟩, trivial, by first | exact Below.refl _ _ | exact pw_below_drewN (Below.refl _ _) _, fun j hj => by cases hj⟩⟩⟩
  case round =>
    obtain ⟨xi, i, es, rfl, HXI, HI, HZ⟩ := hrel
    by_cases hi : i < l.length
    · have hxi := HXI.out
      have b2 : decide (xi < (l.length : Int)) = true := decide_eq_true (by omega)
      have p1 : 0 ≤ xi := by omega
      have q1 : xi < (l.length : Int) := by omega
      obtain ⟨ad, ead, hx0, hx1, hx2⟩ := at_T82 HR.out xi p1 q1
      cases ead
      replace hx0 := (HZ.out.bl.cell (World.block_lt_of_cell? w _ hx0)).trans hx0
      replace hx1 := (HZ.out.bl.cell (World.block_lt_of_cell? w _ hx1)).trans hx1
      replace hx2 := (HZ.out.bl.cell (World.block_lt_of_cell? w _ hx2)).trans hx2
      obtain ⟨x, hx⟩ : ∃ x, x = rd_T82 l xi := ⟨_, rfl⟩
      have hxm : x ∈ l := by
        rw [hx, hxi]; unfold rd_T82; rw [Int.toNat_natCast, List.getD_eq_getElem?_getD, List.getElem?_eq_getElem hi]; exact List.getElem_mem hi
      have htk : (l.take (i + 1)).map enS = (l.take i).map enS ++ [enS x] := by
        rw [List.take_add_one, List.getElem?_eq_getElem hi, List.map_append, hx, hxi]; unfold rd_T82; rw [Int.toNat_natCast, List.getD_eq_getElem?_getD, List.getElem?_eq_getElem hi]; rfl
      rw [← hx] at hx0 hx1 hx2
      have HSX := Aside0.mk (HX.out x hxm)
      have HTK := Aside0.mk htk
      have HIL := Aside0.mk hi
      have p1 := eq_true p1
      have q1 := eq_true q1
      have hlen : es.length = i := by have := HZ.out.fi.length; simp at this; omega
      have HLE := Aside0.mk hlen
      obtain ⟨g5, hg5⟩ : ∃ g5, g5 = wr.heap.size := ⟨_, rfl⟩
      clear hxi hx hxm htk hi hlen
      go_upto_region 5 with (fail)
      refine genW2 (fun W => W.heap[g5]? = some (.cells #[.string x.f0, .string x.f1, .bool x.f2] 82 (0, 0)) ∧ ZC w W u3 es ((l.take i).map enS)) ⟨?_, ?_⟩ ?_
      · rw [hg5]; exact heap_alloc_new wr _
      · exact HZ.out.below (below_alloc (Below.refl _ _) _)
      rw [← hg5]
      clear HZ hx0 hx1 hx2 hg5
      intro W hW
      obtain ⟨hz, hza⟩ := hW
      have zc0 : W.cell? ⟨g5, 0, none⟩ = some (.string x.f0) := by unfold World.cell?; rw [hz]; rfl
      have zc1 : W.cell? ⟨g5, 1, none⟩ = some (.string x.f1) := by unfold World.cell?; rw [hz]; rfl
      have zc2 : W.cell? ⟨g5, 2, none⟩ = some (.bool x.f2) := by unfold World.cell?; rw [hz]; rfl
      have HZA := Aside0.mk hza
      have wx : wrap64 (xi + 1) = xi + 1 := by have h1_ := HIL.out; have h2_ := HXI.out; have h3_ := HL.out; unfold wrap64; omega
      clear hz hza
      go_wp2_with (first | ((with_reducible refine gate_callee (f := 89) rfl ?_); refine goesL_ (some 19) rfl rfl Try.func89 (by kernel_rfl) rfl #[u3, .string x.f0, .string x.f1, .bool x.f2] rfl (by (try simp only [List.map_toArray, List.map_cons, List.map_nil]); first | done | rfl) ?_; refine (give_calls W u3 es W.heap.size ((l.take i).map enS) x.f0 x.f1 x.f2 HZA.out.ar HZA.out.fi (Nat.le_refl _) (by have := HLE.out; have := HIL.out; have := HL.out; omega) HSX.out.1 HSX.out.2).mono ?_; rintro e w5 ⟨g, C, e', rfl, k1, k2, k3, k4⟩; refine ⟨_, rfl, ?_⟩; have HZ5 := Aside0.mk (ZC.give HZA.out k1 k2 k3 k4); clear k1 k2 k3 k4))
      go_roundw
      case measure => have h1_ := HIL.out; have h2_ := HXI.out; simp only [natV]; rw [wx]; omega
      case rel => exact ⟨_, i + 1, _, by first | rfl | (rw [wx]), ⟨by have h2_ := HXI.out; first | (rw [wx]; omega) | omega⟩, ⟨HIL.out⟩, ⟨by rw [HTK.out]; exact HZ5.out⟩⟩
    · have hxi := HXI.out
      have hil := HI.out
      have b2 : decide (xi < (l.length : Int)) = false := decide_eq_false (by omega)
      have HALL : Aside0 (l.take i = l) := ⟨List.take_of_length_le (by omega)⟩
      rw [HALL.out] at HZ
      clear hi hxi hil
      go_wp2_with (first | ((with_reducible refine gate_callee (f := 90) rfl ?_); refine goesL_ (some 22) rfl rfl Try.func90 (by kernel_rfl) rfl #[.slice none 0 0, u3] rfl (by (try simp only [List.map_toArray, List.map_cons, List.map_nil]); first | done | rfl) ?_; refine (acb_calls wr wr.heap.size u3 es (l.map enS) HZ.out.ar HZ.out.form HZ.out.fi (Nat.le_refl _) HT.out (by have h1_ := HZ.out.fi.length; have := HL.out; simp at h1_; omega)).mono ?_; rintro e w5 ⟨v5, rfl, hr5, hb5⟩; obtain ⟨A5, c5, rfl⟩ := Kd.R_slice hr5; refine ⟨_, rfl, ?_⟩; have hcv := conv_R hr5; have HB5 := Aside0.mk (below_step HZ.out.bl hb5); clear hr5 hb5))
      go_ret
      exact ⟨rfl, HB5.out⟩
set_option maxHeartbeats 16000000 in
set_option maxRecDepth 100000 in
theorem cookiesText_calls (w : World) (A : Option Addr) (c : Nat) (l : List S40) (hr : Kd.C k40 w A l.length l) (hc : l.length ≤ c) (hl : l.length ≤ 2147483647) (hx : ∀ x ∈ l, x.f0.size ≤ 2147483647 ∧ x.f1.size ≤ 2147483647) (ht : (ckText (l.map en36)).length ≤ 1000000000000) :
    Calls Try.prog 31 #[.slice A l.length c] w fun e w' => e = .returned (.string ⟨(ckText (l.map en36)).toArray⟩) ∧ Below w.heap.size w w' := by
  obtain ⟨K, hK⟩ := given_f l (by omega)
  have hmap : (l.map to74).map enS = l.map en36 := by rw [List.map_map]; rfl
  have HR := Aside0.mk hr
  have HC := Aside0.mk hc
  have HL := Aside0.mk hl
  have HX := Aside0.mk hx
  have HT := Aside0.mk ht
  have HK := Aside0.mk hK
  have HM := Aside0.mk hmap
  clear hr hc hl hx ht hK hmap
  go_enter Try.func31, Try.ntmps31
  go_wp2_with (first | ((with_reducible refine gate_callee (f := 70) rfl ?_); refine goesL_ (some 4) rfl rfl Try.func70 (by kernel_rfl) rfl #[.slice A l.length c] rfl (by (try simp only [List.map_toArray, List.map_cons, List.map_nil]); first | done | rfl) ?_; refine (impl_given.calls K A c l (l.map to74) _ (by exact HR.out) HC.out (HK.out K (Nat.le_refl _))).mono ?_; rintro e w5 ⟨v5, rfl, hr5, hb5⟩; obtain ⟨A5, c5, rfl, hl5, hc5⟩ := Kd.R_reads hr5; refine ⟨_, rfl, ?_⟩; have HC5 := Aside0.mk hc5; have HL5 := Aside0.mk hl5; have HB5 := Aside0.mk hb5; clear hr5 hb5 hl5 hc5) | ((with_reducible refine gate_callee (f := 69) rfl ?_); refine goesL_ (some 5) rfl rfl Try.func69 (by kernel_rfl) rfl #[.slice A5 (l.map to74).length c5] rfl (by (try simp only [List.map_toArray, List.map_cons, List.map_nil]); first | done | rfl) ?_; refine (zzCookieText_calls w5 A5 c5 (l.map to74) HC5.out HL5.out (by have := HL.out; simpa using this) (fun x hx_ => by (obtain ⟨y, hy, rfl⟩ := List.mem_map.1 hx_; exact HX.out y hy)) (by rw [HM.out]; exact HT.out)).mono ?_; rintro e w6 ⟨rfl, hz⟩; rw [HM.out]; refine ⟨_, rfl, ?_⟩; have HB6 := Aside0.mk (below_step HB5.out hz); clear hz))
  go_ret
  exact ⟨rfl, HB6.out⟩
end Go.Proofs.Ytipmmjbjgbfgjaa.Q
