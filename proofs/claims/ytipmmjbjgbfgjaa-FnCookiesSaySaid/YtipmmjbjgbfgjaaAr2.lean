/- A place for one more argument: hertzproto.allocArg. -/
import Derived.Test.YtipmmjbjgbfgjaaAr1b
namespace Go.Proofs.Ytipmmjbjgbfgjaa.Q
open Go.RowKit Go.Proofs.YtipmmjbjgbfgjaaW.PrintWords Go.Proofs.YtipmmjbjgbfgjaaW.PrintLast Go.Proofs.YtipmmjbjgbfgjaaW.PrintMore
set_option linter.unusedVariables false
set_option linter.unusedSimpArgs false
/-- A fresh argument. -/
def slot (g0 : Nat) : AE := ⟨.slice none 0 0, .slice (some ⟨g0, 0, none⟩) 0 0, false⟩
section
variable {P : Program} {ops : Array Oper} {rest : List Oper} {o : Oper} {a : Act} {Q : Exit → Act → World → Prop} {W : World}
/-- One more argument behind a full row: a new row. -/
theorem append_AR (hgd : o.guard = none) (s x : Operand) (hop : o.op = .call { callee := .builtin .append, args := #[s, x], argTypes := #[83, 83] })
    (ht : P.underlying 83 = some (.slice 86)) (i : TypeInfo) (hi : P.info? 86 = some i) (hz : i.zero = some (.agg #[.slice none 0 0, .slice none 0 0, .bool false])) (hsz : i.size = 3) (hby : i.bytes = 56)
    (v : Value) (es : List AE) (hs : a.eval s = v) (g1 : Nat) (e : AE) (hx : a.eval x = .slice (some ⟨g1, 0, none⟩) 1 1) (hnew : AB W g1 [e]) (HR : AR W v es) (hfull : ∀ A n C, v = .slice A n C → C = es.length) (hn : es.length ≤ 4294967296)
    (h : ∀ g, g = W.heap.size → ∀ C W', es.length + 1 ≤ C → C ≤ maxLen → AB W' g (es ++ [e] ++ List.replicate (C - (es.length + 1)) aeZ) → Below W.heap.size W W' → wpList P ops Q rest (a.put o.dst (.slice (some ⟨g, 0, none⟩) (es.length + 1) C)) W') : wpList P ops Q (o :: rest) a W := by
  have hnews : ∀ j u, (cellsA [e])[j]? = some u → W.cell? ((⟨g1, 0, none⟩ : Addr).add j) = some u := by
    intro j u hj
    have hjl : j < 3 := by have := (List.getElem?_eq_some_iff.1 hj).1; simpa [cellsA_length] using this
    rw [addr_add', Nat.zero_add]
    rcases (by omega : j = 0 ∨ j = 1 ∨ j = 2) with rfl | rfl | rfl
    · rw [hnew.cellK 0 0 rfl (by simp), ← hj]; rfl
    · rw [hnew.cellV 0 0 rfl (by simp), ← hj]; rfl
    · rw [hnew.cellB 0 0 rfl (by simp), ← hj]; rfl
  have key : ∃ C, es.length + 1 ≤ C ∧ C ≤ maxLen ∧ (Builtin.append_ #[83, 83] o.type #[v, .slice (some ⟨g1, 0, none⟩) 1 1]).run P W = .ok (.slice (some ⟨W.heap.size, 0, none⟩) (es.length + 1) C) (W.drew.alloc (.cells (cellsA (es ++ [e] ++ List.replicate (C - (es.length + 1)) aeZ)).toArray 86)) := by
    rcases HR with ⟨rfl, rfl⟩ | ⟨g, C0, rfl, h1, h2, h3⟩
    · refine ⟨grownCap W 1 0 86, grownCap_ge _ _ _ _, grownCap_le_maxLen _ _ _ _ (by decide), ?_⟩
      have hr := run_append_nil (P := P) (w := W) 83 o.type 86 i _ ht hi hz ⟨g1, 0, none⟩ 1 1 (cellsA [e]) (by rw [hsz]; rfl) hnews (by omega) (by omega) (by omega)
      rw [hr]
      congr 4
      simp only [List.nil_append, List.length_nil, Nat.zero_add]
      apply Array.ext'
      rw [Array.toList_append, cellsA_append]
      congr 1
      exact zeroA _
    · have hC : C0 = es.length := hfull _ _ _ rfl
      subst hC
      refine ⟨grownCap W (es.length + 1) es.length 86, grownCap_ge _ _ _ _, grownCap_le_maxLen _ _ _ _ (by unfold maxLen; omega), ?_⟩
      have hne := nextslicecap_le (need := es.length + 1) (old := es.length) (by omega)
      rw [Nat.sub_self, List.replicate_zero, List.append_nil] at h3
      have hr := run_append_grow (P := P) (w := W) 83 o.type 86 i _ ht hi hz ⟨g, 0, none⟩ es.length es.length (cellsA es) (by rw [hsz, cellsA_length, Nat.mul_comm]) (fun j u hj => by
        have hjl : j < 3 * es.length := by have := (List.getElem?_eq_some_iff.1 hj).1; rwa [cellsA_length] at this
        obtain ⟨q1, q2, q3⟩ := cellsA_get es (j / 3) (by omega)
        rw [addr_add', Nat.zero_add]
        rcases (by omega : j = 3 * (j / 3) ∨ j = 3 * (j / 3) + 1 ∨ j = 3 * (j / 3) + 2) with e1 | e1 | e1
        · rw [e1] at hj; rw [q1] at hj; rw [h3.cellK (j / 3) j e1 (by omega), hj]
        · rw [e1] at hj; rw [q2] at hj; rw [show (⟨g, j, none⟩ : Addr) = ⟨g, 3 * (j / 3) + 1, none⟩ by rw [← e1], h3.cellV (j / 3) _ rfl (by omega), hj]
        · rw [e1] at hj; rw [q3] at hj; rw [show (⟨g, j, none⟩ : Addr) = ⟨g, 3 * (j / 3) + 2, none⟩ by rw [← e1], h3.cellB (j / 3) _ rfl (by omega), hj]) ⟨g1, 0, none⟩ 1 1 (cellsA [e]) (by rw [hsz]; rfl) hnews (by omega) (by omega) (by rw [hby]; omega)
      rw [hr]
      congr 4
      apply Array.ext'
      rw [Array.toList_append, Array.toList_append, cellsA_append, cellsA_append]
      congr 1
      exact zeroA _
  obtain ⟨C, hC1, hC2, hrun⟩ := key
  have hA := AB.of_cells (heap_alloc_new W.drew (.cells (cellsA (es ++ [e] ++ List.replicate (C - (es.length + 1)) aeZ)).toArray 86))
  have hB := below_alloc (Below.refl W.heap.size W).drew (.cells (cellsA (es ++ [e] ++ List.replicate (C - (es.length + 1)) aeZ)).toArray 86)
  generalize W.drew.alloc (.cells (cellsA (es ++ [e] ++ List.replicate (C - (es.length + 1)) aeZ)).toArray 86) = W' at hrun hA hB
  refine wpList_plain hgd fun K hK => ?_
  unfold Oper.wp
  simp [execOp, hop, resolve, invoke, builtin, hs, hx, hrun, Result.andThen]
  exact hK _ _ (h _ rfl C _ hC1 hC2 hA hB)
end
set_option maxHeartbeats 8000000 in
set_option maxRecDepth 100000 in
theorem alloc_room (w : World) (g n C : Nat) (es : List AE) (h : AB w g es) (hC : es.length = C) (hn : n < C) (hz : es[n]? = some aeZ) (hb : n ≤ 4294967296) :
    Calls Try.prog 104 #[.slice (some ⟨g, 0, none⟩) n C] w fun e w' => ∃ g0, e = .returned (.tuple #[.slice (some ⟨g, 0, none⟩) (n + 1) C, .pointer (some ⟨g, n * 3, none⟩)]) ∧ w.heap.size ≤ g0 ∧ w'.heap[g0]? = some (.cells #[] 5 (0, 0)) ∧ AB w' g (es.set n (slot g0)) ∧ OnlS (fun k => k = g) w w' := by
  obtain ⟨i0, hi0, _, hsz0, _⟩ := info_parts info86
  have hnl : n < es.length := by omega
  have hzn : es[n] = aeZ := by rw [List.getElem?_eq_getElem hnl] at hz; exact Option.some.inj hz
  have f0 : w.cell? ⟨g, n * 3, none⟩ = some (.slice none 0 0) := by rw [h.cellK n (n * 3) (by omega) hnl, hzn]; rfl
  have f1 : w.cell? ⟨g, n * 3 + 1, none⟩ = some (.slice none 0 0) := by rw [h.cellV n (n * 3) (by omega) hnl, hzn]; rfl
  have f2 : w.cell? ⟨g, n * 3 + 2, none⟩ = some (.bool false) := by rw [h.cellB n (n * 3) (by omega) hnl, hzn]; rfl
  have z1 := h.fz (n * 3 + 1)
  have b1 : decide ((C : Int) > (n : Int)) = true := decide_eq_true (by omega)
  have b1' : decide ((n : Int) < (C : Int)) = true := decide_eq_true (by omega)
  have w1 : wrap64 ((n : Int) + 1) = (n : Int) + 1 := by unfold wrap64; omega
  have HCUT := cutUp (P := Try.prog) Try.underlying83 hi0 (some ⟨g, 0, none⟩) n C (n + 1) ((n : Int) + 1) rfl (by omega)
  have p1 : (0 ≤ (n : Int)) = True := eq_true (by omega)
  have q1 : ((n : Int) < ((n + 1 : Nat) : Int)) = True := eq_true (by omega)
  have HA1 := h.alloc (.cells #[] 5 (0, 0))
  have f1a : (w.alloc (.cells #[] 5 (0, 0))).cell? ⟨g, n * 3 + 1, none⟩ = some (.slice none 0 0) := by rw [HA1.cellV n (n * 3) (by omega) hnl, hzn]; rfl
  have z1a := HA1.fz (n * 3 + 1)
  have HA1 := Aside0.mk HA1
  have HE : ∀ W : World, (binOp .eql 24 (.slice none 0 0) (.slice none 0 0)).run Try.prog W = .ok (.bool true) W := fun W => by rfl
  have HA := Aside0.mk h
  have HN := Aside0.mk hnl
  have HZN : Aside0 (∀ h : n < es.length, es[n] = aeZ) := ⟨fun _ => hzn⟩
  clear h hz hzn hnl
  go_enter Try.func104, Try.ntmps104
  go_wp2
  repeat (go_quiet (fail); try go_wp2)
  go_ret2
  have hlt := HA.out.lt
  refine ⟨w.heap.size, rfl, Nat.le_refl _, ?_, ?_, ?_⟩
  · refine (Below.heap_setCell _ _ _ _ (show w.heap.size ≠ g by omega)).trans ?_
    exact heap_alloc_new w _
  · have h2 := HA1.out.setV n (n * 3) (by omega) HN.out (.slice (some ⟨w.heap.size, 0, none⟩) 0 0)
    rw [show es[n]'HN.out = aeZ from HZN.out _] at h2
    exact h2
  · exact OnlS.set (S := fun k => k = g) (OnlS.alloc (OnlS.refl _ _) _) (.inl rfl) _ _
set_option maxHeartbeats 8000000 in
set_option maxRecDepth 100000 in
theorem alloc_full (w : World) (v : Value) (A : Option Addr) (n : Nat) (es : List AE) (h : AR w v es) (hv : v = .slice A n n) (hn : n = es.length) (hb : n ≤ 4294967296) :
    Calls Try.prog 104 #[v] w fun e w' => ∃ g C g0, e = .returned (.tuple #[.slice (some ⟨g, 0, none⟩) (n + 1) C, .pointer (some ⟨g, n * 3, none⟩)]) ∧ w.heap.size ≤ g ∧ w.heap.size ≤ g0 ∧ n + 1 ≤ C ∧ C ≤ maxLen ∧ w'.heap[g0]? = some (.cells #[] 5 (0, 0)) ∧ AB w' g (es ++ [slot g0] ++ List.replicate (C - (n + 1)) aeZ) ∧ Below w.heap.size w w' := by
  obtain ⟨i0, hi0, hz0, hsz0, hby0⟩ := info_parts info86
  subst hv
  have b1 : decide ((n : Int) > (n : Int)) = false := decide_eq_false (by omega)
  have b1' : decide ((n : Int) < (n : Int)) = false := decide_eq_false (by omega)
  have p1 : (0 ≤ (n : Int)) = True := eq_true (by omega)
  have q1 : ((n : Int) < ((n + 1 : Nat) : Int)) = True := eq_true (by omega)
  have HR := Aside0.mk h
  have HN := Aside0.mk hn
  clear h hn
  go_enter Try.func104, Try.ntmps104
  go_wp2_with (first | ((with_reducible refine gate_builtin (b := .append) (xs := #[.tmp 30, .tmp 33]) rfl ?_); at_builtin; refine append_AR rfl (.tmp 30) (.tmp 33) rfl Try.underlying83 i0 hi0 hz0 hsz0 hby0 (.slice A n n) es rfl _ (slot w.heap.size) rfl ?new ?row ?full ?len ?_; (case new => have hq := heap_alloc_new (w.alloc (.cells #[] 5)) (.cells (cellsA [slot w.heap.size]).toArray 86); rw [show (w.alloc (.cells #[] 5)).heap.size = w.heap.size + 1 by simp] at hq; exact AB.of_cells (es := [slot w.heap.size]) hq); (case row => exact HR.out.move fun k hk => by (have := HR.out.lt k hk; rw [Below.heap_alloc _ _ _ (by simp; omega), Below.heap_alloc _ _ _ (by omega)])); (case full => intro A' n' C' e'; cases e'; exact HN.out); (case len => have := HN.out; omega); intro g hg C w1 hC1 hC2 hA hb; rw [← HN.out] at hC1 hA ⊢; have HC1 := Aside0.mk hC1; have HC2 := Aside0.mk hC2; have HA := Aside0.mk hA; have HB := Aside0.mk hb; have HG := Aside0.mk hg; have q2 := (eq_true (show (n : Int) < ((n + 1 : Nat) : Int) by omega)); clear hC1 hC2 hA hb hg))
  repeat (go_quiet (fail); try go_wp2)
  go_ret2
  refine ⟨g, C, w.heap.size, rfl, by rw [HG.out]; simp; omega, Nat.le_refl _, HC1.out, HC2.out, ?_, HA.out.heap rfl, pw_below_drewN (below_step (below_alloc (below_alloc (Below.refl _ _) _) _) HB.out) nq⟩
  refine (HB.out.block w.heap.size (by simp; omega)).trans ?_
  rw [Below.heap_alloc _ _ _ (by simp)]
  exact heap_alloc_new w _
/-- What is told of a place that was made. -/
def AllocPost (w : World) (v : Value) (es : List AE) (e : Ending) (w' : World) : Prop := ∃ g C g0, e = .returned (.tuple #[.slice (some ⟨g, 0, none⟩) (es.length + 1) C, .pointer (some ⟨g, es.length * 3, none⟩)]) ∧ (v.ownBlock = some g ∨ w.heap.size ≤ g) ∧ w.heap.size ≤ g0 ∧ es.length + 1 ≤ C ∧ C ≤ maxLen ∧ w'.heap[g0]? = some (.cells #[] 5 (0, 0)) ∧ AB w' g (es ++ [slot g0] ++ List.replicate (C - (es.length + 1)) aeZ) ∧ OnlS (fun k => v.ownBlock = some k) w w'
/-- A place for one more argument, however the row lies. -/
theorem alloc_calls (w : World) (v : Value) (es : List AE) (h : AR w v es) (hb : es.length ≤ 4294967296) : Calls Try.prog 104 #[v] w (AllocPost w v es) := by
  have full : ∀ A, v = .slice A es.length es.length → Calls Try.prog 104 #[v] w (AllocPost w v es) := fun A hv => by
    refine (alloc_full w v A es.length es h hv rfl hb).mono ?_
    rintro e w' ⟨g, C, g0, rfl, h1, h2, h3, h4, h5, h6, h7⟩
    exact ⟨g, C, g0, rfl, .inr h1, h2, h3, h4, h5, h6, OnlS.of_below h7 (fun k hk hl => by omega)⟩
  rcases h with ⟨rfl, rfl⟩ | ⟨g, C, rfl, h1, h2, h3⟩
  · exact full none rfl
  · by_cases hC : C = es.length
    · subst hC
      exact full _ rfl
    · have hn : es.length < C := by omega
      have hz : (es ++ List.replicate (C - es.length) aeZ)[es.length]? = some aeZ := by
        rw [List.getElem?_append_right (Nat.le_refl _), Nat.sub_self, List.getElem?_replicate, if_pos (by omega)]
      refine (alloc_room w g es.length C _ h3 (by simp; omega) hn hz hb).mono ?_
      rintro e w' ⟨g0, rfl, e1, e2, e3, e4⟩
      refine ⟨g, C, g0, rfl, .inl rfl, e1, by omega, h2, e2, ?_, e4.mono fun k _ hk => by rw [hk]; rfl⟩
      have hs : (es ++ List.replicate (C - es.length) aeZ).set es.length (slot g0) = es ++ [slot g0] ++ List.replicate (C - (es.length + 1)) aeZ := by
        rw [List.set_append_right _ _ (Nat.le_refl _), Nat.sub_self, show C - es.length = (C - (es.length + 1)) + 1 by omega, List.replicate_succ, List.set_cons_zero, List.append_assoc]
        rfl
      rw [← hs]
      exact e3
end Go.Proofs.Ytipmmjbjgbfgjaa.Q
