/- One more argument that is given: hertzproto.appendArg. -/
import Derived.Test.YtipmmjbjgbfgjaaAr4g
import Derived.Lib.AppendStr
namespace Go.Proofs.Ytipmmjbjgbfgjaa.Q
open Go.RowKit Go.Proofs.YtipmmjbjgbfgjaaW.PrintWords Go.Proofs.YtipmmjbjgbfgjaaW.PrintLast Go.Proofs.YtipmmjbjgbfgjaaW.PrintMore
open Go.Proofs.Ytipmmjbjgbfgjaa.SpA (toI toI_length toI_append)
set_option linter.unusedVariables false
set_option linter.unusedSimpArgs false
theorem genW2 {P : Program} {a : Act} {c : Code} {Qc : Exit → Act → World → Prop} {W0 : World} (F : World → Prop) (h0 : F W0) (h : ∀ W, F W → Code.wp P c Qc a W) : Code.wp P c Qc a W0 := h W0 h0
/-- A row without room. -/
def V0 (w : World) (v : Value) : Prop := v = .slice none 0 0 ∨ ∃ g, v = .slice (some ⟨g, 0, none⟩) 0 0 ∧ w.heap[g]? = some (.cells #[] 5 (0, 0))
theorem strCells_toI (s : ByteArray) : Lib.strCells s = encs (Value.int .u8) (toI s.data.toList) := by simp [Lib.strCells, encs, toI]
theorem str0_run (W : World) (v : Value) (hv : V0 W v) (s : ByteArray) (hs : s.size ≤ 2147483647) (ty : TypeId) :
    ∃ v' w', (Builtin.append_ #[24, 9] ty #[v, .string s]).run Try.prog W = .ok v' w' ∧ Below W.heap.size W w' ∧ ∀ (b : Nat) (ok : Nat → Prop), (∀ j, v.ownBlock = some j → b ≤ j ∧ ok j) → b ≤ W.heap.size → ok W.heap.size → Kd.R (Kd.int .u8) 5 w' b ok v' (toI s.data.toList) := by
  obtain ⟨i0, hi0, hz0, hsz0, hby0⟩ := info_parts info5
  have hu := Try.underlying9
  have ht := Try.underlying24
  have hlen : (toI s.data.toList).length = s.size := by rw [toI_length]; simp
  have new : ∀ (c : Nat) (olds : List Value), olds = [] → s.size ≤ c → c ≤ maxLen → Below W.heap.size W (W.drew.alloc (.cells ((Lib.strCells s).toArray ++ Builtin.zeroCells (Value.int .u8 0).cells (c - s.size)) 5)) ∧ ∀ (b : Nat) (ok : Nat → Prop), b ≤ W.heap.size → ok W.heap.size → Kd.R (Kd.int .u8) 5 (W.drew.alloc (.cells ((Lib.strCells s).toArray ++ Builtin.zeroCells (Value.int .u8 0).cells (c - s.size)) 5)) b ok (.slice (some ⟨W.heap.size, 0, none⟩) s.size c) (toI s.data.toList) := by
    intro c olds ho h1 h2
    refine ⟨below_alloc (Below.refl W.heap.size W).drew _, fun b ok hb hok => Kd.R_of_own (xs := toI s.data.toList) ?_ ?_⟩
    · rw [hlen, ← strCells_toI]
      refine ⟨by rw [Lib.strCells_length, Nat.mul_one], .inr ⟨W.heap.size, c, _, rfl, hb, heap_alloc_new W.drew _, h1, h2, ?_, ?_⟩⟩
      · have hz1 : (Value.int IntKind.u8 0).cells.size = 1 := rfl
        simp only [Array.size_append, List.size_toArray, size_zeroCells, hz1, Lib.strCells_length]
        omega
      · rw [Array.toList_append, Nat.mul_one, ← Lib.strCells_length s]
        exact List.take_left
    · intro j hj
      have : W.heap.size = j := by simpa [Value.ownBlock] using hj
      rw [← this]; exact hok
  rcases hv with rfl | ⟨g, rfl, hg⟩
  · by_cases hm : s.size = 0
    · have hn : Lib.strCells s = [] := List.eq_nil_of_length_eq_zero (by rw [Lib.strCells_length]; exact hm)
      have hn2 : toI s.data.toList = [] := List.eq_nil_of_length_eq_zero (by rw [hlen]; exact hm)
      refine ⟨.slice none 0 0, W, ?_, Below.refl _ _, fun b ok _ _ _ => by rw [hn2]; exact Kd.R_nil _ _ _ _ _⟩
      have hf := Lib.run_firstCells_string (P := Try.prog) W 1 s
      rw [hm] at hf
      simp [Builtin.append_, run_underlying ht, run_underlying hu, sizeOf, typeInfo, hi0, hsz0, Builtin.lenOf, hm, hf]
    · have hr := run_append_nil_string (P := Try.prog) W 24 9 ty 5 i0 (.int .u8 0) ht hu hi0 hz0 s (by omega) (by omega) (by rw [hby0]; omega)
      have e1 : (s.data.map fun b => Value.int .u8 b.toNat) = (Lib.strCells s).toArray := by
        apply Array.ext'
        simp [Lib.strCells]
      rw [e1] at hr
      obtain ⟨n1, n2⟩ := new _ [] rfl (grownCap_ge W s.size 0 5) (grownCap_le_maxLen W s.size 0 5 (by unfold maxLen; omega))
      exact ⟨_, _, hr, n1, fun b ok _ hb hok => n2 b ok hb hok⟩
  · by_cases hm : s.size = 0
    · have hn : Lib.strCells s = [] := List.eq_nil_of_length_eq_zero (by rw [Lib.strCells_length]; exact hm)
      have hn2 : toI s.data.toList = [] := List.eq_nil_of_length_eq_zero (by rw [hlen]; exact hm)
      have hr := Lib.run_append_room_string (P := Try.prog) W 24 9 ty 5 i0 ht hu hi0 hsz0 g 0 0 #[] hg s (by omega) (by rw [hm]; exact Nat.le_refl _)
      have hr0 : (Builtin.append_ #[24, 9] ty #[.slice (some ⟨g, 0, none⟩) 0 0, .string s]).run Try.prog W = .ok (.slice (some ⟨g, 0, none⟩) 0 0) (W.setRow g #[]) := by rw [hr, hm, hn]; rfl
      have hset : (W.setRow g #[]).heap[g]? = some (.cells #[] 5 (0, 0)) := setRow_heap W g #[] _ 5 _ hg
      refine ⟨_, _, hr0, ⟨rfl, rfl, rfl, by simp, fun k hk => ?_⟩, fun b ok h1 _ _ => ?_⟩
      · by_cases hkg : k = g
        · subst hkg; exact hset.trans hg.symm
        · exact setRow_other W g k _ hkg
      · rw [hn2]
        have := h1 g rfl
        exact R_slot hset this.1 this.2
    · have hr := Lib.run_append_grow_string (P := Try.prog) W 24 9 ty 5 i0 (.int .u8 0) ht hu hi0 hz0 ⟨g, 0, none⟩ 0 0 [] (by simp) (by simp) s (by omega) (by omega) (by rw [hby0]; exact growslice_fits (by omega) (by omega))
      rw [Nat.zero_add] at hr
      obtain ⟨n1, n2⟩ := new _ [] rfl (grownCap_ge W s.size 0 5) (grownCap_le_maxLen W s.size 0 5 (by unfold maxLen; omega))
      have e0 : ([] : List Value).toArray ++ (Lib.strCells s).toArray = (Lib.strCells s).toArray := by simp
      rw [e0] at hr
      exact ⟨_, _, hr, n1, fun b ok _ hb hok => n2 b ok hb hok⟩
section
variable {ops : Array Oper} {rest : List Oper} {o : Oper} {a : Act} {Q : Exit → Act → World → Prop} {W : World}
theorem append_s0 (hgd : o.guard = none) (s x : Operand) (hop : o.op = .call { callee := .builtin .append, args := #[s, x], argTypes := #[24, 9] }) (v : Value) (hs : a.eval s = v) (hv : V0 W v) (y : ByteArray) (hx : a.eval x = .string y) (hy : y.size ≤ 2147483647)
    (h : ∀ v1 w1, Below W.heap.size W w1 → (∀ (b : Nat) (ok : Nat → Prop), (∀ j, v.ownBlock = some j → b ≤ j ∧ ok j) → b ≤ W.heap.size → ok W.heap.size → Kd.R (Kd.int .u8) 5 w1 b ok v1 (toI y.data.toList)) → wpList Try.prog ops Q rest (a.put o.dst v1) w1) : wpList Try.prog ops Q (o :: rest) a W := by
  obtain ⟨v1, w1, hrun, hb, hr⟩ := str0_run W v hv y hy o.type
  refine wpList_plain hgd fun K hK => ?_
  unfold Oper.wp
  simp [execOp, hop, resolve, invoke, builtin, hs, hx, hrun, Result.andThen]
  exact hK _ _ (h v1 w1 hb hr)
end
def valIf (nb : Bool) (l : List UInt8) : List UInt8 := if nb then [] else l
/-- What is told of one more argument. -/
def GivePost (w : World) (v : Value) (es : List AE) (fin : List En) (x : En) (e : Ending) (w' : World) : Prop :=
  ∃ g C e', e = .returned (.slice (some ⟨g, 0, none⟩) (es.length + 1) C) ∧ AR w' (.slice (some ⟨g, 0, none⟩) (es.length + 1) C) (es ++ [e']) ∧ FIN w' w'.heap.size (es ++ [e']) (fin ++ [x]) ∧ (v.ownBlock = some g ∨ w.heap.size ≤ g) ∧ OnlS (fun k => v.ownBlock = some k) w w'
theorem AR.typed {w : World} {v : Value} {es : List AE} (h : AR w v es) {j : Nat} (hj : v.ownBlock = some j) : ∀ cells, w.heap[j]? ≠ some (.cells cells 5 (0, 0)) := by
  rcases h with ⟨rfl, _⟩ | ⟨g, C, rfl, _, _, h3⟩
  · cases hj
  · intro cells hc
    have : g = j := by simpa [Value.ownBlock] using hj
    subst this
    obtain ⟨C', hC', _⟩ := h3
    rw [hC'] at hc
    cases hc
theorem give_end {g0 : Nat} {w w2 W' : World} {v : Value} {es : List AE} {b g C : Nat} {fin : List En} {k' v' : Value} {key val : List UInt8} {nb : Bool} (hR : AR w v es) (hF : FIN w b es fin) (hB : b ≤ w.heap.size) (a1 : v.ownBlock = some g ∨ w.heap.size ≤ g) (a3 : es.length + 1 ≤ C) (a4 : C ≤ maxLen) (a7 : OnlS (fun k => v.ownBlock = some k) w w2)
    (hab : AB W' g ((es ++ [slot g0] ++ List.replicate (C - (es.length + 1)) aeZ).set es.length ⟨k', v', nb⟩)) (hk : Kd.R (Kd.int .u8) 5 W' 0 (fun j => j < W'.heap.size) k' (toI key)) (hv : Kd.R (Kd.int .u8) 5 W' 0 (fun j => j < W'.heap.size) v' (toI val)) (ho : OnlS (fun j => j = g) w2 W') : GivePost w v es fin (key, val, nb) (.returned (.slice (some ⟨g, 0, none⟩) (es.length + 1) C)) W' := by
  rw [set_mid] at hab
  have hon : OnlS (fun k => v.ownBlock = some k) w W' := a7.trans' ho fun i hi e => by
    have e : i = g := e
    rcases a1 with h | h
    · show v.ownBlock = some i; rw [e]; exact h
    · omega
  refine ⟨g, C, ⟨k', v', nb⟩, rfl, .inr ⟨g, C, by simp, by simpa using a3, a4, by simpa using hab⟩, ?_, a1, hon⟩
  refine FIN.snoc hk hv rfl (FIN.more (Nat.le_trans hB hon.size) (FIN.move (fun j cells hj hc => hon.block j (by omega) fun e => hR.typed e cells hc) hF))
set_option maxHeartbeats 16000000 in
set_option maxRecDepth 100000 in
theorem give_calls (w : World) (v : Value) (es : List AE) (b : Nat) (fin : List En) (key val : ByteArray) (nb : Bool) (h : AR w v es) (hf : FIN w b es fin) (hb : b ≤ w.heap.size) (hn : es.length ≤ 2147483647) (hk : key.size ≤ 2147483647) (hv : val.size ≤ 2147483647) :
    Calls Try.prog 89 #[v, .string key, .string val, .bool nb] w (GivePost w v es fin (key.data.toList, valIf nb val.data.toList, nb)) := by
  obtain ⟨i0, hi0, _, hsz0, _⟩ := info_parts info5
  have HR := Aside0.mk h
  have HF := Aside0.mk hf
  have HB := Aside0.mk hb
  have HN := Aside0.mk hn
  have HK := Aside0.mk hk
  have HV := Aside0.mk hv
  have HCK := cutUp (P := Try.prog) Try.underlying24 hi0 none 0 0 0 (0 : Int) rfl (Nat.zero_le _)
  clear h hf hb hn hk hv
  go_enter Try.func89, Try.ntmps89
  go_upto_region 3 with (first | ((with_reducible refine gate_callee (f := 104) rfl ?_); refine goesL_ (some 12) rfl rfl Try.func104 (by kernel_rfl) rfl #[v] rfl (by (try simp only [List.map_toArray, List.map_cons, List.map_nil]); first | done | rfl) ?_; refine (alloc_calls w v es HR.out (by have := HN.out; omega)).mono ?_; rintro e w2 ⟨g, C, g0, rfl, a1, a2, a3, a4, a5, a6, a7⟩; refine ⟨_, rfl, ?_⟩; have A1 := Aside0.mk a1; have A2 := Aside0.mk a2; have A3 := Aside0.mk a3; have A4 := Aside0.mk a4; have A5 := Aside0.mk a5; have A6 := Aside0.mk a6; have A7 := Aside0.mk a7; clear a1 a2 a3 a4 a5 a6 a7))
  have hab := A6.out
  rw [← set_mid es (slot g0) (slot g0)] at hab
  have hnl : es.length < (es ++ [slot g0] ++ List.replicate (C - (es.length + 1)) aeZ).length := by simp
  have HAB := Aside0.mk hab
  have HNL := Aside0.mk hnl
  obtain ⟨f0, f1, f2⟩ := hab.at_ hnl
  have fk0 : w2.cell? ⟨g, es.length * 3, none⟩ = some (.slice none 0 0) := f0
  clear hab hnl f0 f1 f2
  go_upto_region 4 with (first | ((with_reducible refine gate_builtin (b := .append) (xs := #[.tmp 20, .tmp 21]) rfl ?_); at_builtin; refine append_s0 rfl (.tmp 20) (.tmp 21) rfl (.slice none 0 0) rfl (.inl rfl) key rfl HK.out ?_; intro v3 w3 hb3 hr3; have hR3 := hr3 w.heap.size (fun j => w2.heap.size ≤ j) (fun j hj => by cases hj) A7.out.size (Nat.le_refl _); obtain ⟨Ak, ck, rfl⟩ := Kd.R_slice hR3; have HB3 := Aside0.mk hb3; have HR3 := Aside0.mk hR3; have ha3 := HAB.out.below hb3; have f3 := (ha3.at_ HNL.out).1; have z3 := ha3.fz (es.length * 3); clear hb3 hr3 hR3 ha3 fk0))
  refine genW2 (fun W => AB W g ((es ++ [slot g0] ++ List.replicate (C - (es.length + 1)) aeZ).set es.length ⟨.slice Ak (toI key.data.toList).length ck, (slot g0).v, false⟩) ∧ W.heap[g0]? = some (.cells #[] 5 (0, 0)) ∧ Kd.R (Kd.int .u8) 5 W 0 (fun j => w2.heap.size ≤ j) (.slice Ak (toI key.data.toList).length ck) (toI key.data.toList) ∧ OnlS (fun j => j = g) w2 W) ⟨?_, ?_, ?_, ?_⟩ ?_
  · exact (HAB.out.below HB3.out).putK HNL.out _
  · have hne : g0 ≠ g := fun e => by have h5 := A5.out; rw [e] at h5; obtain ⟨C', hC', _⟩ := A6.out; rw [hC'] at h5; cases h5
    exact (Below.heap_setCell _ _ _ _ hne).trans ((HB3.out.block g0 (Array.getElem?_eq_some_iff.1 A5.out).1).trans A5.out)
  · obtain ⟨C', hC', _⟩ := HAB.out.below HB3.out
    exact Kd.R_set (Kd.R_lower HR3.out (Nat.zero_le _)) hC' (by decide) _ _
  · exact OnlS.set (S := fun j => j = g) (OnlS.of_below HB3.out (fun j h1 h2 => by omega)) (.inl rfl) _ _
  clear f3 z3 HR3 HB3
  intro W hW
  obtain ⟨h1, h2, h3, h4⟩ := hW
  obtain ⟨f0, f1, f2⟩ := h1.at_ HNL.out
  have fv : W.cell? ⟨g, es.length * 3 + 1, none⟩ = some (.slice (some ⟨g0, 0, none⟩) 0 0) := f1
  have fb : W.cell? ⟨g, es.length * 3 + 2, none⟩ = some (.bool false) := f2
  have zv := h1.fz (es.length * 3 + 1)
  have zb := h1.fz (es.length * 3 + 2)
  have HCV := cutUp (P := Try.prog) Try.underlying24 hi0 (some ⟨g0, 0, none⟩) 0 0 0 (0 : Int) rfl (Nat.zero_le _)
  have H1 := Aside0.mk h1
  have H2 := Aside0.mk h2
  have H3 := Aside0.mk h3
  have H4 := Aside0.mk h4
  have HG0 : Aside0 (g0 < w2.heap.size) := ⟨(Array.getElem?_eq_some_iff.1 A5.out).1⟩
  clear h1 h2 h3 h4 f0 f1 f2
  cases nb with
  | true =>
    go_wp2
    go_ret
    have hab2 := (H1.out.putV HNL.out (.slice (some ⟨g0, 0, none⟩) 0 0)).putB HNL.out true
    obtain ⟨C', hC', _⟩ := H1.out
    obtain ⟨C2, hC2, _⟩ := H1.out.putV HNL.out (.slice (some ⟨g0, 0, none⟩) 0 0)
    have hk2 := Kd.R_set (Kd.R_set H3.out hC' (by decide) (es.length * 3 + 1) (.slice (some ⟨g0, 0, none⟩) 0 0)) hC2 (by decide) (es.length * 3 + 2) (.bool true)
    have hv2 := Kd.R_set (Kd.R_set (R_slot (b := 0) (ok := fun j => j = g0) H2.out (Nat.zero_le _) rfl) hC' (by decide) (es.length * 3 + 1) (.slice (some ⟨g0, 0, none⟩) 0 0)) hC2 (by decide) (es.length * 3 + 2) (.bool true)
    have hon2 := OnlS.set (S := fun j => j = g) (OnlS.set (S := fun j => j = g) H4.out (.inl rfl) (es.length * 3 + 1) (.slice (some ⟨g0, 0, none⟩) 0 0)) (.inl rfl) (es.length * 3 + 2) (.bool true)
    exact give_end HR.out HF.out HB.out A1.out A3.out A4.out A7.out hab2 (Kd.R_mono (Kd.R_bound hk2) fun j hj => hj.2.2.1) (Kd.R_mono (Kd.R_bound hv2) fun j hj => hj.2.2.1) hon2
  | false =>
    go_wp2_with (first | ((with_reducible refine gate_builtin (b := .append) (xs := #[.tmp 39, .tmp 40]) rfl ?_); at_builtin; refine append_s0 rfl (.tmp 39) (.tmp 40) rfl (.slice (some ⟨g0, 0, none⟩) 0 0) rfl (.inr ⟨g0, rfl, H2.out⟩) val rfl HV.out ?_; intro v5 w5 hb5 hr5; have hR5 := hr5 0 (fun j => True) (fun j hj => ⟨Nat.zero_le _, trivial⟩) (Nat.zero_le _) trivial; obtain ⟨Av, cv, rfl⟩ := Kd.R_slice hR5; have HB5 := Aside0.mk hb5; have HR5 := Aside0.mk hR5; have ha5 := H1.out.below hb5; have H5 := Aside0.mk ha5; have f5 := (ha5.at_ HNL.out).2.1; have f5b := (ha5.at_ HNL.out).2.2; have z5 := ha5.fz (es.length * 3 + 1); have z5b := ha5.fz (es.length * 3 + 2); clear hb5 hr5 hR5 ha5 fv fb zv zb))
    go_ret
    have hab2 := (H5.out.putV HNL.out (.slice Av (toI val.data.toList).length cv)).putB HNL.out false
    obtain ⟨C', hC', _⟩ := H5.out
    obtain ⟨C2, hC2, _⟩ := H5.out.putV HNL.out (.slice Av (toI val.data.toList).length cv)
    have hk2 := Kd.R_set (Kd.R_set (Kd.R_below H3.out HB5.out) hC' (by decide) (es.length * 3 + 1) (.slice Av (toI val.data.toList).length cv)) hC2 (by decide) (es.length * 3 + 2) (.bool false)
    have hv2 := Kd.R_set (Kd.R_set HR5.out hC' (by decide) (es.length * 3 + 1) (.slice Av (toI val.data.toList).length cv)) hC2 (by decide) (es.length * 3 + 2) (.bool false)
    have hon2 := OnlS.set (S := fun j => j = g) (OnlS.set (S := fun j => j = g) (H4.out.trans (OnlS.of_below HB5.out (fun j h1 h2 => by omega))) (.inl rfl) (es.length * 3 + 1) (.slice Av (toI val.data.toList).length cv)) (.inl rfl) (es.length * 3 + 2) (.bool false)
    exact give_end HR.out HF.out HB.out A1.out A3.out A4.out A7.out hab2 (Kd.R_mono (Kd.R_bound hk2) fun j hj => hj.2.2.1) (Kd.R_mono (Kd.R_bound hv2) fun j hj => hj.2.2.1) hon2
end Go.Proofs.Ytipmmjbjgbfgjaa.Q
