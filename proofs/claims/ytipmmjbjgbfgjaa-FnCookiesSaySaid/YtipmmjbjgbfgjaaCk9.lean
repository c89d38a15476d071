/- The text of a request's cookies: appendRequestCookieBytes. -/
import Derived.Test.YtipmmjbjgbfgjaaAr6g
import Derived.Test.YtipmmjbjgbfgjaaAr7
namespace Go.Proofs.Ytipmmjbjgbfgjaa.Q
open Go.RowKit Go.Proofs.YtipmmjbjgbfgjaaW.PrintWords Go.Proofs.YtipmmjbjgbfgjaaW.PrintLast Go.Proofs.YtipmmjbjgbfgjaaW.PrintMore
open Go.Proofs.Ytipmmjbjgbfgjaa.SpA (toI toI_length toI_append)
set_option linter.unusedVariables false
set_option linter.unusedSimpArgs false
def itemC (x : En) : List UInt8 := (if x.1 = [] then [] else x.1 ++ [61]) ++ x.2.1
/-- The text of cookies. -/
def ckText : List En → List UInt8
  | [] => []
  | x :: r => itemC x ++ (if r = [] then [] else [59, 32]) ++ ckText r
theorem ckText_get : ∀ (l : List En) (i : Nat) (h : i < l.length), ckText (l.drop i) = itemC l[i] ++ (if i + 1 < l.length then [59, 32] else []) ++ ckText (l.drop (i + 1)) := by
  intro l i h
  rw [List.drop_eq_getElem_cons h, ckText]
  by_cases hl : i + 1 < l.length
  · rw [if_neg (by intro e; have := congrArg List.length e; simp at this; omega), if_pos hl]
  · rw [if_pos (List.drop_of_length_le (by omega)), if_neg hl]
theorem row_C {w W : World} {b n c : Nat} {A : Option Addr} {l : List UInt8} (h : Kd.R (Kd.int .u8) 5 w 0 (fun j => j < b) (.slice A n c) (toI l)) (hB : Below w.heap.size w W) : Kd.C (Kd.int .u8) W A n (toI l) := by
  obtain ⟨hn, _, hc⟩ := Kd.R_reads' (Kd.R_below h hB)
  rw [hn]; exact hc
theorem two_C (W : World) : Kd.C (Kd.int .u8) (W.alloc (.cells #[.int .u8 59, .int .u8 32] 5)) (some ⟨W.heap.size, 0, none⟩) 2 (toI [59, 32]) := by
  refine Kd.C_of_reads (enc := Value.int .u8) (d := (0 : Int)) (h1 := fun _ => rfl) ⟨rfl, by decide, fun _ => ⟨_, rfl, fun j hj => ?_⟩⟩
  rw [addr_add', Nat.zero_add]
  have hz := heap_alloc_new W (.cells #[.int .u8 59, .int .u8 32] 5)
  unfold World.cell?
  rw [hz]
  match j, hj with
  | 0, _ => rfl
  | 1, _ => rfl
set_option maxHeartbeats 16000000 in
set_option maxRecDepth 100000 in
theorem acb_calls (w : World) (b : Nat) (v : Value) (es : List AE) (fin : List En) (har : AR w v es) (hv : ∃ A C, v = .slice A es.length C) (hf : FIN w b es fin) (hb : b ≤ w.heap.size) (ht : (ckText fin).length ≤ 1000000000000) (hn : es.length ≤ 2147483647) :
    Calls Try.prog 90 #[.slice none 0 0, v] w fun e w' => ∃ v', e = .returned v' ∧ Kd.R (Kd.int .u8) 5 w' w.heap.size (fun _ => True) v' (toI (ckText fin)) ∧ Below w.heap.size w w' := by
  obtain ⟨A, C, rfl⟩ := hv
  have HAR := Aside0.mk har
  have HF := Aside0.mk hf
  have HT := Aside0.mk ht
  have HN := Aside0.mk hn
  clear har hf hb ht hn
  go_enter Try.func90, Try.ntmps90
  go_wp2
  go_loopw [0, 5] (fun v0 v5 wr => ∃ (i : Nat) (acc : List UInt8), v5 = .int .i64 (i : Int) ∧ Aside0 (i ≤ es.length) ∧ Aside0 (Kd.R (Kd.int .u8) 5 wr w.heap.size (fun _ => True) v0 (toI acc)) ∧ Aside0 (Below w.heap.size w wr) ∧ Aside0 (acc ++ ckText (fin.drop i) = ckText fin)) (fun _ v5 _ => es.length - natV v5)
  case atStart => exact ⟨0, [], rfl, ⟨Nat.zero_le _⟩, ⟨Kd.R_nil _ _ _ _ _⟩, ⟨by first | exact Below.refl _ _ | exact pw_below_drewN (Below.refl _ _) _⟩, ⟨rfl⟩⟩
  case round =>
    obtain ⟨i, acc, rfl, HI, HO, HB, HALL⟩ := hrel
    by_cases hi : i < es.length
    · have b2 : decide ((i : Int) < (es.length : Int)) = true := decide_eq_true (by omega)
      have p1 : (0 ≤ (i : Int)) = True := eq_true (by omega)
      have q1 : ((i : Int) < (es.length : Int)) = True := eq_true (by omega)
      obtain ⟨g, hg⟩ : ∃ g, A = some ⟨g, 0, none⟩ := by
        rcases HAR.out with ⟨h1, h2⟩ | ⟨g, C', h1, _⟩
        · rw [h2] at hi; simp at hi
        · exact ⟨g, by cases h1; rfl⟩
      subst hg
      have hab0 : AB w g (es ++ List.replicate (C - es.length) aeZ) := by
        rcases HAR.out with ⟨h1, h2⟩ | ⟨g', C', h1, _, _, h3⟩
        · cases h1
        · cases h1; exact h3
      have hi2 : i < fin.length := by rw [← HF.out.length]; exact hi
      obtain ⟨hk, hv, hbb⟩ := HF.out.get i hi hi2
      obtain ⟨x, hx⟩ : ∃ x, x = fin[i] := ⟨_, rfl⟩
      have htx := ckText_get fin i hi2
      rw [← hx] at hk hv hbb htx
      clear hx
      obtain ⟨kx, vx, bx⟩ := x
      have hie : i < (es ++ List.replicate (C - es.length) aeZ).length := by simp; omega
      have hget : (es ++ List.replicate (C - es.length) aeZ)[i] = es[i] := List.getElem_append_left hi
      obtain ⟨Ak, ck, hkv⟩ := Kd.R_slice hk
      obtain ⟨Av, cv, hvv⟩ := Kd.R_slice hv
      obtain ⟨nk, hnk⟩ : ∃ n, n = (toI kx).length := ⟨_, rfl⟩
      obtain ⟨nv, hnv⟩ : ∃ n, n = (toI vx).length := ⟨_, rfl⟩
      have hkv2 : es[i].k = .slice Ak nk ck := by rw [hnk]; exact hkv
      have hvv2 : es[i].v = .slice Av nv cv := by rw [hnv]; exact hvv
      have CELLS : Aside0 (∀ W, Below w.heap.size w W → W.cell? ⟨g, i * 3, none⟩ = some (.slice Ak nk ck) ∧ W.cell? ⟨g, i * 3 + 1, none⟩ = some (.slice Av nv cv)) := ⟨fun W hW => by
        have hq_ := hab0.below hW
        have q0 := hq_.cellK i (i * 3) (by omega) hie
        have q1 := hq_.cellV i (i * 3) (by omega) hie
        rw [hget, hkv2] at q0
        rw [hget, hvv2] at q1
        exact ⟨q0, q1⟩⟩
      obtain ⟨c0, c1⟩ := CELLS.out wr HB.out
      have hk2 : Kd.R (Kd.int .u8) 5 w 0 (fun j => j < b) (.slice Ak nk ck) (toI kx) := by rw [← hkv2]; exact hk
      have hv2 : Kd.R (Kd.int .u8) 5 w 0 (fun j => j < b) (.slice Av nv cv) (toI vx) := by rw [← hvv2]; exact hv
      rw [htx] at HALL
      have hsz : (acc ++ (itemC (kx, vx, bx) ++ (if i + 1 < fin.length then [59, 32] else []) ++ ckText (fin.drop (i + 1)))).length ≤ 1000000000000 := by rw [HALL.out]; exact HT.out
      simp only [List.length_append, itemC] at hsz
      have HKR := Aside0.mk hk2
      have HVR := Aside0.mk hv2
      have HIL := Aside0.mk hi
      have HLN : Aside0 (nk = kx.length ∧ nv = vx.length) := ⟨by rw [hnk, hnv, toI_length, toI_length]; exact ⟨rfl, rfl⟩⟩
      have HFL : Aside0 (es.length = fin.length) := ⟨HF.out.length⟩
      have HSZ2 : Aside0 ((acc ++ kx ++ [61] ++ vx ++ [59, 32]).length ≤ 1000000000003) := ⟨by
        by_cases h0 : kx = []
        · subst h0; simp only [List.length_append, List.length_cons, List.length_nil] at hsz ⊢; omega
        · rw [if_neg h0] at hsz; simp only [List.length_append, List.length_cons, List.length_nil] at hsz ⊢; omega⟩
      have wx : wrap64 ((i : Int) + 1) = (i : Int) + 1 := by have := HN.out; unfold wrap64; omega
      clear hk hv hk2 hv2 hbb htx hget hkv hvv hkv2 hvv2 hie hi2 hi hsz hab0
      by_cases hlast : i + 1 < es.length
      · have bl_ : decide ((i : Int) + 1 < (es.length : Int)) = true := decide_eq_true (by omega)
        cases nk with
        | zero =>
          have hkx : kx = [] := List.length_eq_zero_iff.1 (by rw [toI_length] at hnk; exact hnk.symm)
          have HNX : Aside0 ((acc ++ vx) ++ [59, 32] ++ ckText (fin.drop (i + 1)) = ckText fin) := ⟨by have h_ := HALL.out; rw [if_pos (by rw [← HFL.out]; exact hlast)] at h_; simpa [itemC, hkx] using h_⟩
          clear hlast hnk hnv hkx
          go_wp2_with (first | ((with_reducible refine gate_builtin (b := .append) (xs := #[.tmp 33, .tmp 37]) rfl ?_); at_builtin; refine Kd.R_append_rows (Kd.int .u8) (w0 := w) w.heap.size rfl (.tmp 33) (.tmp 37) 24 5 (.int .u8 0) 1 rfl Try.underlying24 info5 rfl (by decide) (by omega) u0 (toI (acc)) (toI (vx)) _ _ _ (fun _ => True) (fun _ => False) rfl rfl ?aO ?aR (fun _ _ h => h) (fun _ h => h.elim) ?aF ?aB ?aS ?aL ?_; (case aR => repeat (first | exact row_C HVR.out HB.out | (with_reducible refine Kd.C_alloc ?_ _) | (with_reducible refine Kd.C_drewN ?_ _) | (with_reducible refine Kd.C_drew ?_))); (case aB => exact (by repeat (first | (with_reducible first | exact HB.out | apply below_alloc | apply pw_below_drewN | apply below_drew1) | exact HB.out))); (case aF => exact (fun _ _ => trivial)); (case aO => exact (by (with_reducible repeat (first | apply Kd.R_alloc | apply Kd.R_drewN | apply Kd.R_drew)); exact HO.out)); (case aS => exact (below_size (by repeat (first | (with_reducible first | exact HB.out | apply below_alloc | apply pw_below_drewN | apply below_drew1) | exact HB.out)))); (case aL => have hz_ := HSZ2.out; have hn_ := HLN.out; rw [toI_length]; simp only [List.length_append, List.length_cons, List.length_nil] at hz_ ⊢; omega); intro v7 w7 ho hb hg hat; have HO7 : Aside0 (Kd.R (Kd.int .u8) 5 w7 w.heap.size (fun _ => True) v7 (toI (acc ++ vx))) := ⟨by rw [toI_append]; exact ho⟩; have HB7 := Aside0.mk hb; clear ho hb hg hat) | ((with_reducible refine gate_builtin (b := .append) (xs := #[.tmp 43, .tmp 44]) rfl ?_); at_builtin; refine Kd.R_append_rows (Kd.int .u8) (w0 := w) w.heap.size rfl (.tmp 43) (.tmp 44) 24 5 (.int .u8 0) 1 rfl Try.underlying24 info5 rfl (by decide) (by omega) v7 (toI (acc ++ vx)) (toI ([59, 32])) _ _ _ (fun _ => True) (fun _ => False) rfl rfl ?aO ?aR (fun _ _ h => h) (fun _ h => h.elim) ?aF ?aB ?aS ?aL ?_; (case aR => exact two_C _); (case aB => exact (by repeat (first | (with_reducible first | exact HB7.out | apply below_alloc | apply pw_below_drewN | apply below_drew1) | exact HB7.out))); (case aF => exact (fun _ _ => trivial)); (case aO => exact (by (with_reducible repeat (first | apply Kd.R_alloc | apply Kd.R_drewN | apply Kd.R_drew)); exact HO7.out)); (case aS => exact (below_size (by repeat (first | (with_reducible first | exact HB7.out | apply below_alloc | apply pw_below_drewN | apply below_drew1) | exact HB7.out)))); (case aL => have hz_ := HSZ2.out; have hn_ := HLN.out; rw [toI_length]; simp only [List.length_append, List.length_cons, List.length_nil] at hz_ ⊢; omega); intro vz wz ho hb hg hat; have HOz : Aside0 (Kd.R (Kd.int .u8) 5 wz w.heap.size (fun _ => True) vz (toI (acc ++ vx ++ [59, 32]))) := ⟨by rw [toI_append]; exact ho⟩; have HBz := Aside0.mk hb; clear ho hb hg hat))
          go_roundw
          case measure => have h1_ := HIL.out; simp only [natV]; try rw [wx]; omega
          case rel => exact ⟨i + 1, _, by first | rfl | (rw [wx]; rfl), ⟨HIL.out⟩, HOz, HBz, HNX⟩
        | succ mk =>
          have hkx : kx ≠ [] := fun e => by rw [e] at hnk; simp [toI] at hnk
          have HNX : Aside0 ((acc ++ kx ++ [61] ++ vx) ++ [59, 32] ++ ckText (fin.drop (i + 1)) = ckText fin) := ⟨by have h_ := HALL.out; rw [if_pos (by rw [← HFL.out]; exact hlast)] at h_; simpa [itemC, hkx] using h_⟩
          clear hlast hnk hnv hkx
          go_upto_region 8 with (first | ((with_reducible refine gate_builtin (b := .append) (xs := #[.tmp 24, .tmp 28]) rfl ?_); at_builtin; refine Kd.R_append_rows (Kd.int .u8) (w0 := w) w.heap.size rfl (.tmp 24) (.tmp 28) 24 5 (.int .u8 0) 1 rfl Try.underlying24 info5 rfl (by decide) (by omega) u0 (toI (acc)) (toI (kx)) _ _ _ (fun _ => True) (fun _ => False) rfl rfl ?aO ?aR (fun _ _ h => h) (fun _ h => h.elim) ?aF ?aB ?aS ?aL ?_; (case aR => repeat (first | exact row_C HKR.out HB.out | (with_reducible refine Kd.C_alloc ?_ _) | (with_reducible refine Kd.C_drewN ?_ _) | (with_reducible refine Kd.C_drew ?_))); (case aB => exact (by repeat (first | (with_reducible first | exact HB.out | apply below_alloc | apply pw_below_drewN | apply below_drew1) | exact HB.out))); (case aF => exact (fun _ _ => trivial)); (case aO => exact (by (with_reducible repeat (first | apply Kd.R_alloc | apply Kd.R_drewN | apply Kd.R_drew)); exact HO.out)); (case aS => exact (below_size (by repeat (first | (with_reducible first | exact HB.out | apply below_alloc | apply pw_below_drewN | apply below_drew1) | exact HB.out)))); (case aL => have hz_ := HSZ2.out; have hn_ := HLN.out; rw [toI_length]; simp only [List.length_append, List.length_cons, List.length_nil] at hz_ ⊢; omega); intro v5 w5 ho hb hg hat; have HO5 : Aside0 (Kd.R (Kd.int .u8) 5 w5 w.heap.size (fun _ => True) v5 (toI (acc ++ kx))) := ⟨by rw [toI_append]; exact ho⟩; have HB5 := Aside0.mk hb; clear ho hb hg hat) | ((with_reducible refine gate_builtin (b := .append) (xs := #[.tmp 30, .tmp 31]) rfl ?_); at_builtin; refine Kd.R_append (Kd.int .u8) (w0 := w) w.heap.size rfl (.tmp 30) (.tmp 31) 24 5 (.int .u8 0) 1 rfl Try.underlying24 info5 rfl (by decide) (by omega) v5 (toI (acc ++ kx)) 61 [.int .u8 61] (fun _ => True) (fun _ => False) rfl rfl ?aP (fun _ hk => hk.elim) ?aF ?aO ?aB ?aS ?aL ?_; (case aP => exact rfl); (case aB => exact (by repeat (first | (with_reducible first | exact HB5.out | apply below_alloc | apply pw_below_drewN | apply below_drew1) | exact HB5.out))); (case aF => exact (fun _ _ => trivial)); (case aO => exact (by (with_reducible repeat (first | apply Kd.R_alloc | apply Kd.R_drewN | apply Kd.R_drew)); exact HO5.out)); (case aS => exact (below_size (by repeat (first | (with_reducible first | exact HB5.out | apply below_alloc | apply pw_below_drewN | apply below_drew1) | exact HB5.out)))); (case aL => have hz_ := HSZ2.out; rw [toI_length]; simp only [List.length_append, List.length_cons, List.length_nil] at hz_ ⊢; omega); intro v6 w6 ho hb hg hat; have HO6 : Aside0 (Kd.R (Kd.int .u8) 5 w6 w.heap.size (fun _ => True) v6 (toI (acc ++ kx ++ [61]))) := ⟨by have e_ : toI (acc ++ kx ++ [61]) = toI (acc ++ kx) ++ [61] := (by rw [toI_append]; rfl); rw [e_]; exact ho⟩; have HB6 := Aside0.mk hb; clear ho hb hg hat))
          obtain ⟨d0, d1⟩ := CELLS.out w6 HB6.out
          go_wp2_with (first | ((with_reducible refine gate_builtin (b := .append) (xs := #[.tmp 33, .tmp 37]) rfl ?_); at_builtin; refine Kd.R_append_rows (Kd.int .u8) (w0 := w) w.heap.size rfl (.tmp 33) (.tmp 37) 24 5 (.int .u8 0) 1 rfl Try.underlying24 info5 rfl (by decide) (by omega) v6 (toI (acc ++ kx ++ [61])) (toI (vx)) _ _ _ (fun _ => True) (fun _ => False) rfl rfl ?aO ?aR (fun _ _ h => h) (fun _ h => h.elim) ?aF ?aB ?aS ?aL ?_; (case aR => repeat (first | exact row_C HVR.out HB6.out | (with_reducible refine Kd.C_alloc ?_ _) | (with_reducible refine Kd.C_drewN ?_ _) | (with_reducible refine Kd.C_drew ?_))); (case aB => exact (by repeat (first | (with_reducible first | exact HB6.out | apply below_alloc | apply pw_below_drewN | apply below_drew1) | exact HB6.out))); (case aF => exact (fun _ _ => trivial)); (case aO => exact (by (with_reducible repeat (first | apply Kd.R_alloc | apply Kd.R_drewN | apply Kd.R_drew)); exact HO6.out)); (case aS => exact (below_size (by repeat (first | (with_reducible first | exact HB6.out | apply below_alloc | apply pw_below_drewN | apply below_drew1) | exact HB6.out)))); (case aL => have hz_ := HSZ2.out; have hn_ := HLN.out; rw [toI_length]; simp only [List.length_append, List.length_cons, List.length_nil] at hz_ ⊢; omega); intro v7 w7 ho hb hg hat; have HO7 : Aside0 (Kd.R (Kd.int .u8) 5 w7 w.heap.size (fun _ => True) v7 (toI (acc ++ kx ++ [61] ++ vx))) := ⟨by rw [toI_append]; exact ho⟩; have HB7 := Aside0.mk hb; clear ho hb hg hat) | ((with_reducible refine gate_builtin (b := .append) (xs := #[.tmp 43, .tmp 44]) rfl ?_); at_builtin; refine Kd.R_append_rows (Kd.int .u8) (w0 := w) w.heap.size rfl (.tmp 43) (.tmp 44) 24 5 (.int .u8 0) 1 rfl Try.underlying24 info5 rfl (by decide) (by omega) v7 (toI (acc ++ kx ++ [61] ++ vx)) (toI ([59, 32])) _ _ _ (fun _ => True) (fun _ => False) rfl rfl ?aO ?aR (fun _ _ h => h) (fun _ h => h.elim) ?aF ?aB ?aS ?aL ?_; (case aR => exact two_C _); (case aB => exact (by repeat (first | (with_reducible first | exact HB7.out | apply below_alloc | apply pw_below_drewN | apply below_drew1) | exact HB7.out))); (case aF => exact (fun _ _ => trivial)); (case aO => exact (by (with_reducible repeat (first | apply Kd.R_alloc | apply Kd.R_drewN | apply Kd.R_drew)); exact HO7.out)); (case aS => exact (below_size (by repeat (first | (with_reducible first | exact HB7.out | apply below_alloc | apply pw_below_drewN | apply below_drew1) | exact HB7.out)))); (case aL => have hz_ := HSZ2.out; have hn_ := HLN.out; rw [toI_length]; simp only [List.length_append, List.length_cons, List.length_nil] at hz_ ⊢; omega); intro vz wz ho hb hg hat; have HOz : Aside0 (Kd.R (Kd.int .u8) 5 wz w.heap.size (fun _ => True) vz (toI (acc ++ kx ++ [61] ++ vx ++ [59, 32]))) := ⟨by rw [toI_append]; exact ho⟩; have HBz := Aside0.mk hb; clear ho hb hg hat))
          go_roundw
          case measure => have h1_ := HIL.out; simp only [natV]; try rw [wx]; omega
          case rel => exact ⟨i + 1, _, by first | rfl | (rw [wx]; rfl), ⟨HIL.out⟩, HOz, HBz, HNX⟩
      · have bl_ : decide ((i : Int) + 1 < (es.length : Int)) = false := decide_eq_false (by omega)
        cases nk with
        | zero =>
          have hkx : kx = [] := List.length_eq_zero_iff.1 (by rw [toI_length] at hnk; exact hnk.symm)
          have HNX : Aside0 ((acc ++ vx) ++ ckText (fin.drop (i + 1)) = ckText fin) := ⟨by have h_ := HALL.out; rw [if_neg (by rw [← HFL.out]; exact hlast)] at h_; simpa [itemC, hkx] using h_⟩
          clear hlast hnk hnv hkx
          go_wp2_with (first | ((with_reducible refine gate_builtin (b := .append) (xs := #[.tmp 33, .tmp 37]) rfl ?_); at_builtin; refine Kd.R_append_rows (Kd.int .u8) (w0 := w) w.heap.size rfl (.tmp 33) (.tmp 37) 24 5 (.int .u8 0) 1 rfl Try.underlying24 info5 rfl (by decide) (by omega) u0 (toI (acc)) (toI (vx)) _ _ _ (fun _ => True) (fun _ => False) rfl rfl ?aO ?aR (fun _ _ h => h) (fun _ h => h.elim) ?aF ?aB ?aS ?aL ?_; (case aR => repeat (first | exact row_C HVR.out HB.out | (with_reducible refine Kd.C_alloc ?_ _) | (with_reducible refine Kd.C_drewN ?_ _) | (with_reducible refine Kd.C_drew ?_))); (case aB => exact (by repeat (first | (with_reducible first | exact HB.out | apply below_alloc | apply pw_below_drewN | apply below_drew1) | exact HB.out))); (case aF => exact (fun _ _ => trivial)); (case aO => exact (by (with_reducible repeat (first | apply Kd.R_alloc | apply Kd.R_drewN | apply Kd.R_drew)); exact HO.out)); (case aS => exact (below_size (by repeat (first | (with_reducible first | exact HB.out | apply below_alloc | apply pw_below_drewN | apply below_drew1) | exact HB.out)))); (case aL => have hz_ := HSZ2.out; have hn_ := HLN.out; rw [toI_length]; simp only [List.length_append, List.length_cons, List.length_nil] at hz_ ⊢; omega); intro v7 w7 ho hb hg hat; have HO7 : Aside0 (Kd.R (Kd.int .u8) 5 w7 w.heap.size (fun _ => True) v7 (toI (acc ++ vx))) := ⟨by rw [toI_append]; exact ho⟩; have HB7 := Aside0.mk hb; clear ho hb hg hat))
          go_roundw
          case measure => have h1_ := HIL.out; simp only [natV]; try rw [wx]; omega
          case rel => exact ⟨i + 1, _, by first | rfl | (rw [wx]; rfl), ⟨HIL.out⟩, HO7, HB7, HNX⟩
        | succ mk =>
          have hkx : kx ≠ [] := fun e => by rw [e] at hnk; simp [toI] at hnk
          have HNX : Aside0 ((acc ++ kx ++ [61] ++ vx) ++ ckText (fin.drop (i + 1)) = ckText fin) := ⟨by have h_ := HALL.out; rw [if_neg (by rw [← HFL.out]; exact hlast)] at h_; simpa [itemC, hkx] using h_⟩
          clear hlast hnk hnv hkx
          go_upto_region 8 with (first | ((with_reducible refine gate_builtin (b := .append) (xs := #[.tmp 24, .tmp 28]) rfl ?_); at_builtin; refine Kd.R_append_rows (Kd.int .u8) (w0 := w) w.heap.size rfl (.tmp 24) (.tmp 28) 24 5 (.int .u8 0) 1 rfl Try.underlying24 info5 rfl (by decide) (by omega) u0 (toI (acc)) (toI (kx)) _ _ _ (fun _ => True) (fun _ => False) rfl rfl ?aO ?aR (fun _ _ h => h) (fun _ h => h.elim) ?aF ?aB ?aS ?aL ?_; (case aR => repeat (first | exact row_C HKR.out HB.out | (with_reducible refine Kd.C_alloc ?_ _) | (with_reducible refine Kd.C_drewN ?_ _) | (with_reducible refine Kd.C_drew ?_))); (case aB => exact (by repeat (first | (with_reducible first | exact HB.out | apply below_alloc | apply pw_below_drewN | apply below_drew1) | exact HB.out))); (case aF => exact (fun _ _ => trivial)); (case aO => exact (by (with_reducible repeat (first | apply Kd.R_alloc | apply Kd.R_drewN | apply Kd.R_drew)); exact HO.out)); (case aS => exact (below_size (by repeat (first | (with_reducible first | exact HB.out | apply below_alloc | apply pw_below_drewN | apply below_drew1) | exact HB.out)))); (case aL => have hz_ := HSZ2.out; have hn_ := HLN.out; rw [toI_length]; simp only [List.length_append, List.length_cons, List.length_nil] at hz_ ⊢; omega); intro v5 w5 ho hb hg hat; have HO5 : Aside0 (Kd.R (Kd.int .u8) 5 w5 w.heap.size (fun _ => True) v5 (toI (acc ++ kx))) := ⟨by rw [toI_append]; exact ho⟩; have HB5 := Aside0.mk hb; clear ho hb hg hat) | ((with_reducible refine gate_builtin (b := .append) (xs := #[.tmp 30, .tmp 31]) rfl ?_); at_builtin; refine Kd.R_append (Kd.int .u8) (w0 := w) w.heap.size rfl (.tmp 30) (.tmp 31) 24 5 (.int .u8 0) 1 rfl Try.underlying24 info5 rfl (by decide) (by omega) v5 (toI (acc ++ kx)) 61 [.int .u8 61] (fun _ => True) (fun _ => False) rfl rfl ?aP (fun _ hk => hk.elim) ?aF ?aO ?aB ?aS ?aL ?_; (case aP => exact rfl); (case aB => exact (by repeat (first | (with_reducible first | exact HB5.out | apply below_alloc | apply pw_below_drewN | apply below_drew1) | exact HB5.out))); (case aF => exact (fun _ _ => trivial)); (case aO => exact (by (with_reducible repeat (first | apply Kd.R_alloc | apply Kd.R_drewN | apply Kd.R_drew)); exact HO5.out)); (case aS => exact (below_size (by repeat (first | (with_reducible first | exact HB5.out | apply below_alloc | apply pw_below_drewN | apply below_drew1) | exact HB5.out)))); (case aL => have hz_ := HSZ2.out; rw [toI_length]; simp only [List.length_append, List.length_cons, List.length_nil] at hz_ ⊢; omega); intro v6 w6 ho hb hg hat; have HO6 : Aside0 (Kd.R (Kd.int .u8) 5 w6 w.heap.size (fun _ => True) v6 (toI (acc ++ kx ++ [61]))) := ⟨by have e_ : toI (acc ++ kx ++ [61]) = toI (acc ++ kx) ++ [61] := (by rw [toI_append]; rfl); rw [e_]; exact ho⟩; have HB6 := Aside0.mk hb; clear ho hb hg hat))
          obtain ⟨d0, d1⟩ := CELLS.out w6 HB6.out
          go_wp2_with (first | ((with_reducible refine gate_builtin (b := .append) (xs := #[.tmp 33, .tmp 37]) rfl ?_); at_builtin; refine Kd.R_append_rows (Kd.int .u8) (w0 := w) w.heap.size rfl (.tmp 33) (.tmp 37) 24 5 (.int .u8 0) 1 rfl Try.underlying24 info5 rfl (by decide) (by omega) v6 (toI (acc ++ kx ++ [61])) (toI (vx)) _ _ _ (fun _ => True) (fun _ => False) rfl rfl ?aO ?aR (fun _ _ h => h) (fun _ h => h.elim) ?aF ?aB ?aS ?aL ?_; (case aR => repeat (first | exact row_C HVR.out HB6.out | (with_reducible refine Kd.C_alloc ?_ _) | (with_reducible refine Kd.C_drewN ?_ _) | (with_reducible refine Kd.C_drew ?_))); (case aB => exact (by repeat (first | (with_reducible first | exact HB6.out | apply below_alloc | apply pw_below_drewN | apply below_drew1) | exact HB6.out))); (case aF => exact (fun _ _ => trivial)); (case aO => exact (by (with_reducible repeat (first | apply Kd.R_alloc | apply Kd.R_drewN | apply Kd.R_drew)); exact HO6.out)); (case aS => exact (below_size (by repeat (first | (with_reducible first | exact HB6.out | apply below_alloc | apply pw_below_drewN | apply below_drew1) | exact HB6.out)))); (case aL => have hz_ := HSZ2.out; have hn_ := HLN.out; rw [toI_length]; simp only [List.length_append, List.length_cons, List.length_nil] at hz_ ⊢; omega); intro v7 w7 ho hb hg hat; have HO7 : Aside0 (Kd.R (Kd.int .u8) 5 w7 w.heap.size (fun _ => True) v7 (toI (acc ++ kx ++ [61] ++ vx))) := ⟨by rw [toI_append]; exact ho⟩; have HB7 := Aside0.mk hb; clear ho hb hg hat))
          go_roundw
          case measure => have h1_ := HIL.out; simp only [natV]; try rw [wx]; omega
          case rel => exact ⟨i + 1, _, by first | rfl | (rw [wx]; rfl), ⟨HIL.out⟩, HO7, HB7, HNX⟩
    · have hil : i = es.length := by have := HI.out; omega
      subst hil
      have b2 : decide ((es.length : Int) < (es.length : Int)) = false := decide_eq_false (by omega)
      have HEND : Aside0 (acc = ckText fin) := ⟨by have h_ := HALL.out; rw [HF.out.length, List.drop_length] at h_; simpa [ckText] using h_⟩
      clear hi
      go_wp2
      go_ret
      exact ⟨_, rfl, by rw [← HEND.out]; exact HO.out, HB.out⟩
end Go.Proofs.Ytipmmjbjgbfgjaa.Q
