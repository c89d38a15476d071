/- The text of arguments: Args.AppendBytes. -/
import Derived.Test.YtjklempjljikpaaAr8
import Derived.Test.YtjklempjljikpaaSpEsA
namespace Go.Proofs.Ytjklempjljikpaa.Q
open Go.RowKit Go.Proofs.YtjklempjljikpaaW.PrintWords Go.Proofs.YtjklempjljikpaaW.PrintLast Go.Proofs.YtjklempjljikpaaW.PrintMore
open Go.Proofs.Ytjklempjljikpaa.SpA (toI toI_length toI_append decP escA)
set_option linter.unusedVariables false
set_option linter.unusedSimpArgs false
def itemT (x : En) : List UInt8 := x.1.flatMap escA ++ (if x.2.2 then [] else 61 :: x.2.1.flatMap escA)
/-- The text of arguments. -/
def textL : List En → List UInt8
  | [] => []
  | x :: r => itemT x ++ (if r = [] then [] else [38]) ++ textL r
theorem esc_ge (l : List UInt8) : l.length ≤ (l.flatMap escA).length := by
  induction l with
  | nil => simp
  | cons c t ih =>
    have : 1 ≤ (escA c).length := by unfold SpA.escA; split; simp; split <;> simp
    simp only [List.flatMap_cons, List.length_append, List.length_cons]
    omega
theorem textL_get : ∀ (l : List En) (i : Nat) (h : i < l.length), textL (l.drop i) = itemT l[i] ++ (if i + 1 < l.length then [38] else []) ++ textL (l.drop (i + 1)) := by
  intro l i h
  rw [List.drop_eq_getElem_cons h, textL]
  by_cases hl : i + 1 < l.length
  · rw [if_neg (by intro e; have := congrArg List.length e; simp at this; omega), if_pos hl]
  · rw [if_pos (List.drop_of_length_le (by omega)), if_neg hl]
theorem aq_at (w W : World) (hB : Below w.heap.size w W) (vd : Value) (acc s : List UInt8) (hR : Kd.R (Kd.int .u8) 5 W w.heap.size (fun _ => True) vd (toI acc)) (A : Option Addr) (n c b : Nat) (hb : b ≤ w.heap.size) (hs : Kd.R (Kd.int .u8) 5 w 0 (fun j => j < b) (.slice A n c) (toI s)) (hl : acc.length + 3 * s.length ≤ 100000000000000) (hl2 : s.length ≤ 1000000000000) :
    Calls Try.prog 47 #[vd, .slice A n c] W fun e w' => ∃ v', e = .returned v' ∧ Kd.R (Kd.int .u8) 5 w' w.heap.size (fun _ => True) v' (toI (acc ++ s.flatMap escA)) ∧ Below w.heap.size w w' := by
  obtain ⟨K, hK⟩ := SpA.arg_ev s acc hl2 hl
  obtain ⟨hn, hc, _⟩ := Kd.R_reads' hs
  subst hn
  refine (hertzconv_AppendQuotedArg.calls K (fun j => w.heap.size ≤ j) vd (toI acc) A c (toI s) _ w W hB (Kd.R_mono (Kd.R_bound hR) fun j hj => hj.2.1) (fun W_ hk => ?_) hc (hK K (Nat.le_refl _))).mono ?_
  · have h1 := Kd.R_below hs hB
    have h2 := Kd.R_step h1 (w1 := W_) fun j hj hl => hk.2 j hl (by show ¬ w.heap.size ≤ j; omega)
    exact (Kd.R_reads' h2).2.2
  · rintro e w' ⟨v', rfl, hr, hbl, _⟩
    exact ⟨v', rfl, Kd.R_mono hr fun _ _ => trivial, hbl⟩
set_option maxHeartbeats 16000000 in
set_option maxRecDepth 100000 in
theorem apb_calls (w : World) (ga b : Nat) (v u : Value) (es : List AE) (fin : List En) (htb : TB w ga v u) (har : AR w v es) (hv : ∃ A C, v = .slice A es.length C) (hf : FIN w b es fin) (hb : b ≤ w.heap.size) (ht : (textL fin).length ≤ 1000000000000) (hn : es.length ≤ 2147483647) :
    Calls Try.prog 68 #[.pointer (some ⟨ga, 0, none⟩), .slice none 0 0] w fun e w' => ∃ v', e = .returned v' ∧ Kd.R (Kd.int .u8) 5 w' w.heap.size (fun _ => True) v' (toI (textL fin)) ∧ Below w.heap.size w w' := by
  obtain ⟨A, C, rfl⟩ := hv
  have ft := htb.c0
  have HTB := Aside0.mk htb
  have HAR := Aside0.mk har
  have HF := Aside0.mk hf
  have HBB := Aside0.mk hb
  have HT := Aside0.mk ht
  have HN := Aside0.mk hn
  clear htb har hf hb ht hn
  go_enter Try.func68, Try.ntmps68
  go_wp2
  go_quiet (fail)
  go_wp2
  go_loopw [1, 5] (fun v1 v5 wr => ∃ (i : Nat) (acc : List UInt8), v5 = .int .i64 (i : Int) ∧ Aside0 (i ≤ es.length) ∧ Aside0 (Kd.R (Kd.int .u8) 5 wr w.heap.size (fun _ => True) v1 (toI acc)) ∧ Aside0 (Below w.heap.size w wr) ∧ Aside0 (acc ++ textL (fin.drop i) = textL fin)) (fun _ v5 _ => es.length - natV v5)
  case atStart => exact ⟨0, [], rfl, ⟨Nat.zero_le _⟩, ⟨Kd.R_nil _ _ _ _ _⟩, ⟨by first | exact Below.refl _ _ | exact pw_below_drewN (Below.refl _ _) _⟩, ⟨rfl⟩⟩
  case round =>
    obtain ⟨i, acc, rfl, HI, HO, HB, HALL⟩ := hrel
    by_cases hi : i < es.length
    · have b2 : decide ((i : Int) < (es.length : Int)) = true := decide_eq_true (by omega)
      have p1 : (0 ≤ (i : Int)) = True := eq_true (by omega)
      have q1 : ((i : Int) < (es.length : Int)) = True := eq_true (by omega)
      obtain ⟨g, hg⟩ : ∃ g, A = some ⟨g, 0, none⟩ := by
        rcases HAR.out with ⟨h1, h2⟩ | ⟨g, C', h1, _⟩
        · rw [h2] at hi; simp at hi
        · exact ⟨g, by cases h1; rfl⟩
      subst hg
      have hab : AB w g (es ++ List.replicate (C - es.length) aeZ) := by
        rcases HAR.out with ⟨h1, h2⟩ | ⟨g', C', h1, _, _, h3⟩
        · cases h1
        · cases h1; exact h3
      have hab0 := hab
      have hab := hab.below HB.out
      have hi2 : i < fin.length := by rw [← HF.out.length]; exact hi
      obtain ⟨hk, hv, hbb⟩ := HF.out.get i hi hi2
      obtain ⟨x, hx⟩ : ∃ x, x = fin[i] := ⟨_, rfl⟩
      have htx := textL_get fin i hi2
      rw [← hx] at hk hv hbb htx
      clear hx
      obtain ⟨kx, vx, bx⟩ := x
      have hie : i < (es ++ List.replicate (C - es.length) aeZ).length := by simp; omega
      have hget : (es ++ List.replicate (C - es.length) aeZ)[i] = es[i] := List.getElem_append_left hi
      obtain ⟨Ak, ck, hkv⟩ := Kd.R_slice hk
      obtain ⟨Av, cv, hvv⟩ := Kd.R_slice hv
      obtain ⟨nk, hnk⟩ : ∃ n, n = (toI kx).length := ⟨_, rfl⟩
      obtain ⟨nv, hnv⟩ : ∃ n, n = (toI vx).length := ⟨_, rfl⟩
      have hkv2 : es[i].k = .slice Ak nk ck := by rw [hnk]; exact hkv
      have hvv2 : es[i].v = .slice Av nv cv := by rw [hnv]; exact hvv
      have hbb2 : es[i].b = bx := hbb
      have CELLS : Aside0 (∀ W, Below w.heap.size w W → W.cell? ⟨g, i * 3, none⟩ = some (.slice Ak nk ck) ∧ W.cell? ⟨g, i * 3 + 1, none⟩ = some (.slice Av nv cv) ∧ W.cell? ⟨g, i * 3 + 2, none⟩ = some (.bool bx)) := ⟨fun W hW => by
        have hq_ := hab0.below hW
        have q0 := hq_.cellK i (i * 3) (by omega) hie
        have q1 := hq_.cellV i (i * 3) (by omega) hie
        have q2 := hq_.cellB i (i * 3) (by omega) hie
        rw [hget, hkv2] at q0
        rw [hget, hvv2] at q1
        rw [hget, hbb2] at q2
        exact ⟨q0, q1, q2⟩⟩
      have c0 := hab.cellK i (i * 3) (by omega) hie
      have c1 := hab.cellV i (i * 3) (by omega) hie
      have c2 := hab.cellB i (i * 3) (by omega) hie
      rw [hget, hkv2] at c0
      rw [hget, hvv2] at c1
      rw [hget, hbb2] at c2
      have hk2 : Kd.R (Kd.int .u8) 5 w 0 (fun j => j < b) (.slice Ak nk ck) (toI kx) := by rw [← hkv2]; exact hk
      have hv2 : Kd.R (Kd.int .u8) 5 w 0 (fun j => j < b) (.slice Av nv cv) (toI vx) := by rw [← hvv2]; exact hv
      have hft : wr.cell? ⟨ga, 0, none⟩ = some (.slice (some ⟨g, 0, none⟩) es.length C) := (HTB.out.move (HB.out.block ga HTB.out.lt)).c0
      rw [htx] at HALL
      have hsz : (acc ++ (itemT (kx, vx, bx) ++ (if i + 1 < fin.length then [38] else []) ++ textL (fin.drop (i + 1)))).length ≤ 1000000000000 := by rw [HALL.out]; exact HT.out
      simp only [List.length_append, itemT] at hsz
      have hk1 := esc_ge kx
      have HKR := Aside0.mk hk2
      have HVR := Aside0.mk hv2
      have HIL := Aside0.mk hi
      have HSZ := Aside0.mk hsz
      have HKL : Aside0 (kx.length ≤ 1000000000000 ∧ acc.length + 3 * kx.length ≤ 100000000000000) := ⟨by omega⟩
      have HNV := Aside0.mk hnv
      have HFL : Aside0 (es.length = fin.length) := ⟨HF.out.length⟩
      clear hk hv hk2 hv2 hbb hbb2 htx hget hkv hvv hkv2 hvv2 hie hi2 hi hnk hnv hsz hk1 hab hab0 ft
      go_upto_region 6 with (first | ((with_reducible refine gate_callee (f := 47) rfl ?_); refine goesL_ (some 29) rfl rfl Try.func47 (by kernel_rfl) rfl #[u1, .slice Ak nk ck] rfl (by (try simp only [List.map_toArray, List.map_cons, List.map_nil]); first | done | rfl) ?_; refine (aq_at w wr HB.out u1 acc kx HO.out Ak nk ck b HBB.out HKR.out HKL.out.2 HKL.out.1).mono ?_; rintro e w5 ⟨v5, rfl, hr5, hb5⟩; refine ⟨_, rfl, ?_⟩; have HO5 := Aside0.mk hr5; have HB5 := Aside0.mk hb5; clear hr5 hb5))
      obtain ⟨d0, d1, d2⟩ := CELLS.out w5 HB5.out
      have wx : wrap64 ((i : Int) + 1) = (i : Int) + 1 := by have := HN.out; have := HIL.out; unfold wrap64; omega
      clear c0 c1 c2 hft HO HB
      cases bx with
      | true =>
        have HSZ2 : Aside0 ((acc ++ kx.flatMap escA ++ [38]).length ≤ 1000000000001) := ⟨by have := HSZ.out; simp only [if_pos, List.length_append, List.length_cons, List.length_nil] at this ⊢; omega⟩
        by_cases hlast : i + 1 < es.length
        · have bl_ : decide ((i : Int) + 1 < (es.length : Int)) = true := decide_eq_true (by omega)
          have HNX : Aside0 ((acc ++ kx.flatMap escA) ++ [38] ++ textL (fin.drop (i + 1)) = textL fin) := ⟨by have h_ := HALL.out; rw [if_pos (by rw [← HFL.out]; exact hlast)] at h_; simpa [itemT] using h_⟩
          clear hlast
          go_wp2_with (first | ((with_reducible refine gate_builtin (b := .append) (xs := #[.tmp 54, .tmp 55]) rfl ?_); at_builtin; refine Kd.R_append (Kd.int .u8) (w0 := w) w.heap.size rfl (.tmp 54) (.tmp 55) 48 5 (.int .u8 0) 1 rfl Try.underlying48 info5 rfl (by decide) (by omega) v5 (toI ((acc ++ kx.flatMap escA))) 38 [.int .u8 38] (fun _ => True) (fun _ => False) rfl rfl ?aP (fun _ hk => hk.elim) ?aF ?aO ?aB ?aS ?aL ?_; (case aP => exact rfl); (case aB => exact (by repeat (first | (with_reducible first | exact HB5.out | apply below_alloc | apply pw_below_drewN | apply below_drew1) | exact HB5.out))); (case aF => exact (fun _ _ => trivial)); (case aO => exact (by (with_reducible repeat (first | apply Kd.R_alloc | apply Kd.R_drewN | apply Kd.R_drew)); exact HO5.out)); (case aS => exact (below_size (by repeat (first | (with_reducible first | exact HB5.out | apply below_alloc | apply pw_below_drewN | apply below_drew1) | exact HB5.out)))); (case aL => have hz_ := HSZ2.out; rw [toI_length]; simp only [List.length_append, List.length_cons, List.length_nil] at hz_ ⊢; omega); intro vz wz ho hb hg hat; have HOz : Aside0 (Kd.R (Kd.int .u8) 5 wz w.heap.size (fun _ => True) vz (toI ((acc ++ kx.flatMap escA) ++ [38]))) := ⟨by have e_ : toI ((acc ++ kx.flatMap escA) ++ [38]) = toI ((acc ++ kx.flatMap escA)) ++ [38] := (by rw [toI_append]; rfl); rw [e_]; exact ho⟩; have HBz := Aside0.mk hb; clear ho hb hg hat))
          go_roundw
          case measure => have h1_ := HIL.out; simp only [natV]; try rw [wx]; omega
          case rel => exact ⟨i + 1, _, by first | rfl | (rw [wx]; rfl), ⟨HIL.out⟩, HOz, HBz, HNX⟩
        · have bl_ : decide ((i : Int) + 1 < (es.length : Int)) = false := decide_eq_false (by omega)
          have HNX : Aside0 ((acc ++ kx.flatMap escA) ++ textL (fin.drop (i + 1)) = textL fin) := ⟨by have h_ := HALL.out; rw [if_neg (by rw [← HFL.out]; exact hlast)] at h_; simpa [itemT] using h_⟩
          clear hlast
          go_wp2
          go_roundw
          case measure => have h1_ := HIL.out; simp only [natV]; try rw [wx]; omega
          case rel => exact ⟨i + 1, _, by first | rfl | (rw [wx]; rfl), ⟨HIL.out⟩, HO5, HB5, HNX⟩
      | false =>
        have HSZ2 : Aside0 ((acc ++ kx.flatMap escA ++ [61] ++ vx.flatMap escA ++ [38]).length ≤ 1000000000001) := ⟨by have := HSZ.out; simp only [if_neg (show ¬ (false = true) by decide), List.length_append, List.length_cons, List.length_nil] at this ⊢; omega⟩
        cases nv with
        | zero =>
          have hvx : vx = [] := by have := HNV.out; rw [toI_length] at this; exact List.length_eq_zero_iff.1 this.symm
          subst hvx
          go_upto_region 8 with (first | ((with_reducible refine gate_builtin (b := .append) (xs := #[.tmp 35, .tmp 36]) rfl ?_); at_builtin; refine Kd.R_append (Kd.int .u8) (w0 := w) w.heap.size rfl (.tmp 35) (.tmp 36) 48 5 (.int .u8 0) 1 rfl Try.underlying48 info5 rfl (by decide) (by omega) v5 (toI (acc ++ kx.flatMap escA)) 61 [.int .u8 61] (fun _ => True) (fun _ => False) rfl rfl ?aP (fun _ hk => hk.elim) ?aF ?aO ?aB ?aS ?aL ?_; (case aP => exact rfl); (case aB => exact (by repeat (first | (with_reducible first | exact HB5.out | apply below_alloc | apply pw_below_drewN | apply below_drew1) | exact HB5.out))); (case aF => exact (fun _ _ => trivial)); (case aO => exact (by (with_reducible repeat (first | apply Kd.R_alloc | apply Kd.R_drewN | apply Kd.R_drew)); exact HO5.out)); (case aS => exact (below_size (by repeat (first | (with_reducible first | exact HB5.out | apply below_alloc | apply pw_below_drewN | apply below_drew1) | exact HB5.out)))); (case aL => have hz_ := HSZ2.out; rw [toI_length]; simp only [List.length_append, List.length_cons, List.length_nil] at hz_ ⊢; omega); intro v7 w7 ho hb hg hat; have HO7 : Aside0 (Kd.R (Kd.int .u8) 5 w7 w.heap.size (fun _ => True) v7 (toI (acc ++ kx.flatMap escA ++ [61]))) := ⟨by have e_ : toI (acc ++ kx.flatMap escA ++ [61]) = toI (acc ++ kx.flatMap escA) ++ [61] := (by rw [toI_append]; rfl); rw [e_]; exact ho⟩; have HB7 := Aside0.mk hb; clear ho hb hg hat))
          obtain ⟨e0, e1, e2⟩ := CELLS.out w7 HB7.out
          clear d0 d1 d2
          go_upto_region 10 with (fail)
          by_cases hlast : i + 1 < es.length
          · have bl_ : decide ((i : Int) + 1 < (es.length : Int)) = true := decide_eq_true (by omega)
            have HNX : Aside0 ((acc ++ kx.flatMap escA ++ [61]) ++ [38] ++ textL (fin.drop (i + 1)) = textL fin) := ⟨by have h_ := HALL.out; rw [if_pos (by rw [← HFL.out]; exact hlast)] at h_; simpa [itemT] using h_⟩
            clear hlast
            go_wp2_with (first | ((with_reducible refine gate_builtin (b := .append) (xs := #[.tmp 54, .tmp 55]) rfl ?_); at_builtin; refine Kd.R_append (Kd.int .u8) (w0 := w) w.heap.size rfl (.tmp 54) (.tmp 55) 48 5 (.int .u8 0) 1 rfl Try.underlying48 info5 rfl (by decide) (by omega) v7 (toI ((acc ++ kx.flatMap escA ++ [61]))) 38 [.int .u8 38] (fun _ => True) (fun _ => False) rfl rfl ?aP (fun _ hk => hk.elim) ?aF ?aO ?aB ?aS ?aL ?_; (case aP => exact rfl); (case aB => exact (by repeat (first | (with_reducible first | exact HB7.out | apply below_alloc | apply pw_below_drewN | apply below_drew1) | exact HB7.out))); (case aF => exact (fun _ _ => trivial)); (case aO => exact (by (with_reducible repeat (first | apply Kd.R_alloc | apply Kd.R_drewN | apply Kd.R_drew)); exact HO7.out)); (case aS => exact (below_size (by repeat (first | (with_reducible first | exact HB7.out | apply below_alloc | apply pw_below_drewN | apply below_drew1) | exact HB7.out)))); (case aL => have hz_ := HSZ2.out; rw [toI_length]; simp only [List.length_append, List.length_cons, List.length_nil] at hz_ ⊢; omega); intro vz wz ho hb hg hat; have HOz : Aside0 (Kd.R (Kd.int .u8) 5 wz w.heap.size (fun _ => True) vz (toI ((acc ++ kx.flatMap escA ++ [61]) ++ [38]))) := ⟨by have e_ : toI ((acc ++ kx.flatMap escA ++ [61]) ++ [38]) = toI ((acc ++ kx.flatMap escA ++ [61])) ++ [38] := (by rw [toI_append]; rfl); rw [e_]; exact ho⟩; have HBz := Aside0.mk hb; clear ho hb hg hat))
            go_roundw
            case measure => have h1_ := HIL.out; simp only [natV]; try rw [wx]; omega
            case rel => exact ⟨i + 1, _, by first | rfl | (rw [wx]; rfl), ⟨HIL.out⟩, HOz, HBz, HNX⟩
          · have bl_ : decide ((i : Int) + 1 < (es.length : Int)) = false := decide_eq_false (by omega)
            have HNX : Aside0 ((acc ++ kx.flatMap escA ++ [61]) ++ textL (fin.drop (i + 1)) = textL fin) := ⟨by have h_ := HALL.out; rw [if_neg (by rw [← HFL.out]; exact hlast)] at h_; simpa [itemT] using h_⟩
            clear hlast
            go_wp2
            go_roundw
            case measure => have h1_ := HIL.out; simp only [natV]; try rw [wx]; omega
            case rel => exact ⟨i + 1, _, by first | rfl | (rw [wx]; rfl), ⟨HIL.out⟩, HO7, HB7, HNX⟩
        | succ mv =>
          have HVL : Aside0 (vx.length ≤ 1000000000000 ∧ (acc ++ kx.flatMap escA ++ [61]).length + 3 * vx.length ≤ 100000000000000) := ⟨by have := HSZ2.out; have hq_ := esc_ge vx; simp only [List.length_append, List.length_cons, List.length_nil] at this ⊢; omega⟩
          go_upto_region 8 with (first | ((with_reducible refine gate_builtin (b := .append) (xs := #[.tmp 35, .tmp 36]) rfl ?_); at_builtin; refine Kd.R_append (Kd.int .u8) (w0 := w) w.heap.size rfl (.tmp 35) (.tmp 36) 48 5 (.int .u8 0) 1 rfl Try.underlying48 info5 rfl (by decide) (by omega) v5 (toI (acc ++ kx.flatMap escA)) 61 [.int .u8 61] (fun _ => True) (fun _ => False) rfl rfl ?aP (fun _ hk => hk.elim) ?aF ?aO ?aB ?aS ?aL ?_; (case aP => exact rfl); (case aB => exact (by repeat (first | (with_reducible first | exact HB5.out | apply below_alloc | apply pw_below_drewN | apply below_drew1) | exact HB5.out))); (case aF => exact (fun _ _ => trivial)); (case aO => exact (by (with_reducible repeat (first | apply Kd.R_alloc | apply Kd.R_drewN | apply Kd.R_drew)); exact HO5.out)); (case aS => exact (below_size (by repeat (first | (with_reducible first | exact HB5.out | apply below_alloc | apply pw_below_drewN | apply below_drew1) | exact HB5.out)))); (case aL => have hz_ := HSZ2.out; rw [toI_length]; simp only [List.length_append, List.length_cons, List.length_nil] at hz_ ⊢; omega); intro v7 w7 ho hb hg hat; have HO7 : Aside0 (Kd.R (Kd.int .u8) 5 w7 w.heap.size (fun _ => True) v7 (toI (acc ++ kx.flatMap escA ++ [61]))) := ⟨by have e_ : toI (acc ++ kx.flatMap escA ++ [61]) = toI (acc ++ kx.flatMap escA) ++ [61] := (by rw [toI_append]; rfl); rw [e_]; exact ho⟩; have HB7 := Aside0.mk hb; clear ho hb hg hat))
          obtain ⟨e0, e1, e2⟩ := CELLS.out w7 HB7.out
          clear d0 d1 d2
          go_upto_region 10 with (first | ((with_reducible refine gate_callee (f := 47) rfl ?_); refine goesL_ (some 49) rfl rfl Try.func47 (by kernel_rfl) rfl #[v7, .slice Av (mv + 1) cv] rfl (by (try simp only [List.map_toArray, List.map_cons, List.map_nil]); first | done | rfl) ?_; refine (aq_at w w7 HB7.out v7 (acc ++ kx.flatMap escA ++ [61]) vx HO7.out Av (mv + 1) cv b HBB.out HVR.out HVL.out.2 HVL.out.1).mono ?_; rintro e w9 ⟨v9, rfl, hr_, hb_⟩; refine ⟨_, rfl, ?_⟩; have HO9 := Aside0.mk hr_; have HB9 := Aside0.mk hb_; clear hr_ hb_))
          clear e0 e1 e2
          by_cases hlast : i + 1 < es.length
          · have bl_ : decide ((i : Int) + 1 < (es.length : Int)) = true := decide_eq_true (by omega)
            have HNX : Aside0 ((acc ++ kx.flatMap escA ++ [61] ++ vx.flatMap escA) ++ [38] ++ textL (fin.drop (i + 1)) = textL fin) := ⟨by have h_ := HALL.out; rw [if_pos (by rw [← HFL.out]; exact hlast)] at h_; simpa [itemT] using h_⟩
            clear hlast
            go_wp2_with (first | ((with_reducible refine gate_builtin (b := .append) (xs := #[.tmp 54, .tmp 55]) rfl ?_); at_builtin; refine Kd.R_append (Kd.int .u8) (w0 := w) w.heap.size rfl (.tmp 54) (.tmp 55) 48 5 (.int .u8 0) 1 rfl Try.underlying48 info5 rfl (by decide) (by omega) v9 (toI ((acc ++ kx.flatMap escA ++ [61] ++ vx.flatMap escA))) 38 [.int .u8 38] (fun _ => True) (fun _ => False) rfl rfl ?aP (fun _ hk => hk.elim) ?aF ?aO ?aB ?aS ?aL ?_; (case aP => exact rfl); (case aB => exact (by repeat (first | (with_reducible first | exact HB9.out | apply below_alloc | apply pw_below_drewN | apply below_drew1) | exact HB9.out))); (case aF => exact (fun _ _ => trivial)); (case aO => exact (by (with_reducible repeat (first | apply Kd.R_alloc | apply Kd.R_drewN | apply Kd.R_drew)); exact HO9.out)); (case aS => exact (below_size (by repeat (first | (with_reducible first | exact HB9.out | apply below_alloc | apply pw_below_drewN | apply below_drew1) | exact HB9.out)))); (case aL => have hz_ := HSZ2.out; rw [toI_length]; simp only [List.length_append, List.length_cons, List.length_nil] at hz_ ⊢; omega); intro vz wz ho hb hg hat; have HOz : Aside0 (Kd.R (Kd.int .u8) 5 wz w.heap.size (fun _ => True) vz (toI ((acc ++ kx.flatMap escA ++ [61] ++ vx.flatMap escA) ++ [38]))) := ⟨by have e_ : toI ((acc ++ kx.flatMap escA ++ [61] ++ vx.flatMap escA) ++ [38]) = toI ((acc ++ kx.flatMap escA ++ [61] ++ vx.flatMap escA)) ++ [38] := (by rw [toI_append]; rfl); rw [e_]; exact ho⟩; have HBz := Aside0.mk hb; clear ho hb hg hat))
            go_roundw
            case measure => have h1_ := HIL.out; simp only [natV]; try rw [wx]; omega
            case rel => exact ⟨i + 1, _, by first | rfl | (rw [wx]; rfl), ⟨HIL.out⟩, HOz, HBz, HNX⟩
          · have bl_ : decide ((i : Int) + 1 < (es.length : Int)) = false := decide_eq_false (by omega)
            have HNX : Aside0 ((acc ++ kx.flatMap escA ++ [61] ++ vx.flatMap escA) ++ textL (fin.drop (i + 1)) = textL fin) := ⟨by have h_ := HALL.out; rw [if_neg (by rw [← HFL.out]; exact hlast)] at h_; simpa [itemT] using h_⟩
            clear hlast
            go_wp2
            go_roundw
            case measure => have h1_ := HIL.out; simp only [natV]; try rw [wx]; omega
            case rel => exact ⟨i + 1, _, by first | rfl | (rw [wx]; rfl), ⟨HIL.out⟩, HO9, HB9, HNX⟩
    · have hil : i = es.length := by have := HI.out; omega
      subst hil
      have b2 : decide ((es.length : Int) < (es.length : Int)) = false := decide_eq_false (by omega)
      have HEND : Aside0 (acc = textL fin) := ⟨by have h_ := HALL.out; rw [HF.out.length, List.drop_length, textL, List.append_nil] at h_; exact h_⟩
      clear hi
      go_wp2
      go_ret
      exact ⟨_, rfl, by rw [← HEND.out]; exact HO.out, HB.out⟩
end Go.Proofs.Ytjklempjljikpaa.Q
