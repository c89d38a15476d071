import Derived.Test.YtjklempjljikpaaIdxB
import Derived.Test.YtjklempjljikpaaQ0
-- Written by a program of this session out of the translation, with the kit's printer. Not trusted: Lean checks it.
namespace Go.Proofs.Ytjklempjljikpaa.Q
open Go.RowKit Go.Proofs.YtjklempjljikpaaW.PrintWords Go.Proofs.YtjklempjljikpaaW.PrintLast Go.Proofs.YtjklempjljikpaaW.PrintMore
attribute [local go_sem] max2_int min2_int max_two min_two max_three min_three max_four min_four   -- for this text's walks alone
set_option linter.unusedVariables false
set_option linter.unusedSimpArgs false

/-! ### hertzproto_addLeadingSlash: function 57 -/
def hertzproto_addLeadingSlash.f (l0 : List Int) (l1 : List Int) : Option (List Int) := if (l1.length : Int) = 0 then (if l0.length < 140737488355328 then (some (l0 ++ [47])) else (none)) else (if 0 < (l1.length : Int) then (if (rd l1 0) = 47 then (some l0) else (if l0.length < 140737488355328 then (some (l0 ++ [47])) else (none))) else (none))
set_option maxHeartbeats 8000000 in
set_option maxRecDepth 100000 in
theorem hertzproto_addLeadingSlash.calls (P0_ : Nat → Prop) (u9000_ : Value) (l0 : List Int) (A1 : Option Addr) (c1 : Nat) (l1 : List Int) (r : List Int) (w0 w : World) (hB : Below w0.heap.size w0 w) (ho0 : Kd.R (Kd.int .u8) 5 w w0.heap.size P0_ u9000_ l0) (hr1 : ∀ W_, Kept w W_ (fun k_ => P0_ k_) → Kd.C (Kd.int .u8) W_ A1 l1.length l1) (hc1 : l1.length ≤ c1) (h : hertzproto_addLeadingSlash.f l0 l1 = some r) :
    Calls Try.prog 57 #[u9000_, .slice A1 l1.length c1] w fun e w' => ∃ v0_ : Value, e = .returned (v0_) ∧ Kd.R (Kd.int .u8) 5 w' w0.heap.size (fun k_ => (P0_ k_ ∨ w.heap.size ≤ k_)) v0_ r ∧ Below w0.heap.size w0 w' ∧ Kept w w' (fun k_ => P0_ k_) := by
  have HO0 := Aside0.mk (show Kd.R (Kd.int .u8) 5 w w0.heap.size (fun k_ => (P0_ k_ ∨ w.heap.size ≤ k_)) u9000_ l0 from Kd.R_mono ho0 (fun k_ hk => (.inl hk)))
  have HR1 := Aside0.mk hr1
  have HC1 := Aside0.mk hc1
  clear hr1 hc1
  have HK := Aside0.mk (Kept.refl w (fun k_ => P0_ k_))
  have HW0 := Aside0.mk hB.size
  have HB := Aside0.mk hB
  clear hB
  have H : (if (l1.length : Int) = 0 then (if l0.length < 140737488355328 then (some (l0 ++ [47])) else (none)) else (if 0 < (l1.length : Int) then (if (rd l1 0) = 47 then (some l0) else (if l0.length < 140737488355328 then (some (l0 ++ [47])) else (none))) else (none))) = some r := h
  clear h
  by_cases c3 : (l1.length : Int) = 0
  · rw [if_pos c3] at H
    have c3b0 : ((l1.length : Int) == 0) = true := beq_iff_eq.mpr c3
    have c3b1 : ((l1.length : Int) != 0) = false := bne_eq_false_iff_eq.mpr c3
    clear c3
    by_cases c4 : l0.length < 140737488355328
    · rw [if_pos c4] at H
      have LMc4 := Aside0.mk c4
      clear c4
      obtain ⟨y101, hy101⟩ : ∃ y_ : List Int, y_ = (l0 ++ [47]) := ⟨_, rfl⟩
      replace H : (some y101) = some r := by first | (rw [hy101]; with_reducible exact H) | (have H2_ := (Option.bind_some _ _).symm.trans H; rw [hy101]; with_reducible exact H2_) | (have H2_ := (Option.bind_some _ _).symm.trans H; with_reducible exact H2_) | with_reducible exact H | (rw [hy101]; exact H) | exact H
      have Ny101 := Aside0.mk hy101
      clear hy101
      obtain rfl := Option.some.inj H
      go_enter Try.func57, Try.ntmps57
      go_wp2_with (first | ((with_reducible refine gate_builtin (b := .append) (xs := #[.tmp 14, .tmp 15]) rfl ?_); at_builtin; refine Kd.R_append (Kd.int .u8) (w0 := w0) w0.heap.size rfl (.tmp 14) (.tmp 15) 48 5 (.int .u8 0) 1 rfl Try.underlying48 info5 rfl (by decide) (by omega) u9000_ l0 47 [.int .u8 47] (fun k_ => (P0_ k_ ∨ w.heap.size ≤ k_)) (fun _ => False) rfl rfl ?aP (fun _ hk => hk.elim) ?aF ?aO ?aB ?aS ?aL ?_; (case aP => exact rfl); (case aB => exact (by repeat (first | (with_reducible first | exact HB.out | apply below_alloc | apply pw_below_drewN | apply below_drew1) | exact HB.out))); (case aF => exact (fun k_ hk => (.inr (Nat.le_trans (by first | exact HK.out.1 | exact (show Kept w _ (fun k_ => P0_ k_) from by repeat (first | (with_reducible first | exact HK.out | apply Kept.alloc | apply Kept.drewN | apply Kept.drew) | exact HK.out)).1) hk)))); (case aO => exact (by (with_reducible repeat (first | apply Kd.R_alloc | apply Kd.R_drewN | apply Kd.R_drew)); exact HO0.out)); (case aS => exact (below_size (by repeat (first | (with_reducible first | exact HB.out | apply below_alloc | apply pw_below_drewN | apply below_drew1) | exact HB.out)))); (case aL => have := LMc4.out; omega); intro v102 w5 ho hb hg hat; rw [← Ny101.out] at ho; have n0_ := Aside0.mk (hb); have n1_ := Aside0.mk (Kept.of_grown (S := (fun k_ => P0_ k_)) hg (by repeat (first | (with_reducible first | exact HK.out | apply Kept.alloc | apply Kept.drewN | apply Kept.drew) | exact HK.out)) (fun k_ e_ => (HO0.out.1 k_ e_))); have n2_ := Aside0.mk (ho); clear HB; clear HK; clear HO0; have HB := n0_; have HK := n1_; have HO103 := n2_; clear n0_ n1_ n2_; clear ho hb hg hat))
      go_ret
      exact ⟨_, by first | rfl | (simp [errW_none, errW_some] <;> rfl) | (simp [*, errW_none, errW_some] <;> rfl), by (with_reducible repeat (first | apply Kd.R_alloc | apply Kd.R_drewN | apply Kd.R_drew)); exact HO103.out, by repeat (first | (with_reducible first | exact HB.out | apply below_alloc | apply pw_below_drewN | apply below_drew1) | exact HB.out), by repeat (first | (with_reducible first | exact HK.out | apply Kept.alloc | apply Kept.drewN | apply Kept.drew) | exact HK.out)⟩
    · rw [if_neg c4] at H
      exact absurd H (by simp)
  · rw [if_neg c3] at H
    have c3b0 : ((l1.length : Int) == 0) = false := beq_eq_false_iff_ne.mpr c3
    have c3b1 : ((l1.length : Int) != 0) = true := bne_iff_ne.mpr c3
    have c3b2 : ¬ (l1 = []) := fun h_ => c3 (by rw [h_]; rfl)
    by_cases c6 : 0 < (l1.length : Int)
    · rw [if_pos c6] at H
      have c6b0 : decide (0 < (l1.length : Int)) = true := decide_eq_true c6
      have c6b1 : decide (0 < l1.length) = true := decide_eq_true (by omega)
      clear c6
      by_cases c7 : (rd l1 0) = 47
      · rw [if_pos c7] at H
        have c7b0 : ((rd l1 0) == 47) = true := beq_iff_eq.mpr c7
        have c7b1 : ((rd l1 0) != 47) = false := bne_eq_false_iff_eq.mpr c7
        clear c7
        obtain rfl := Option.some.inj H
        have p104 : 0 ≤ (0 : Int) := (by omega)
        have q104 : 0 < (l1.length : Int) := of_decide_eq_true (by first | (with_reducible assumption) | assumption)
        obtain ⟨ad104, e104, hx104_0⟩ := Kd.at_int (Kd.C_kept_now HR1.out HK.out) 0 p104 q104
        cases e104
        have qi104 : (0 < l1.length) = True := eq_true (by omega)
        (try rw [show ((0 : Int)).toNat = 0 from rfl] at hx104_0)
        (try rw [Addr.add_zero'] at hx104_0)
        replace p104 := eq_true p104
        replace q104 := eq_true q104
        go_enter Try.func57, Try.ntmps57
        go_wp2
        go_ret
        exact ⟨_, by first | rfl | (simp [errW_none, errW_some] <;> rfl) | (simp [*, errW_none, errW_some] <;> rfl), by (with_reducible repeat (first | apply Kd.R_alloc | apply Kd.R_drewN | apply Kd.R_drew)); exact HO0.out, by repeat (first | (with_reducible first | exact HB.out | apply below_alloc | apply pw_below_drewN | apply below_drew1) | exact HB.out), by repeat (first | (with_reducible first | exact HK.out | apply Kept.alloc | apply Kept.drewN | apply Kept.drew) | exact HK.out)⟩
      · rw [if_neg c7] at H
        have c7b0 : ((rd l1 0) == 47) = false := beq_eq_false_iff_ne.mpr c7
        have c7b1 : ((rd l1 0) != 47) = true := bne_iff_ne.mpr c7
        by_cases c8 : l0.length < 140737488355328
        · rw [if_pos c8] at H
          have LMc8 := Aside0.mk c8
          clear c8
          obtain ⟨y105, hy105⟩ : ∃ y_ : List Int, y_ = (l0 ++ [47]) := ⟨_, rfl⟩
          replace H : (some y105) = some r := by first | (rw [hy105]; with_reducible exact H) | (have H2_ := (Option.bind_some _ _).symm.trans H; rw [hy105]; with_reducible exact H2_) | (have H2_ := (Option.bind_some _ _).symm.trans H; with_reducible exact H2_) | with_reducible exact H | (rw [hy105]; exact H) | exact H
          have Ny105 := Aside0.mk hy105
          clear hy105
          obtain rfl := Option.some.inj H
          have p104 : 0 ≤ (0 : Int) := (by omega)
          have q104 : 0 < (l1.length : Int) := of_decide_eq_true (by first | (with_reducible assumption) | assumption)
          obtain ⟨ad104, e104, hx104_0⟩ := Kd.at_int (Kd.C_kept_now HR1.out HK.out) 0 p104 q104
          cases e104
          have qi104 : (0 < l1.length) = True := eq_true (by omega)
          (try rw [show ((0 : Int)).toNat = 0 from rfl] at hx104_0)
          (try rw [Addr.add_zero'] at hx104_0)
          replace p104 := eq_true p104
          replace q104 := eq_true q104
          go_enter Try.func57, Try.ntmps57
          go_wp2_with (first | ((with_reducible refine gate_builtin (b := .append) (xs := #[.tmp 14, .tmp 15]) rfl ?_); at_builtin; refine Kd.R_append (Kd.int .u8) (w0 := w0) w0.heap.size rfl (.tmp 14) (.tmp 15) 48 5 (.int .u8 0) 1 rfl Try.underlying48 info5 rfl (by decide) (by omega) u9000_ l0 47 [.int .u8 47] (fun k_ => (P0_ k_ ∨ w.heap.size ≤ k_)) (fun _ => False) rfl rfl ?aP (fun _ hk => hk.elim) ?aF ?aO ?aB ?aS ?aL ?_; (case aP => exact rfl); (case aB => exact (by repeat (first | (with_reducible first | exact HB.out | apply below_alloc | apply pw_below_drewN | apply below_drew1) | exact HB.out))); (case aF => exact (fun k_ hk => (.inr (Nat.le_trans (by first | exact HK.out.1 | exact (show Kept w _ (fun k_ => P0_ k_) from by repeat (first | (with_reducible first | exact HK.out | apply Kept.alloc | apply Kept.drewN | apply Kept.drew) | exact HK.out)).1) hk)))); (case aO => exact (by (with_reducible repeat (first | apply Kd.R_alloc | apply Kd.R_drewN | apply Kd.R_drew)); exact HO0.out)); (case aS => exact (below_size (by repeat (first | (with_reducible first | exact HB.out | apply below_alloc | apply pw_below_drewN | apply below_drew1) | exact HB.out)))); (case aL => have := LMc8.out; omega); intro v106 w9 ho hb hg hat; rw [← Ny105.out] at ho; have n0_ := Aside0.mk (hb); have n1_ := Aside0.mk (Kept.of_grown (S := (fun k_ => P0_ k_)) hg (by repeat (first | (with_reducible first | exact HK.out | apply Kept.alloc | apply Kept.drewN | apply Kept.drew) | exact HK.out)) (fun k_ e_ => (HO0.out.1 k_ e_))); have n2_ := Aside0.mk (ho); clear HB; clear HK; clear HO0; have HB := n0_; have HK := n1_; have HO107 := n2_; clear n0_ n1_ n2_; clear ho hb hg hat))
          go_ret
          exact ⟨_, by first | rfl | (simp [errW_none, errW_some] <;> rfl) | (simp [*, errW_none, errW_some] <;> rfl), by (with_reducible repeat (first | apply Kd.R_alloc | apply Kd.R_drewN | apply Kd.R_drew)); exact HO107.out, by repeat (first | (with_reducible first | exact HB.out | apply below_alloc | apply pw_below_drewN | apply below_drew1) | exact HB.out), by repeat (first | (with_reducible first | exact HK.out | apply Kept.alloc | apply Kept.drewN | apply Kept.drew) | exact HK.out)⟩
        · rw [if_neg c8] at H
          exact absurd H (by simp)
    · rw [if_neg c6] at H
      exact absurd H (by simp)

-- NOT PRINTED: function 74 (bytealg_IndexByte)

/-! ### bytes_IndexByte: function 70 -/
-- USES IdxB
def bytes_IndexByte.f (l0 : List Int) (a1 : Int) : Option (Int) := some (Lib.indexByte (Lib.bytesOf l0) a1.toNat.toUInt8)
set_option maxHeartbeats 8000000 in
set_option maxRecDepth 100000 in
theorem bytes_IndexByte.calls (A0 : Option Addr) (c0 : Nat) (l0 : List Int) (a1 : Int) (r : Int) (w : World) (hr0 : Kd.C (Kd.int .u8) w A0 l0.length l0) (hc0 : l0.length ≤ c0) (h : bytes_IndexByte.f l0 a1 = some r) :
    Calls Try.prog 70 #[.slice A0 l0.length c0, .int .u8 a1] w fun e w' => e = .returned (.int .i64 r) ∧ Drawn0 w w' := by
  obtain rfl := Option.some.inj h
  have HR := Aside0.mk hr0
  clear hr0 h
  go_enter Try.func70, Try.ntmps70
  go_wp2
  rw [run_callFunc_extern Try.func74 (by kernel_rfl) (by kernel_rfl) (by kernel_rfl) (e := Extern.BytealgIndexByte.indexByte) (by kernel_rfl), Go.Proofs.YtjklempjljikpaaX.run_idxb A0 c0 l0 HR.out a1]
  simp only [Result.andThen]
  rw [Oper.upon_value]
  go_wp2
  go_ret
  exact ⟨rfl, Drawn0.refl _⟩

end Go.Proofs.Ytjklempjljikpaa.Q

-- Written by a program of this session out of the translation, with the kit's printer. Not trusted: Lean checks it.
namespace Go.Proofs.Ytjklempjljikpaa.Q
open Go.RowKit Go.Proofs.YtjklempjljikpaaW.PrintWords Go.Proofs.YtjklempjljikpaaW.PrintLast Go.Proofs.YtjklempjljikpaaW.PrintMore
attribute [local go_sem] max2_int min2_int max_two min_two max_three min_three max_four min_four   -- for this text's walks alone
set_option linter.unusedVariables false
set_option linter.unusedSimpArgs false

/-! ### hertzproto_decodeArgAppendNoPlus: function 58 -/
def hertzproto_decodeArgAppendNoPlus.l0 : Nat → List Int → List Int → Int → Option (List Int)
  | 0, _, _, _ => none
  | k + 1, x0, x1, x5 => if x5 < (x1.length : Int) then (if 0 ≤ x5 then (if (rd x1 x5) = 37 then (if (wrap64 (x5 + 2)) ≥ (x1.length : Int) then (if x5 ≤ (x1.length : Int) then ((some (x1.drop (x5 : Int).toNat : List Int)).bind fun y113 => (if x0.length + y113.length < 140737488355328 then (some (x0 ++ y113)) else (none))) else (none)) else (if 0 ≤ (wrap64 (x5 + 2)) then (if (wrap64 (x5 + 2)) < (x1.length : Int) then (if 0 ≤ (rd x1 (wrap64 (x5 + 2))) then (if (rd x1 (wrap64 (x5 + 2))) < (tab1.size : Int) then (if 0 ≤ (wrap64 (x5 + 1)) then (if (wrap64 (x5 + 1)) < (x1.length : Int) then (if 0 ≤ (rd x1 (wrap64 (x5 + 1))) then (if (rd x1 (wrap64 (x5 + 1))) < (tab1.size : Int) then (if (bt tab1 (rd x1 (wrap64 (x5 + 1)))) = 16 then (if x0.length < 140737488355328 then (hertzproto_decodeArgAppendNoPlus.l0 k (x0 ++ [37]) x1 (wrap64 (x5 + 1))) else (none)) else (if (bt tab1 (rd x1 (wrap64 (x5 + 2)))) = 16 then (if x0.length < 140737488355328 then (hertzproto_decodeArgAppendNoPlus.l0 k (x0 ++ [37]) x1 (wrap64 (x5 + 1))) else (none)) else (if x0.length < 140737488355328 then (hertzproto_decodeArgAppendNoPlus.l0 k (x0 ++ [Go.bits .or .u8 (((bt tab1 (rd x1 (wrap64 (x5 + 1)))) * 16) % 256) (bt tab1 (rd x1 (wrap64 (x5 + 2))))]) x1 (wrap64 ((wrap64 (x5 + 2)) + 1))) else (none)))) else (none)) else (none)) else (none)) else (none)) else (none)) else (none)) else (none)) else (none))) else (if x0.length < 140737488355328 then (hertzproto_decodeArgAppendNoPlus.l0 k (x0 ++ [rd x1 x5]) x1 (wrap64 (x5 + 1))) else (none))) else (none)) else (some x0)
def hertzproto_decodeArgAppendNoPlus.f (k : Nat) (l0 : List Int) (l1 : List Int) : Option (List Int) := (bytes_IndexByte.f l1 37).bind fun t108 => (if t108 < 0 then (if l0.length + l1.length < 140737488355328 then (some (l0 ++ l1)) else (none)) else (hertzproto_decodeArgAppendNoPlus.l0 k l0 l1 0))
theorem hertzproto_decodeArgAppendNoPlus.mono_l : ∀ k, (∀ y0 y1 y2, LeO (hertzproto_decodeArgAppendNoPlus.l0 k y0 y1 y2) (hertzproto_decodeArgAppendNoPlus.l0 (k + 1) y0 y1 y2))
  | 0 => fun _ _ _ r h => by simp [hertzproto_decodeArgAppendNoPlus.l0] at h
  | k + 1 => by
    have ih0 := hertzproto_decodeArgAppendNoPlus.mono_l k
    · intro y0 y1 y2
      unfold hertzproto_decodeArgAppendNoPlus.l0
      repeat' first
      | (with_reducible exact ih0 _ _ _)
      | (with_reducible exact LeO.refl _)
      | (with_reducible exact LeO.none _)
      | (with_reducible refine LeO.ite ?_ ?_)
      | (with_reducible refine LeO.bind ?_ (fun _ => ?_))
      | exact ih0 _ _ _
      | exact LeO.none _
      | refine LeO.ite ?_ ?_
      | refine LeO.bind ?_ (fun _ => ?_)
theorem hertzproto_decodeArgAppendNoPlus.mono : ∀ a0 a1 k, LeO (hertzproto_decodeArgAppendNoPlus.f k a0 a1) (hertzproto_decodeArgAppendNoPlus.f (k + 1) a0 a1) := by
  intro a0 a1 k
  have ih0 := hertzproto_decodeArgAppendNoPlus.mono_l k
  unfold hertzproto_decodeArgAppendNoPlus.f
  repeat' first
      | (with_reducible exact ih0 _ _ _)
      | (with_reducible exact LeO.refl _)
      | (with_reducible exact LeO.none _)
      | (with_reducible refine LeO.ite ?_ ?_)
      | (with_reducible refine LeO.bind ?_ (fun _ => ?_))
      | exact ih0 _ _ _
      | exact LeO.none _
      | refine LeO.ite ?_ ?_
      | refine LeO.bind ?_ (fun _ => ?_)
set_option maxHeartbeats 8000000 in
set_option maxRecDepth 100000 in
theorem hertzproto_decodeArgAppendNoPlus.calls (k : Nat) (P0_ : Nat → Prop) (u9000_ : Value) (l0 : List Int) (A1 : Option Addr) (c1 : Nat) (l1 : List Int) (r : List Int) (w0 w : World) (hB : Below w0.heap.size w0 w) (ho0 : Kd.R (Kd.int .u8) 5 w w0.heap.size P0_ u9000_ l0) (hr1 : ∀ W_, Kept w W_ (fun k_ => P0_ k_) → Kd.C (Kd.int .u8) W_ A1 l1.length l1) (hc1 : l1.length ≤ c1) (h : hertzproto_decodeArgAppendNoPlus.f k l0 l1 = some r) :
    Calls Try.prog 58 #[u9000_, .slice A1 l1.length c1] w fun e w' => ∃ v0_ : Value, e = .returned (v0_) ∧ Kd.R (Kd.int .u8) 5 w' w0.heap.size (fun k_ => (P0_ k_ ∨ w.heap.size ≤ k_)) v0_ r ∧ Below w0.heap.size w0 w' ∧ Kept w w' (fun k_ => P0_ k_) := by
  have HO0 := Aside0.mk (show Kd.R (Kd.int .u8) 5 w w0.heap.size (fun k_ => (P0_ k_ ∨ w.heap.size ≤ k_)) u9000_ l0 from Kd.R_mono ho0 (fun k_ hk => (.inl hk)))
  have HR1 := Aside0.mk hr1
  have HC1 := Aside0.mk hc1
  clear hr1 hc1
  have HK := Aside0.mk (Kept.refl w (fun k_ => P0_ k_))
  have HW0 := Aside0.mk hB.size
  have HB := Aside0.mk hB
  clear hB
  have H : ((bytes_IndexByte.f l1 37).bind fun t108 => (if t108 < 0 then (if l0.length + l1.length < 140737488355328 then (some (l0 ++ l1)) else (none)) else (hertzproto_decodeArgAppendNoPlus.l0 k l0 l1 0))) = some r := h
  clear h
  replace H := Option.bind_eq_some_iff.mp H
  obtain ⟨t108, A30, H⟩ := H
  replace H : (if t108 < 0 then (if l0.length + l1.length < 140737488355328 then (some (l0 ++ l1)) else (none)) else (hertzproto_decodeArgAppendNoPlus.l0 k l0 l1 0)) = some r := H
  have A3 := Aside0.mk A30
  clear A30
  by_cases c4 : t108 < 0
  · rw [if_pos c4] at H
    have c4b0 : decide (t108 < 0) = true := decide_eq_true c4
    clear c4
    by_cases c5 : l0.length + l1.length < 140737488355328
    · rw [if_pos c5] at H
      have LMc5 := Aside0.mk c5
      clear c5
      obtain ⟨y109, hy109⟩ : ∃ y_ : List Int, y_ = (l0 ++ l1) := ⟨_, rfl⟩
      replace H : (some y109) = some r := by first | (rw [hy109]; with_reducible exact H) | (have H2_ := (Option.bind_some _ _).symm.trans H; rw [hy109]; with_reducible exact H2_) | (have H2_ := (Option.bind_some _ _).symm.trans H; with_reducible exact H2_) | with_reducible exact H | (rw [hy109]; exact H) | exact H
      have Ny109 := Aside0.mk hy109
      clear hy109
      obtain rfl := Option.some.inj H
      go_enter Try.func58, Try.ntmps58
      go_wp2_with (first | ((with_reducible refine gate_callee (f := 70) rfl ?_); refine goesL_ (some 10) rfl rfl Try.func70 (by kernel_rfl) rfl #[.slice A1 l1.length c1, .int .u8 37] rfl (by (try simp only [List.map_toArray, List.map_cons, List.map_nil]); first | done | rfl | (simp only [List.length_drop, List.length_take]; rfl)) ?_; (with_reducible refine (bytes_IndexByte.calls _ _ l1 37 t108 _ ?side1 ?side2 A3.out).mono ?_); (case side1 => exact Kd.C_kept_now HR1.out (by repeat (first | (with_reducible first | exact HK.out | apply Kept.alloc | apply Kept.drewN | apply Kept.drew) | exact HK.out))); (case side2 => exact HC1.out); rintro e w' ⟨rfl, ⟨nd, rfl⟩⟩; refine ⟨_, rfl, ?_⟩) | ((with_reducible refine gate_builtin (b := .append) (xs := #[.tmp 12, .tmp 13]) rfl ?_); at_builtin; refine Kd.R_append_rows (Kd.int .u8) (w0 := w0) w0.heap.size rfl (.tmp 12) (.tmp 13) 48 5 (.int .u8 0) 1 rfl Try.underlying48 info5 rfl (by decide) (by omega) u9000_ l0 l1 _ _ _ (fun k_ => (P0_ k_ ∨ w.heap.size ≤ k_)) (fun _ => False) rfl rfl ?aO ?aR (fun _ _ h => h) (fun _ h => h.elim) ?aF ?aB ?aS ?aL ?_; (case aR => exact Kd.C_kept_now HR1.out (by repeat (first | (with_reducible first | exact HK.out | apply Kept.alloc | apply Kept.drewN | apply Kept.drew) | exact HK.out))); (case aB => exact (by repeat (first | (with_reducible first | exact HB.out | apply below_alloc | apply pw_below_drewN | apply below_drew1) | exact HB.out))); (case aF => exact (fun k_ hk => (.inr (Nat.le_trans (by first | exact HK.out.1 | exact (show Kept w _ (fun k_ => P0_ k_) from by repeat (first | (with_reducible first | exact HK.out | apply Kept.alloc | apply Kept.drewN | apply Kept.drew) | exact HK.out)).1) hk)))); (case aO => exact (by (with_reducible repeat (first | apply Kd.R_alloc | apply Kd.R_drewN | apply Kd.R_drew)); exact HO0.out)); (case aS => exact (below_size (by repeat (first | (with_reducible first | exact HB.out | apply below_alloc | apply pw_below_drewN | apply below_drew1) | exact HB.out)))); (case aL => have := LMc5.out; omega); intro v110 w6 ho hb hg hat; rw [← Ny109.out] at ho; have n0_ := Aside0.mk (hb); have n1_ := Aside0.mk (Kept.of_grown (S := (fun k_ => P0_ k_)) hg (by repeat (first | (with_reducible first | exact HK.out | apply Kept.alloc | apply Kept.drewN | apply Kept.drew) | exact HK.out)) (fun k_ e_ => (HO0.out.1 k_ e_))); have n2_ := Aside0.mk (ho); clear HB; clear HK; clear HO0; have HB := n0_; have HK := n1_; have HO111 := n2_; clear n0_ n1_ n2_; clear ho hb hg hat))
      go_ret
      exact ⟨_, by first | rfl | (simp [errW_none, errW_some] <;> rfl) | (simp [*, errW_none, errW_some] <;> rfl), by (with_reducible repeat (first | apply Kd.R_alloc | apply Kd.R_drewN | apply Kd.R_drew)); exact HO111.out, by repeat (first | (with_reducible first | exact HB.out | apply below_alloc | apply pw_below_drewN | apply below_drew1) | exact HB.out), by repeat (first | (with_reducible first | exact HK.out | apply Kept.alloc | apply Kept.drewN | apply Kept.drew) | exact HK.out)⟩
    · rw [if_neg c5] at H
      exact absurd H (by simp)
  · rw [if_neg c4] at H
    have c4b0 : decide (t108 < 0) = false := decide_eq_false c4
    clear c4
    have H' := Aside0.mk H
    clear H
    go_enter Try.func58, Try.ntmps58
    go_wp2_with (first | ((with_reducible refine gate_callee (f := 70) rfl ?_); refine goesL_ (some 10) rfl rfl Try.func70 (by kernel_rfl) rfl #[.slice A1 l1.length c1, .int .u8 37] rfl (by (try simp only [List.map_toArray, List.map_cons, List.map_nil]); first | done | rfl | (simp only [List.length_drop, List.length_take]; rfl)) ?_; (with_reducible refine (bytes_IndexByte.calls _ _ l1 37 t108 _ ?side1 ?side2 A3.out).mono ?_); (case side1 => exact Kd.C_kept_now HR1.out (by repeat (first | (with_reducible first | exact HK.out | apply Kept.alloc | apply Kept.drewN | apply Kept.drew) | exact HK.out))); (case side2 => exact HC1.out); rintro e w' ⟨rfl, ⟨nd, rfl⟩⟩; refine ⟨_, rfl, ?_⟩))
    go_loopg [0, 5] k (fun kq v0 v5 w' => ∃ (x0_1 : List Int) (x5_1 : Int), v5 = .int .i64 x5_1 ∧ Aside0 (hertzproto_decodeArgAppendNoPlus.l0 kq x0_1 l1 x5_1 = some r) ∧ Aside0 (kq ≤ k) ∧ Aside0 (Kd.R (Kd.int .u8) 5 w' w0.heap.size (fun k_ => (P0_ k_ ∨ w.heap.size ≤ k_)) v0 x0_1) ∧ Aside0 (Kept w w' (fun k_ => P0_ k_)) ∧ Aside0 (Below w0.heap.size w0 w'))
    case atStart => exact ⟨(l0), (0), (by first | rfl | (simp; done) | (simp [*]; done) | (simp [Go.Proofs.YtjklempjljikpaaX.isEmpty_ne]; done)), H', ⟨Nat.le_refl _⟩, ⟨by (with_reducible repeat (first | apply Kd.R_alloc | apply Kd.R_drewN | apply Kd.R_drew)); exact HO0.out⟩, ⟨by repeat (first | (with_reducible first | exact HK.out | apply Kept.alloc | apply Kept.drewN | apply Kept.drew) | exact HK.out)⟩, ⟨by repeat (first | (with_reducible first | exact HB.out | apply below_alloc | apply pw_below_drewN | apply below_drew1) | exact HB.out)⟩⟩
    case round =>
      clear H'
      try clear c1
      try clear p2
      try clear c4
      try clear c4b0
      try clear c5
      obtain ⟨x0_1, x5_1, rfl, HA, HK1, HO_0, HK, HB⟩ := hrel
      cases gk with
      | zero => exact absurd HA.out (by simp [hertzproto_decodeArgAppendNoPlus.l0])
      | succ k1 =>
        have H := HA.out
        clear HA
        simp only [hertzproto_decodeArgAppendNoPlus.l0] at H
        by_cases c7 : x5_1 < (l1.length : Int)
        · rw [if_pos c7] at H
          have c7b0 : decide (x5_1 < (l1.length : Int)) = true := decide_eq_true c7
          clear c7
          by_cases c8 : 0 ≤ x5_1
          · rw [if_pos c8] at H
            have c8b0 : decide (0 ≤ x5_1) = true := decide_eq_true c8
            clear c8
            by_cases c9 : (rd l1 x5_1) = 37
            · rw [if_pos c9] at H
              have c9b0 : ((rd l1 x5_1) == 37) = true := beq_iff_eq.mpr c9
              have c9b1 : ((rd l1 x5_1) != 37) = false := bne_eq_false_iff_eq.mpr c9
              clear c9
              by_cases c10 : (wrap64 (x5_1 + 2)) ≥ (l1.length : Int)
              · rw [if_pos c10] at H
                have c10b0 : decide ((l1.length : Int) ≤ (wrap64 (x5_1 + 2))) = true := decide_eq_true c10
                clear c10
                have c11b0 := eq_true (of_decide_eq_true (by first | (with_reducible assumption) | assumption) : 0 ≤ x5_1)
                by_cases c12 : x5_1 ≤ (l1.length : Int)
                · rw [if_pos c12] at H
                  have c12b0 := eq_true c12
                  have c12b1 : decide (x5_1 ≤ (l1.length : Int)) = true := decide_eq_true c12
                  clear c12
                  obtain ⟨y113, hy113⟩ : ∃ y_ : List Int, y_ = (l1.drop (x5_1 : Int).toNat) := ⟨_, rfl⟩
                  replace H : (if x0_1.length + y113.length < 140737488355328 then (some (x0_1 ++ y113)) else (none)) = some r := by first | (rw [hy113]; with_reducible exact H) | (have H2_ := (Option.bind_some _ _).symm.trans H; rw [hy113]; with_reducible exact H2_) | (have H2_ := (Option.bind_some _ _).symm.trans H; with_reducible exact H2_) | with_reducible exact H | (rw [hy113]; exact H) | exact H
                  have Ny113 := Aside0.mk hy113
                  clear hy113
                  by_cases c13 : x0_1.length + y113.length < 140737488355328
                  · rw [if_pos c13] at H
                    have LMc13 := Aside0.mk c13
                    clear c13
                    obtain ⟨y117, hy117⟩ : ∃ y_ : List Int, y_ = (x0_1 ++ y113) := ⟨_, rfl⟩
                    replace H : (some y117) = some r := by first | (rw [hy117]; with_reducible exact H) | (have H2_ := (Option.bind_some _ _).symm.trans H; rw [hy117]; with_reducible exact H2_) | (have H2_ := (Option.bind_some _ _).symm.trans H; with_reducible exact H2_) | with_reducible exact H | (rw [hy117]; exact H) | exact H
                    have Ny117 := Aside0.mk hy117
                    clear hy117
                    obtain rfl := Option.some.inj H
                    have p112 : 0 ≤ (x5_1 : Int) := of_decide_eq_true (by first | (with_reducible assumption) | assumption)
                    have q112 : x5_1 < (l1.length : Int) := of_decide_eq_true (by first | (with_reducible assumption) | assumption)
                    obtain ⟨ad112, e112, hx112_0⟩ := Kd.at_int (Kd.C_kept_now HR1.out HK.out) x5_1 p112 q112
                    cases e112
                    replace p112 := eq_true p112
                    replace q112 := eq_true q112
                    have q14 : (x5_1 : Int) ≤ ((l1.length : Int) : Int) := of_decide_eq_true (by first | (with_reducible assumption) | assumption)
                    obtain ⟨i014, hi014, _, hsz14, _⟩ := info_parts info5
                    have hroom14 : l1.length ≤ c1 := HC1.out
                    have hC14 : Kd.C (Kd.int .u8) _ (some ad112) l1.length l1 := (Kd.C_kept_now HR1.out HK.out)
                    have q014 : (0 : Int) ≤ (x5_1 : Int) := of_decide_eq_true (by first | (with_reducible assumption) | assumption)
                    have hcut14 := cut_from (P := Try.prog) 48 5 .i64 Try.underlying48 hi014 1 hsz14 (some ad112) l1.length c1 x5_1 q014 q14
                    have hr14 := Kd.C_drop (m := (x5_1 : Int).toNat) (c := c1) hC14 (by omega) hroom14
                    obtain ⟨A14, hA14⟩ : ∃ zq_, zq_ = (if c1 = (x5_1 : Int).toNat then (some ad112) else ((some ad112) : Option Addr).map (·.add ((x5_1 : Int).toNat * 1))) := ⟨_, rfl⟩
                    obtain ⟨c14, hc14⟩ : ∃ zq_, zq_ = c1 - (x5_1 : Int).toNat := ⟨_, rfl⟩
                    have hy14 : y113.length = l1.length - (x5_1 : Int).toNat := (by rw [Ny113.out, List.length_drop] <;> omega)
                    rw [show (l1).drop (x5_1 : Int).toNat = y113 from Ny113.out.symm] at hr14
                    replace hr14 : Kd.C (Kd.int .u8) _ A14 y113.length y113 := (by rw [hA14]; exact hr14)
                    rw [← hy14, ← hA14, ← hc14] at hcut14
                    have HR116 := Aside0.mk hr14
                    have HC116 := Aside0.mk (show y113.length ≤ c14 from by rw [hy14, hc14]; exact Nat.sub_le_sub_right hroom14 _)
                    clear hr14 hC14 hroom14 hi014 hsz14 hc14
                    have KY14 := Aside0.mk hy14
                    have KA14 := Aside0.mk hA14
                    clear hy14 hA14
                    have KL14 := Aside0.mk (show (x5_1 : Int).toNat ≤ l1.length from by omega)
                    replace q14 := eq_true q14
                    go_wp2_with (first | ((with_reducible refine gate_builtin (b := .append) (xs := #[.tmp 32, .tmp 35]) rfl ?_); at_builtin; refine Kd.R_append_rows (Kd.int .u8) (w0 := w0) w0.heap.size rfl (.tmp 32) (.tmp 35) 48 5 (.int .u8 0) 1 rfl Try.underlying48 info5 rfl (by decide) (by omega) u0 x0_1 y113 _ _ _ (fun k_ => (P0_ k_ ∨ w.heap.size ≤ k_)) (fun _ => False) rfl rfl ?aO ?aR (fun _ _ h => h) (fun _ h => h.elim) ?aF ?aB ?aS ?aL ?_; (case aR => repeat (first | exact (by repeat (first | (with_reducible exact HR116.out) | (with_reducible refine Kd.C_alloc ?_ _) | (with_reducible refine Kd.C_drewN ?_ _) | (with_reducible refine Kd.C_drew ?_) | exact HR116.out)) | (with_reducible refine Kd.C_alloc ?_ _) | (with_reducible refine Kd.C_drewN ?_ _) | (with_reducible refine Kd.C_drew ?_))); (case aB => exact (by repeat (first | (with_reducible first | exact HB.out | apply below_alloc | apply pw_below_drewN | apply below_drew1) | exact HB.out))); (case aF => exact (fun k_ hk => (.inr (Nat.le_trans (by first | exact HK.out.1 | exact (show Kept w _ (fun k_ => P0_ k_) from by repeat (first | (with_reducible first | exact HK.out | apply Kept.alloc | apply Kept.drewN | apply Kept.drew) | exact HK.out)).1) hk)))); (case aO => exact (by (with_reducible repeat (first | apply Kd.R_alloc | apply Kd.R_drewN | apply Kd.R_drew)); exact HO_0.out)); (case aS => exact (below_size (by repeat (first | (with_reducible first | exact HB.out | apply below_alloc | apply pw_below_drewN | apply below_drew1) | exact HB.out)))); (case aL => have := LMc13.out; omega); intro v118 w15 ho hb hg hat; rw [← Ny117.out] at ho; have n0_ := Aside0.mk (hb); have n1_ := Aside0.mk (Kept.of_grown (S := (fun k_ => P0_ k_)) hg (by repeat (first | (with_reducible first | exact HK.out | apply Kept.alloc | apply Kept.drewN | apply Kept.drew) | exact HK.out)) (fun k_ e_ => (HO_0.out.1 k_ e_))); have n2_ := Aside0.mk ((show Kd.C (Kd.int .u8) w15 A14 y113.length y113 from by rw [Ny113.out, KA14.out]; exact Kd.C_drop (m := (x5_1 : Int).toNat) (c := c1) (Kd.C_kept_now HR1.out (show Kept w w15 (fun k_ => P0_ k_) from (Kept.of_grown (S := (fun k_ => P0_ k_)) hg (by repeat (first | (with_reducible first | exact HK.out | apply Kept.alloc | apply Kept.drewN | apply Kept.drew) | exact HK.out)) (fun k_ e_ => (HO_0.out.1 k_ e_))))) KL14.out HC1.out)); have n3_ := Aside0.mk (ho); clear HB; clear HK; clear HR116; clear HO_0; have HB := n0_; have HK := n1_; have HR116 := n2_; have HO119 := n3_; clear n0_ n1_ n2_ n3_; clear ho hb hg hat))
                    go_ret
                    exact ⟨_, by first | rfl | (simp [errW_none, errW_some] <;> rfl) | (simp [*, errW_none, errW_some] <;> rfl), by (with_reducible repeat (first | apply Kd.R_alloc | apply Kd.R_drewN | apply Kd.R_drew)); exact HO119.out, by repeat (first | (with_reducible first | exact HB.out | apply below_alloc | apply pw_below_drewN | apply below_drew1) | exact HB.out), by repeat (first | (with_reducible first | exact HK.out | apply Kept.alloc | apply Kept.drewN | apply Kept.drew) | exact HK.out)⟩
                  · rw [if_neg c13] at H
                    exact absurd H (by simp)
                · rw [if_neg c12] at H
                  exact absurd H (by simp)
              · rw [if_neg c10] at H
                have c10b0 : decide ((l1.length : Int) ≤ (wrap64 (x5_1 + 2))) = false := decide_eq_false c10
                clear c10
                obtain ⟨ji16, hji16⟩ : ∃ j_ : Int, (wrap64 (x5_1 + 2)) = j_ := ⟨_, rfl⟩
                replace H : (if 0 ≤ (ji16) then (if (ji16) < (l1.length : Int) then (if 0 ≤ (rd l1 (ji16)) then (if (rd l1 (ji16)) < (tab1.size : Int) then (if 0 ≤ (wrap64 (x5_1 + 1)) then (if (wrap64 (x5_1 + 1)) < (l1.length : Int) then (if 0 ≤ (rd l1 (wrap64 (x5_1 + 1))) then (if (rd l1 (wrap64 (x5_1 + 1))) < (tab1.size : Int) then (if (bt tab1 (rd l1 (wrap64 (x5_1 + 1)))) = 16 then (if x0_1.length < 140737488355328 then (hertzproto_decodeArgAppendNoPlus.l0 k1 (x0_1 ++ [37]) l1 (wrap64 (x5_1 + 1))) else (none)) else (if (bt tab1 (rd l1 (ji16))) = 16 then (if x0_1.length < 140737488355328 then (hertzproto_decodeArgAppendNoPlus.l0 k1 (x0_1 ++ [37]) l1 (wrap64 (x5_1 + 1))) else (none)) else (if x0_1.length < 140737488355328 then (hertzproto_decodeArgAppendNoPlus.l0 k1 (x0_1 ++ [Go.bits .or .u8 (((bt tab1 (rd l1 (wrap64 (x5_1 + 1)))) * 16) % 256) (bt tab1 (rd l1 (ji16)))]) l1 (wrap64 ((ji16) + 1))) else (none)))) else (none)) else (none)) else (none)) else (none)) else (none)) else (none)) else (none)) else (none)) = some r := by first | (rw [hji16] at H; exact H) | (simp only [hji16] at H ⊢; exact H)
                (try rw [hji16] at c10b0)
                have hji16w : (IntKind.i64.wrap (x5_1 + 2)) = ji16 := (i64_w _).trans hji16
                by_cases c17 : 0 ≤ (ji16)
                · rw [if_pos c17] at H
                  have c17b0 : decide (0 ≤ (ji16)) = true := decide_eq_true c17
                  clear c17
                  by_cases c18 : (ji16) < (l1.length : Int)
                  · rw [if_pos c18] at H
                    have c18b0 : decide ((ji16) < (l1.length : Int)) = true := decide_eq_true c18
                    clear c18
                    by_cases c19 : 0 ≤ (rd l1 (ji16))
                    · rw [if_pos c19] at H
                      have c19b0 : decide (0 ≤ (rd l1 (ji16))) = true := decide_eq_true c19
                      clear c19
                      by_cases c20 : (rd l1 (ji16)) < (tab1.size : Int)
                      · rw [if_pos c20] at H
                        have c20b0 : decide ((rd l1 (ji16)) < (tab1.size : Int)) = true := decide_eq_true c20
                        clear c20
                        obtain ⟨ji22, hji22⟩ : ∃ j_ : Int, (wrap64 (x5_1 + 1)) = j_ := ⟨_, rfl⟩
                        replace H : (if 0 ≤ (ji22) then (if (ji22) < (l1.length : Int) then (if 0 ≤ (rd l1 (ji22)) then (if (rd l1 (ji22)) < (tab1.size : Int) then (if (bt tab1 (rd l1 (ji22))) = 16 then (if x0_1.length < 140737488355328 then (hertzproto_decodeArgAppendNoPlus.l0 k1 (x0_1 ++ [37]) l1 ji22) else (none)) else (if (bt tab1 (rd l1 (ji16))) = 16 then (if x0_1.length < 140737488355328 then (hertzproto_decodeArgAppendNoPlus.l0 k1 (x0_1 ++ [37]) l1 ji22) else (none)) else (if x0_1.length < 140737488355328 then (hertzproto_decodeArgAppendNoPlus.l0 k1 (x0_1 ++ [Go.bits .or .u8 (((bt tab1 (rd l1 (ji22))) * 16) % 256) (bt tab1 (rd l1 (ji16)))]) l1 (wrap64 ((ji16) + 1))) else (none)))) else (none)) else (none)) else (none)) else (none)) = some r := by first | (rw [hji22] at H; exact H) | (simp only [hji22] at H ⊢; exact H)
                        have hji22w : (IntKind.i64.wrap (x5_1 + 1)) = ji22 := (i64_w _).trans hji22
                        by_cases c23 : 0 ≤ (ji22)
                        · rw [if_pos c23] at H
                          have c23b0 : decide (0 ≤ (ji22)) = true := decide_eq_true c23
                          clear c23
                          by_cases c24 : (ji22) < (l1.length : Int)
                          · rw [if_pos c24] at H
                            have c24b0 : decide ((ji22) < (l1.length : Int)) = true := decide_eq_true c24
                            clear c24
                            by_cases c25 : 0 ≤ (rd l1 (ji22))
                            · rw [if_pos c25] at H
                              have c25b0 : decide (0 ≤ (rd l1 (ji22))) = true := decide_eq_true c25
                              clear c25
                              by_cases c26 : (rd l1 (ji22)) < (tab1.size : Int)
                              · rw [if_pos c26] at H
                                have c26b0 : decide ((rd l1 (ji22)) < (tab1.size : Int)) = true := decide_eq_true c26
                                clear c26
                                by_cases c28 : (bt tab1 (rd l1 (ji22))) = 16
                                · rw [if_pos c28] at H
                                  have c28b0 : ((bt tab1 (rd l1 (ji22))) == 16) = true := beq_iff_eq.mpr c28
                                  have c28b1 : ((bt tab1 (rd l1 (ji22))) != 16) = false := bne_eq_false_iff_eq.mpr c28
                                  clear c28
                                  by_cases c29 : x0_1.length < 140737488355328
                                  · rw [if_pos c29] at H
                                    have LMc29 := Aside0.mk c29
                                    clear c29
                                    obtain ⟨y122, hy122⟩ : ∃ y_ : List Int, y_ = (x0_1 ++ [37]) := ⟨_, rfl⟩
                                    replace H : (hertzproto_decodeArgAppendNoPlus.l0 k1 y122 l1 ji22) = some r := by first | (rw [hy122]; with_reducible exact H) | (have H2_ := (Option.bind_some _ _).symm.trans H; rw [hy122]; with_reducible exact H2_) | (have H2_ := (Option.bind_some _ _).symm.trans H; with_reducible exact H2_) | with_reducible exact H | (rw [hy122]; exact H) | exact H
                                    have Ny122 := Aside0.mk hy122
                                    clear hy122
                                    have H' := Aside0.mk H
                                    clear H
                                    have p112 : 0 ≤ (x5_1 : Int) := of_decide_eq_true (by first | (with_reducible assumption) | assumption)
                                    have q112 : x5_1 < (l1.length : Int) := of_decide_eq_true (by first | (with_reducible assumption) | assumption)
                                    obtain ⟨ad112, e112, hx112_0⟩ := Kd.at_int (Kd.C_kept_now HR1.out HK.out) x5_1 p112 q112
                                    cases e112
                                    replace p112 := eq_true p112
                                    replace q112 := eq_true q112
                                    have p120 : 0 ≤ ((ji16) : Int) := of_decide_eq_true (by first | (with_reducible assumption) | assumption)
                                    have q120 : (ji16) < (l1.length : Int) := of_decide_eq_true (by first | (with_reducible assumption) | assumption)
                                    obtain ⟨ad120, e120, hx120_0⟩ := Kd.at_int (Kd.C_kept_now HR1.out HK.out) (ji16) p120 q120
                                    obtain rfl : ad112 = ad120 := (by injection e120)
                                    replace p120 := eq_true p120
                                    replace q120 := eq_true q120
                                    have p121 : 0 ≤ ((ji22) : Int) := of_decide_eq_true (by first | (with_reducible assumption) | assumption)
                                    have q121 : (ji22) < (l1.length : Int) := of_decide_eq_true (by first | (with_reducible assumption) | assumption)
                                    obtain ⟨ad121, e121, hx121_0⟩ := Kd.at_int (Kd.C_kept_now HR1.out HK.out) (ji22) p121 q121
                                    obtain rfl : ad112 = ad121 := (by injection e121)
                                    replace p121 := eq_true p121
                                    replace q121 := eq_true q121
                                    go_wp2_with (first | ((with_reducible refine gate_dst (N := 42) rfl ?_); refine Go.Proofs.YtjklempjljikpaaX.index_tab (some 42) rfl rfl 9 _ _ rfl Try.underlying9 tab1 (by kernel_rfl) .u8 (rd l1 (ji16)) rfl (by first | exact of_decide_eq_true (by first | (with_reducible assumption) | assumption) | exact (bt_range _ _).1 | omega) (of_decide_eq_true (by first | (with_reducible assumption) | assumption)) ?_) | ((with_reducible refine gate_dst (N := 48) rfl ?_); refine Go.Proofs.YtjklempjljikpaaX.index_tab (some 48) rfl rfl 9 _ _ rfl Try.underlying9 tab1 (by kernel_rfl) .u8 (rd l1 (ji22)) rfl (by first | exact of_decide_eq_true (by first | (with_reducible assumption) | assumption) | exact (bt_range _ _).1 | omega) (of_decide_eq_true (by first | (with_reducible assumption) | assumption)) ?_) | ((with_reducible refine gate_builtin (b := .append) (xs := #[.tmp 55, .tmp 56]) rfl ?_); at_builtin; refine Kd.R_append (Kd.int .u8) (w0 := w0) w0.heap.size rfl (.tmp 55) (.tmp 56) 48 5 (.int .u8 0) 1 rfl Try.underlying48 info5 rfl (by decide) (by omega) u0 x0_1 37 [.int .u8 37] (fun k_ => (P0_ k_ ∨ w.heap.size ≤ k_)) (fun _ => False) rfl rfl ?aP (fun _ hk => hk.elim) ?aF ?aO ?aB ?aS ?aL ?_; (case aP => exact rfl); (case aB => exact (by repeat (first | (with_reducible first | exact HB.out | apply below_alloc | apply pw_below_drewN | apply below_drew1) | exact HB.out))); (case aF => exact (fun k_ hk => (.inr (Nat.le_trans (by first | exact HK.out.1 | exact (show Kept w _ (fun k_ => P0_ k_) from by repeat (first | (with_reducible first | exact HK.out | apply Kept.alloc | apply Kept.drewN | apply Kept.drew) | exact HK.out)).1) hk)))); (case aO => exact (by (with_reducible repeat (first | apply Kd.R_alloc | apply Kd.R_drewN | apply Kd.R_drew)); exact HO_0.out)); (case aS => exact (below_size (by repeat (first | (with_reducible first | exact HB.out | apply below_alloc | apply pw_below_drewN | apply below_drew1) | exact HB.out)))); (case aL => have := LMc29.out; omega); intro v123 w30 ho hb hg hat; rw [← Ny122.out] at ho; have n0_ := Aside0.mk (hb); have n1_ := Aside0.mk (Kept.of_grown (S := (fun k_ => P0_ k_)) hg (by repeat (first | (with_reducible first | exact HK.out | apply Kept.alloc | apply Kept.drewN | apply Kept.drew) | exact HK.out)) (fun k_ e_ => (HO_0.out.1 k_ e_))); have n2_ := Aside0.mk (ho); clear HB; clear HK; clear HO_0; have HB := n0_; have HK := n1_; have HO124 := n2_; clear n0_ n1_ n2_; clear ho hb hg hat))
                                    go_roundg k1
                                    case measure => have := HK1.out; omega
                                    case rel => exact ⟨(y122), (ji22), (by first | rfl | (simp; done) | (simp only [← hji22] <;> (first | rfl | simp)) | (simp [*]; done) | (simp [Go.Proofs.YtjklempjljikpaaX.isEmpty_ne]; done)), H', ⟨by have := HK1.out; omega⟩, ⟨by (with_reducible repeat (first | apply Kd.R_alloc | apply Kd.R_drewN | apply Kd.R_drew)); exact HO124.out⟩, ⟨by repeat (first | (with_reducible first | exact HK.out | apply Kept.alloc | apply Kept.drewN | apply Kept.drew) | exact HK.out)⟩, ⟨by repeat (first | (with_reducible first | exact HB.out | apply below_alloc | apply pw_below_drewN | apply below_drew1) | exact HB.out)⟩⟩
                                  · rw [if_neg c29] at H
                                    exact absurd H (by simp)
                                · rw [if_neg c28] at H
                                  have c28b0 : ((bt tab1 (rd l1 (ji22))) == 16) = false := beq_eq_false_iff_ne.mpr c28
                                  have c28b1 : ((bt tab1 (rd l1 (ji22))) != 16) = true := bne_iff_ne.mpr c28
                                  by_cases c31 : (bt tab1 (rd l1 (ji16))) = 16
                                  · rw [if_pos c31] at H
                                    have c31b0 : ((bt tab1 (rd l1 (ji16))) == 16) = true := beq_iff_eq.mpr c31
                                    have c31b1 : ((bt tab1 (rd l1 (ji16))) != 16) = false := bne_eq_false_iff_eq.mpr c31
                                    clear c31
                                    by_cases c32 : x0_1.length < 140737488355328
                                    · rw [if_pos c32] at H
                                      have LMc32 := Aside0.mk c32
                                      clear c32
                                      obtain ⟨y125, hy125⟩ : ∃ y_ : List Int, y_ = (x0_1 ++ [37]) := ⟨_, rfl⟩
                                      replace H : (hertzproto_decodeArgAppendNoPlus.l0 k1 y125 l1 ji22) = some r := by first | (rw [hy125]; with_reducible exact H) | (have H2_ := (Option.bind_some _ _).symm.trans H; rw [hy125]; with_reducible exact H2_) | (have H2_ := (Option.bind_some _ _).symm.trans H; with_reducible exact H2_) | with_reducible exact H | (rw [hy125]; exact H) | exact H
                                      have Ny125 := Aside0.mk hy125
                                      clear hy125
                                      have H' := Aside0.mk H
                                      clear H
                                      have p112 : 0 ≤ (x5_1 : Int) := of_decide_eq_true (by first | (with_reducible assumption) | assumption)
                                      have q112 : x5_1 < (l1.length : Int) := of_decide_eq_true (by first | (with_reducible assumption) | assumption)
                                      obtain ⟨ad112, e112, hx112_0⟩ := Kd.at_int (Kd.C_kept_now HR1.out HK.out) x5_1 p112 q112
                                      cases e112
                                      replace p112 := eq_true p112
                                      replace q112 := eq_true q112
                                      have p120 : 0 ≤ ((ji16) : Int) := of_decide_eq_true (by first | (with_reducible assumption) | assumption)
                                      have q120 : (ji16) < (l1.length : Int) := of_decide_eq_true (by first | (with_reducible assumption) | assumption)
                                      obtain ⟨ad120, e120, hx120_0⟩ := Kd.at_int (Kd.C_kept_now HR1.out HK.out) (ji16) p120 q120
                                      obtain rfl : ad112 = ad120 := (by injection e120)
                                      replace p120 := eq_true p120
                                      replace q120 := eq_true q120
                                      have p121 : 0 ≤ ((ji22) : Int) := of_decide_eq_true (by first | (with_reducible assumption) | assumption)
                                      have q121 : (ji22) < (l1.length : Int) := of_decide_eq_true (by first | (with_reducible assumption) | assumption)
                                      obtain ⟨ad121, e121, hx121_0⟩ := Kd.at_int (Kd.C_kept_now HR1.out HK.out) (ji22) p121 q121
                                      obtain rfl : ad112 = ad121 := (by injection e121)
                                      replace p121 := eq_true p121
                                      replace q121 := eq_true q121
                                      go_wp2_with (first | ((with_reducible refine gate_dst (N := 42) rfl ?_); refine Go.Proofs.YtjklempjljikpaaX.index_tab (some 42) rfl rfl 9 _ _ rfl Try.underlying9 tab1 (by kernel_rfl) .u8 (rd l1 (ji16)) rfl (by first | exact of_decide_eq_true (by first | (with_reducible assumption) | assumption) | exact (bt_range _ _).1 | omega) (of_decide_eq_true (by first | (with_reducible assumption) | assumption)) ?_) | ((with_reducible refine gate_dst (N := 48) rfl ?_); refine Go.Proofs.YtjklempjljikpaaX.index_tab (some 48) rfl rfl 9 _ _ rfl Try.underlying9 tab1 (by kernel_rfl) .u8 (rd l1 (ji22)) rfl (by first | exact of_decide_eq_true (by first | (with_reducible assumption) | assumption) | exact (bt_range _ _).1 | omega) (of_decide_eq_true (by first | (with_reducible assumption) | assumption)) ?_) | ((with_reducible refine gate_builtin (b := .append) (xs := #[.tmp 55, .tmp 56]) rfl ?_); at_builtin; refine Kd.R_append (Kd.int .u8) (w0 := w0) w0.heap.size rfl (.tmp 55) (.tmp 56) 48 5 (.int .u8 0) 1 rfl Try.underlying48 info5 rfl (by decide) (by omega) u0 x0_1 37 [.int .u8 37] (fun k_ => (P0_ k_ ∨ w.heap.size ≤ k_)) (fun _ => False) rfl rfl ?aP (fun _ hk => hk.elim) ?aF ?aO ?aB ?aS ?aL ?_; (case aP => exact rfl); (case aB => exact (by repeat (first | (with_reducible first | exact HB.out | apply below_alloc | apply pw_below_drewN | apply below_drew1) | exact HB.out))); (case aF => exact (fun k_ hk => (.inr (Nat.le_trans (by first | exact HK.out.1 | exact (show Kept w _ (fun k_ => P0_ k_) from by repeat (first | (with_reducible first | exact HK.out | apply Kept.alloc | apply Kept.drewN | apply Kept.drew) | exact HK.out)).1) hk)))); (case aO => exact (by (with_reducible repeat (first | apply Kd.R_alloc | apply Kd.R_drewN | apply Kd.R_drew)); exact HO_0.out)); (case aS => exact (below_size (by repeat (first | (with_reducible first | exact HB.out | apply below_alloc | apply pw_below_drewN | apply below_drew1) | exact HB.out)))); (case aL => have := LMc32.out; omega); intro v126 w33 ho hb hg hat; rw [← Ny125.out] at ho; have n0_ := Aside0.mk (hb); have n1_ := Aside0.mk (Kept.of_grown (S := (fun k_ => P0_ k_)) hg (by repeat (first | (with_reducible first | exact HK.out | apply Kept.alloc | apply Kept.drewN | apply Kept.drew) | exact HK.out)) (fun k_ e_ => (HO_0.out.1 k_ e_))); have n2_ := Aside0.mk (ho); clear HB; clear HK; clear HO_0; have HB := n0_; have HK := n1_; have HO127 := n2_; clear n0_ n1_ n2_; clear ho hb hg hat))
                                      go_roundg k1
                                      case measure => have := HK1.out; omega
                                      case rel => exact ⟨(y125), (ji22), (by first | rfl | (simp; done) | (simp only [← hji22] <;> (first | rfl | simp)) | (simp [*]; done) | (simp [Go.Proofs.YtjklempjljikpaaX.isEmpty_ne]; done)), H', ⟨by have := HK1.out; omega⟩, ⟨by (with_reducible repeat (first | apply Kd.R_alloc | apply Kd.R_drewN | apply Kd.R_drew)); exact HO127.out⟩, ⟨by repeat (first | (with_reducible first | exact HK.out | apply Kept.alloc | apply Kept.drewN | apply Kept.drew) | exact HK.out)⟩, ⟨by repeat (first | (with_reducible first | exact HB.out | apply below_alloc | apply pw_below_drewN | apply below_drew1) | exact HB.out)⟩⟩
                                    · rw [if_neg c32] at H
                                      exact absurd H (by simp)
                                  · rw [if_neg c31] at H
                                    have c31b0 : ((bt tab1 (rd l1 (ji16))) == 16) = false := beq_eq_false_iff_ne.mpr c31
                                    have c31b1 : ((bt tab1 (rd l1 (ji16))) != 16) = true := bne_iff_ne.mpr c31
                                    by_cases c34 : x0_1.length < 140737488355328
                                    · rw [if_pos c34] at H
                                      have LMc34 := Aside0.mk c34
                                      clear c34
                                      obtain ⟨y128, hy128⟩ : ∃ y_ : List Int, y_ = (x0_1 ++ [Go.bits .or .u8 (((bt tab1 (rd l1 (ji22))) * 16) % 256) (bt tab1 (rd l1 (ji16)))]) := ⟨_, rfl⟩
                                      replace H : (hertzproto_decodeArgAppendNoPlus.l0 k1 y128 l1 (wrap64 ((ji16) + 1))) = some r := by first | (rw [hy128]; with_reducible exact H) | (have H2_ := (Option.bind_some _ _).symm.trans H; rw [hy128]; with_reducible exact H2_) | (have H2_ := (Option.bind_some _ _).symm.trans H; with_reducible exact H2_) | with_reducible exact H | (rw [hy128]; exact H) | exact H
                                      have Ny128 := Aside0.mk hy128
                                      clear hy128
                                      have H' := Aside0.mk H
                                      clear H
                                      have p112 : 0 ≤ (x5_1 : Int) := of_decide_eq_true (by first | (with_reducible assumption) | assumption)
                                      have q112 : x5_1 < (l1.length : Int) := of_decide_eq_true (by first | (with_reducible assumption) | assumption)
                                      obtain ⟨ad112, e112, hx112_0⟩ := Kd.at_int (Kd.C_kept_now HR1.out HK.out) x5_1 p112 q112
                                      cases e112
                                      replace p112 := eq_true p112
                                      replace q112 := eq_true q112
                                      have p120 : 0 ≤ ((ji16) : Int) := of_decide_eq_true (by first | (with_reducible assumption) | assumption)
                                      have q120 : (ji16) < (l1.length : Int) := of_decide_eq_true (by first | (with_reducible assumption) | assumption)
                                      obtain ⟨ad120, e120, hx120_0⟩ := Kd.at_int (Kd.C_kept_now HR1.out HK.out) (ji16) p120 q120
                                      obtain rfl : ad112 = ad120 := (by injection e120)
                                      replace p120 := eq_true p120
                                      replace q120 := eq_true q120
                                      have p121 : 0 ≤ ((ji22) : Int) := of_decide_eq_true (by first | (with_reducible assumption) | assumption)
                                      have q121 : (ji22) < (l1.length : Int) := of_decide_eq_true (by first | (with_reducible assumption) | assumption)
                                      obtain ⟨ad121, e121, hx121_0⟩ := Kd.at_int (Kd.C_kept_now HR1.out HK.out) (ji22) p121 q121
                                      obtain rfl : ad112 = ad121 := (by injection e121)
                                      replace p121 := eq_true p121
                                      replace q121 := eq_true q121
                                      go_wp2_with (first | ((with_reducible refine gate_dst (N := 42) rfl ?_); refine Go.Proofs.YtjklempjljikpaaX.index_tab (some 42) rfl rfl 9 _ _ rfl Try.underlying9 tab1 (by kernel_rfl) .u8 (rd l1 (ji16)) rfl (by first | exact of_decide_eq_true (by first | (with_reducible assumption) | assumption) | exact (bt_range _ _).1 | omega) (of_decide_eq_true (by first | (with_reducible assumption) | assumption)) ?_) | ((with_reducible refine gate_dst (N := 48) rfl ?_); refine Go.Proofs.YtjklempjljikpaaX.index_tab (some 48) rfl rfl 9 _ _ rfl Try.underlying9 tab1 (by kernel_rfl) .u8 (rd l1 (ji22)) rfl (by first | exact of_decide_eq_true (by first | (with_reducible assumption) | assumption) | exact (bt_range _ _).1 | omega) (of_decide_eq_true (by first | (with_reducible assumption) | assumption)) ?_) | ((with_reducible refine gate_builtin (b := .append) (xs := #[.tmp 58, .tmp 63]) rfl ?_); at_builtin; refine Kd.R_append (Kd.int .u8) (w0 := w0) w0.heap.size rfl (.tmp 58) (.tmp 63) 48 5 (.int .u8 0) 1 rfl Try.underlying48 info5 rfl (by decide) (by omega) u0 x0_1 (Go.bits .or .u8 (((bt tab1 (rd l1 (ji22))) * 16) % 256) (bt tab1 (rd l1 (ji16)))) [.int .u8 (Go.bits .or .u8 (((bt tab1 (rd l1 (ji22))) * 16) % 256) (bt tab1 (rd l1 (ji16))))] (fun k_ => (P0_ k_ ∨ w.heap.size ≤ k_)) (fun _ => False) rfl rfl ?aP (fun _ hk => hk.elim) ?aF ?aO ?aB ?aS ?aL ?_; (case aP => exact rfl); (case aB => exact (by repeat (first | (with_reducible first | exact HB.out | apply below_alloc | apply pw_below_drewN | apply below_drew1) | exact HB.out))); (case aF => exact (fun k_ hk => (.inr (Nat.le_trans (by first | exact HK.out.1 | exact (show Kept w _ (fun k_ => P0_ k_) from by repeat (first | (with_reducible first | exact HK.out | apply Kept.alloc | apply Kept.drewN | apply Kept.drew) | exact HK.out)).1) hk)))); (case aO => exact (by (with_reducible repeat (first | apply Kd.R_alloc | apply Kd.R_drewN | apply Kd.R_drew)); exact HO_0.out)); (case aS => exact (below_size (by repeat (first | (with_reducible first | exact HB.out | apply below_alloc | apply pw_below_drewN | apply below_drew1) | exact HB.out)))); (case aL => have := LMc34.out; omega); intro v129 w35 ho hb hg hat; rw [← Ny128.out] at ho; have n0_ := Aside0.mk (hb); have n1_ := Aside0.mk (Kept.of_grown (S := (fun k_ => P0_ k_)) hg (by repeat (first | (with_reducible first | exact HK.out | apply Kept.alloc | apply Kept.drewN | apply Kept.drew) | exact HK.out)) (fun k_ e_ => (HO_0.out.1 k_ e_))); have n2_ := Aside0.mk (ho); clear HB; clear HK; clear HO_0; have HB := n0_; have HK := n1_; have HO130 := n2_; clear n0_ n1_ n2_; clear ho hb hg hat))
                                      go_roundg k1
                                      case measure => have := HK1.out; omega
                                      case rel => exact ⟨(y128), (wrap64 ((ji16) + 1)), (by first | rfl | (simp; done) | (simp only [← hji16] <;> (first | rfl | simp)) | (simp [*]; done) | (simp [Go.Proofs.YtjklempjljikpaaX.isEmpty_ne]; done)), H', ⟨by have := HK1.out; omega⟩, ⟨by (with_reducible repeat (first | apply Kd.R_alloc | apply Kd.R_drewN | apply Kd.R_drew)); exact HO130.out⟩, ⟨by repeat (first | (with_reducible first | exact HK.out | apply Kept.alloc | apply Kept.drewN | apply Kept.drew) | exact HK.out)⟩, ⟨by repeat (first | (with_reducible first | exact HB.out | apply below_alloc | apply pw_below_drewN | apply below_drew1) | exact HB.out)⟩⟩
                                    · rw [if_neg c34] at H
                                      exact absurd H (by simp)
                              · rw [if_neg c26] at H
                                exact absurd H (by simp)
                            · rw [if_neg c25] at H
                              exact absurd H (by simp)
                          · rw [if_neg c24] at H
                            exact absurd H (by simp)
                        · rw [if_neg c23] at H
                          exact absurd H (by simp)
                      · rw [if_neg c20] at H
                        exact absurd H (by simp)
                    · rw [if_neg c19] at H
                      exact absurd H (by simp)
                  · rw [if_neg c18] at H
                    exact absurd H (by simp)
                · rw [if_neg c17] at H
                  exact absurd H (by simp)
            · rw [if_neg c9] at H
              have c9b0 : ((rd l1 x5_1) == 37) = false := beq_eq_false_iff_ne.mpr c9
              have c9b1 : ((rd l1 x5_1) != 37) = true := bne_iff_ne.mpr c9
              by_cases c36 : x0_1.length < 140737488355328
              · rw [if_pos c36] at H
                have LMc36 := Aside0.mk c36
                clear c36
                obtain ⟨y131, hy131⟩ : ∃ y_ : List Int, y_ = (x0_1 ++ [rd l1 x5_1]) := ⟨_, rfl⟩
                replace H : (hertzproto_decodeArgAppendNoPlus.l0 k1 y131 l1 (wrap64 (x5_1 + 1))) = some r := by first | (rw [hy131]; with_reducible exact H) | (have H2_ := (Option.bind_some _ _).symm.trans H; rw [hy131]; with_reducible exact H2_) | (have H2_ := (Option.bind_some _ _).symm.trans H; with_reducible exact H2_) | with_reducible exact H | (rw [hy131]; exact H) | exact H
                have Ny131 := Aside0.mk hy131
                clear hy131
                have H' := Aside0.mk H
                clear H
                have p112 : 0 ≤ (x5_1 : Int) := of_decide_eq_true (by first | (with_reducible assumption) | assumption)
                have q112 : x5_1 < (l1.length : Int) := of_decide_eq_true (by first | (with_reducible assumption) | assumption)
                obtain ⟨ad112, e112, hx112_0⟩ := Kd.at_int (Kd.C_kept_now HR1.out HK.out) x5_1 p112 q112
                cases e112
                replace p112 := eq_true p112
                replace q112 := eq_true q112
                go_wp2_with (first | ((with_reducible refine gate_builtin (b := .append) (xs := #[.tmp 67, .tmp 69]) rfl ?_); at_builtin; refine Kd.R_append (Kd.int .u8) (w0 := w0) w0.heap.size rfl (.tmp 67) (.tmp 69) 48 5 (.int .u8 0) 1 rfl Try.underlying48 info5 rfl (by decide) (by omega) u0 x0_1 (rd l1 x5_1) [.int .u8 (rd l1 x5_1)] (fun k_ => (P0_ k_ ∨ w.heap.size ≤ k_)) (fun _ => False) rfl rfl ?aP (fun _ hk => hk.elim) ?aF ?aO ?aB ?aS ?aL ?_; (case aP => exact rfl); (case aB => exact (by repeat (first | (with_reducible first | exact HB.out | apply below_alloc | apply pw_below_drewN | apply below_drew1) | exact HB.out))); (case aF => exact (fun k_ hk => (.inr (Nat.le_trans (by first | exact HK.out.1 | exact (show Kept w _ (fun k_ => P0_ k_) from by repeat (first | (with_reducible first | exact HK.out | apply Kept.alloc | apply Kept.drewN | apply Kept.drew) | exact HK.out)).1) hk)))); (case aO => exact (by (with_reducible repeat (first | apply Kd.R_alloc | apply Kd.R_drewN | apply Kd.R_drew)); exact HO_0.out)); (case aS => exact (below_size (by repeat (first | (with_reducible first | exact HB.out | apply below_alloc | apply pw_below_drewN | apply below_drew1) | exact HB.out)))); (case aL => have := LMc36.out; omega); intro v132 w37 ho hb hg hat; rw [← Ny131.out] at ho; have n0_ := Aside0.mk (hb); have n1_ := Aside0.mk (Kept.of_grown (S := (fun k_ => P0_ k_)) hg (by repeat (first | (with_reducible first | exact HK.out | apply Kept.alloc | apply Kept.drewN | apply Kept.drew) | exact HK.out)) (fun k_ e_ => (HO_0.out.1 k_ e_))); have n2_ := Aside0.mk (ho); clear HB; clear HK; clear HO_0; have HB := n0_; have HK := n1_; have HO133 := n2_; clear n0_ n1_ n2_; clear ho hb hg hat))
                go_roundg k1
                case measure => have := HK1.out; omega
                case rel => exact ⟨(y131), (wrap64 (x5_1 + 1)), (by first | rfl | (simp; done) | (simp [*]; done) | (simp [Go.Proofs.YtjklempjljikpaaX.isEmpty_ne]; done)), H', ⟨by have := HK1.out; omega⟩, ⟨by (with_reducible repeat (first | apply Kd.R_alloc | apply Kd.R_drewN | apply Kd.R_drew)); exact HO133.out⟩, ⟨by repeat (first | (with_reducible first | exact HK.out | apply Kept.alloc | apply Kept.drewN | apply Kept.drew) | exact HK.out)⟩, ⟨by repeat (first | (with_reducible first | exact HB.out | apply below_alloc | apply pw_below_drewN | apply below_drew1) | exact HB.out)⟩⟩
              · rw [if_neg c36] at H
                exact absurd H (by simp)
          · rw [if_neg c8] at H
            exact absurd H (by simp)
        · rw [if_neg c7] at H
          have c7b0 : decide (x5_1 < (l1.length : Int)) = false := decide_eq_false c7
          clear c7
          obtain rfl := Option.some.inj H
          go_wp2
          go_ret
          exact ⟨_, by first | rfl | (simp [errW_none, errW_some] <;> rfl) | (simp [*, errW_none, errW_some] <;> rfl), by (with_reducible repeat (first | apply Kd.R_alloc | apply Kd.R_drewN | apply Kd.R_drew)); exact HO_0.out, by repeat (first | (with_reducible first | exact HB.out | apply below_alloc | apply pw_below_drewN | apply below_drew1) | exact HB.out), by repeat (first | (with_reducible first | exact HK.out | apply Kept.alloc | apply Kept.drewN | apply Kept.drew) | exact HK.out)⟩

end Go.Proofs.Ytjklempjljikpaa.Q
