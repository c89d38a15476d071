-- Written by a program of this session out of the translation, with the kit's printer. Not trusted: Lean checks it.
import Derived.Test.YtipmmjbjgbfgjaaQ0
namespace Go.Proofs.Ytipmmjbjgbfgjaa.Q
open Go.RowKit Go.Proofs.YtipmmjbjgbfgjaaW.PrintWords Go.Proofs.YtipmmjbjgbfgjaaW.PrintLast Go.Proofs.YtipmmjbjgbfgjaaW.PrintMore
attribute [local go_sem] max2_int min2_int max_two min_two max_three min_three max_four min_four   -- for this text's walks alone
set_option linter.unusedVariables false
set_option linter.unusedSimpArgs false

/-! ### fiberutils_ToLowerBytes: function 61 -/
def fiberutils_ToLowerBytes.l0 : Nat → List Int → Int → Option (List Int)
  | 0, _, _ => none
  | k + 1, x0, x3 => if x3 < (x0.length : Int) then (if 0 ≤ x3 then (if 0 ≤ (rd x0 x3) then (if (rd x0 x3) < (tab2.size : Int) then (fiberutils_ToLowerBytes.l0 k (x0.set (x3 : Int).toNat (bt tab2 (rd x0 x3))) (wrap64 (x3 + 1))) else (none)) else (none)) else (none)) else (some x0)
def fiberutils_ToLowerBytes.f (k : Nat) (l0 : List Int) : Option (List Int) := fiberutils_ToLowerBytes.l0 k l0 0
theorem fiberutils_ToLowerBytes.mono_l : ∀ k, (∀ y0 y1, LeO (fiberutils_ToLowerBytes.l0 k y0 y1) (fiberutils_ToLowerBytes.l0 (k + 1) y0 y1))
  | 0 => fun _ _ r h => by simp [fiberutils_ToLowerBytes.l0] at h
  | k + 1 => by
    have ih0 := fiberutils_ToLowerBytes.mono_l k
    · intro y0 y1
      unfold fiberutils_ToLowerBytes.l0
      repeat' first
      | (with_reducible exact ih0 _ _)
      | (with_reducible exact LeO.refl _)
      | (with_reducible exact LeO.none _)
      | (with_reducible refine LeO.ite ?_ ?_)
      | (with_reducible refine LeO.bind ?_ (fun _ => ?_))
      | exact ih0 _ _
      | exact LeO.none _
      | refine LeO.ite ?_ ?_
      | refine LeO.bind ?_ (fun _ => ?_)
theorem fiberutils_ToLowerBytes.mono : ∀ a0 k, LeO (fiberutils_ToLowerBytes.f k a0) (fiberutils_ToLowerBytes.f (k + 1) a0) := by
  intro a0 k
  have ih0 := fiberutils_ToLowerBytes.mono_l k
  unfold fiberutils_ToLowerBytes.f
  repeat' first
      | (with_reducible exact ih0 _ _)
      | (with_reducible exact LeO.refl _)
      | (with_reducible exact LeO.none _)
      | (with_reducible refine LeO.ite ?_ ?_)
      | (with_reducible refine LeO.bind ?_ (fun _ => ?_))
      | exact ih0 _ _
      | exact LeO.none _
      | refine LeO.ite ?_ ?_
      | refine LeO.bind ?_ (fun _ => ?_)
set_option maxHeartbeats 8000000 in
set_option maxRecDepth 100000 in
theorem fiberutils_ToLowerBytes.calls (k : Nat) (P0_ : Nat → Prop) (u9000_ : Value) (l0 : List Int) (r : List Int) (w0 w : World) (hB : Below w0.heap.size w0 w) (ho0 : Kd.R (Kd.int .u8) 5 w w0.heap.size P0_ u9000_ l0) (h : fiberutils_ToLowerBytes.f k l0 = some r) :
    Calls Try.prog 61 #[u9000_] w fun e w' => ∃ v0_ : Value, e = .returned (v0_) ∧ Kd.R (Kd.int .u8) 5 w' w0.heap.size (fun k_ => (P0_ k_ ∨ w.heap.size ≤ k_)) v0_ r ∧ Below w0.heap.size w0 w' ∧ Kept w w' (fun k_ => P0_ k_) := by
  have HO0 := Aside0.mk (show Kd.R (Kd.int .u8) 5 w w0.heap.size (fun k_ => (P0_ k_ ∨ w.heap.size ≤ k_)) u9000_ l0 from Kd.R_mono ho0 (fun k_ hk => (.inl hk)))
  have HK := Aside0.mk (Kept.refl w (fun k_ => P0_ k_))
  have HW0 := Aside0.mk hB.size
  have HB := Aside0.mk hB
  clear hB
  have H : (fiberutils_ToLowerBytes.l0 k l0 0) = some r := h
  clear h
  have H' := Aside0.mk H
  clear H
  go_enter Try.func61, Try.ntmps61
  go_wp2
  go_loopg [3] k (fun kq v3 w' => ∃ (x0_1 : List Int) (x3_1 : Int), v3 = .int .i64 x3_1 ∧ Aside0 (fiberutils_ToLowerBytes.l0 kq x0_1 x3_1 = some r) ∧ Aside0 (kq ≤ k) ∧ Aside0 (Kd.R (Kd.int .u8) 5 w' w0.heap.size (fun k_ => (P0_ k_ ∨ w.heap.size ≤ k_)) u9000_ x0_1) ∧ Aside0 (Kept w w' (fun k_ => P0_ k_)) ∧ Aside0 (Below w0.heap.size w0 w'))
  case atStart => exact ⟨(l0), (0), (by first | rfl | (simp; done) | (simp [*]; done) | (simp [Go.Proofs.YtipmmjbjgbfgjaaX.isEmpty_ne]; done)), H', ⟨Nat.le_refl _⟩, ⟨by (with_reducible repeat (first | apply Kd.R_alloc | apply Kd.R_drewN | apply Kd.R_drew)); exact HO0.out⟩, ⟨by repeat (first | (with_reducible first | exact HK.out | apply Kept.alloc | apply Kept.drewN | apply Kept.drew) | exact HK.out)⟩, ⟨by repeat (first | (with_reducible first | exact HB.out | apply below_alloc | apply pw_below_drewN | apply below_drew1) | exact HB.out)⟩⟩
  case round =>
    clear H'
    obtain ⟨x0_1, x3_1, rfl, HA, HK1, HO_0, HK, HB⟩ := hrel
    cases gk with
    | zero => exact absurd HA.out (by simp [fiberutils_ToLowerBytes.l0])
    | succ k1 =>
      have H := HA.out
      clear HA
      simp only [fiberutils_ToLowerBytes.l0] at H
      by_cases c2 : x3_1 < (x0_1.length : Int)
      · rw [if_pos c2] at H
        have c2b0 : decide (x3_1 < (x0_1.length : Int)) = true := decide_eq_true c2
        clear c2
        by_cases c3 : 0 ≤ x3_1
        · rw [if_pos c3] at H
          have c3b0 : decide (0 ≤ x3_1) = true := decide_eq_true c3
          clear c3
          by_cases c4 : 0 ≤ (rd x0_1 x3_1)
          · rw [if_pos c4] at H
            have c4b0 : decide (0 ≤ (rd x0_1 x3_1)) = true := decide_eq_true c4
            clear c4
            by_cases c5 : (rd x0_1 x3_1) < (tab2.size : Int)
            · rw [if_pos c5] at H
              have c5b0 : decide ((rd x0_1 x3_1) < (tab2.size : Int)) = true := decide_eq_true c5
              clear c5
              obtain ⟨y139, hy139⟩ : ∃ y_ : List Int, y_ = (x0_1.set (x3_1 : Int).toNat (bt tab2 (rd x0_1 x3_1))) := ⟨_, rfl⟩
              replace H : (fiberutils_ToLowerBytes.l0 k1 y139 (wrap64 (x3_1 + 1))) = some r := by first | (rw [hy139]; with_reducible exact H) | (have H2_ := (Option.bind_some _ _).symm.trans H; rw [hy139]; with_reducible exact H2_) | (have H2_ := (Option.bind_some _ _).symm.trans H; with_reducible exact H2_) | with_reducible exact H | (rw [hy139]; exact H) | exact H
              have Ny139 := Aside0.mk hy139
              clear hy139
              have H' := Aside0.mk H
              clear H
              obtain ⟨Ao8, co8, eo8⟩ := Kd.R_slice HO_0.out
              subst eo8
              have p138 : 0 ≤ (x3_1 : Int) := of_decide_eq_true (by first | (with_reducible assumption) | assumption)
              have q138 : x3_1 < (x0_1.length : Int) := of_decide_eq_true (by first | (with_reducible assumption) | assumption)
              obtain ⟨ad138, e138, hx138_0⟩ := Kd.at_int (Kd.R_reads' HO_0.out).2.2 x3_1 p138 q138
              cases e138
              replace p138 := eq_true p138
              replace q138 := eq_true q138
              have p7 : 0 ≤ (x3_1 : Int) := of_decide_eq_true (by first | (with_reducible assumption) | assumption)
              have q7 : (x3_1 : Int) < ((x0_1.length : Int) : Int) := of_decide_eq_true (by first | (with_reducible assumption) | assumption)
              obtain ⟨go7, co7, eo7, gb7, gl7, cl7, HG7⟩ := Kd.R_form HO_0.out (by omega)
              (first | cases eo7 | (injection eo7 with ea_ en_ ec_; (first | subst ea_ | (injection ea_ with ea_; subst ea_)); subst ec_; clear en_))
              have GB7 := Aside0.mk gb7
              have GG7 := Aside0.mk HG7
              clear gb7 gl7 HG7
              have HMgo7 := Aside0.mk (show (P0_ go7 ∨ w.heap.size ≤ go7) from (HO_0.out.1 _ rfl))
              (first | simp only [add_plain] at hx138_0 | skip)
              obtain ⟨hx7_0, hf7_0⟩ := Kd.R_celln 0 HO_0.out (x3_1 : Int) p7 q7
              replace p7 := eq_true p7
              replace q7 := eq_true q7
              have HP9 := Kd.R_putg HO_0.out (x3_1 : Int) (bt tab2 (rd x0_1 x3_1))
              go_wp2_with (first | ((with_reducible refine gate_dst (N := 16) rfl ?_); refine Go.Proofs.YtipmmjbjgbfgjaaX.index_tab (some 16) rfl rfl 9 _ _ rfl Try.underlying9 tab2 (by kernel_rfl) .u8 (rd x0_1 x3_1) rfl (by first | exact of_decide_eq_true (by first | (with_reducible assumption) | assumption) | exact (bt_range _ _).1 | omega) (of_decide_eq_true (by first | (with_reducible assumption) | assumption)) ?_) | ((with_reducible refine gate_store (t := 5) (p := 17) rfl ?_); refine store_event (t := 5) (p := 17) (v := ?vo_w10) (w1 := (wr.setCell ⟨go7, (x3_1 : Int).toNat, none⟩ (.int .u8 (bt tab2 (rd x0_1 x3_1))))) ?hg ?ho ?hn ?hr ?_; (case ho => rfl); (case hg => rfl); (case hn => rfl); (case hr => first | (go_simp; done) | (go_simp; rfl)); intro w10 hw; have hg : wr.grownBy w10 (some go7) := (by rw [hw]; exact HP9.2); have hp_ : Kd.R (Kd.int .u8) 5 w10 w0.heap.size (fun k_ => (P0_ k_ ∨ w.heap.size ≤ k_)) (.slice (some ⟨go7, 0, none⟩) x0_1.length co8) y139 := (by rw [hw, Ny139.out]; exact HP9.1); clear HP9; have n0_ := Aside0.mk (hp_); have n1_ := Aside0.mk ((by rw [hw]; exact below_set (HB.out) GB7.out : Below w0.heap.size w0 w10)); have n2_ := Aside0.mk (Kept.of_grown (S := (fun k_ => P0_ k_)) hg (by repeat (first | (with_reducible first | exact HK.out | apply Kept.alloc | apply Kept.drewN | apply Kept.drew) | exact HK.out)) (fun k_ e_ => (HO_0.out.1 k_ e_))); clear HO_0; clear HB; clear HK; have HO_0 := n0_; have HB := n1_; have HK := n2_; clear n0_ n1_ n2_; clear hg hw hp_))
              go_roundg k1
              case measure => have := HK1.out; omega
              case rel => exact ⟨(y139), (wrap64 (x3_1 + 1)), (by first | rfl | (simp; done) | (simp [*]; done) | (simp [Go.Proofs.YtipmmjbjgbfgjaaX.isEmpty_ne]; done)), H', ⟨by have := HK1.out; omega⟩, ⟨by (with_reducible repeat (first | apply Kd.R_alloc | apply Kd.R_drewN | apply Kd.R_drew)); exact HO_0.out⟩, ⟨by repeat (first | (with_reducible first | exact HK.out | apply Kept.alloc | apply Kept.drewN | apply Kept.drew) | exact HK.out)⟩, ⟨by repeat (first | (with_reducible first | exact HB.out | apply below_alloc | apply pw_below_drewN | apply below_drew1) | exact HB.out)⟩⟩
            · rw [if_neg c5] at H
              exact absurd H (by simp)
          · rw [if_neg c4] at H
            exact absurd H (by simp)
        · rw [if_neg c3] at H
          exact absurd H (by simp)
      · rw [if_neg c2] at H
        have c2b0 : decide (x3_1 < (x0_1.length : Int)) = false := decide_eq_false c2
        clear c2
        obtain rfl := Option.some.inj H
        obtain ⟨Ao11, co11, eo11⟩ := Kd.R_slice HO_0.out
        subst eo11
        go_wp2
        go_ret
        exact ⟨_, by first | rfl | (simp [errW_none, errW_some] <;> rfl) | (simp [*, errW_none, errW_some] <;> rfl), by (with_reducible repeat (first | apply Kd.R_alloc | apply Kd.R_drewN | apply Kd.R_drew)); exact HO_0.out, by repeat (first | (with_reducible first | exact HB.out | apply below_alloc | apply pw_below_drewN | apply below_drew1) | exact HB.out), by repeat (first | (with_reducible first | exact HK.out | apply Kept.alloc | apply Kept.drewN | apply Kept.drew) | exact HK.out)⟩

end Go.Proofs.Ytipmmjbjgbfgjaa.Q
