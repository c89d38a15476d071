import Derived.Test.YtipmmjbjgbfgjaaQ0
import Derived.Test.YtipmmjbjgbfgjaaQ1
import Derived.Test.YtipmmjbjgbfgjaaQ3
import Derived.Test.YtipmmjbjgbfgjaaQ7
-- Written by a program of this session out of the translation, with the kit's printer. Not trusted: Lean checks it.
namespace Go.Proofs.Ytipmmjbjgbfgjaa.Q
open Go.RowKit Go.Proofs.YtipmmjbjgbfgjaaW.PrintWords Go.Proofs.YtipmmjbjgbfgjaaW.PrintLast Go.Proofs.YtipmmjbjgbfgjaaW.PrintMore
attribute [local go_sem] max2_int min2_int max_two min_two max_three min_three max_four min_four   -- for this text's walks alone
set_option linter.unusedVariables false
set_option linter.unusedSimpArgs false

/-! ### laws_FnTokensSay: function 9 -/
mutual
def laws_FnTokensSay.j0 : Nat → List (S57) → List (S56) → Bool → Option (Bool)
  | 0, _, _, _ => none
  | k + 1, x4, x6, x42 => if x42 = true then (some false) else (laws_FnTokensSay.l0 k x4 x6 (x4.length : Int) 0)
def laws_FnTokensSay.l0 : Nat → List (S57) → List (S56) → Int → Int → Option (Bool)
  | 0, _, _, _, _ => none
  | k + 1, x4, x6, x44, x45 => if x45 < x44 then (if 0 ≤ x45 then (if x45 < (x6.length : Int) then (if x45 < (x4.length : Int) then (if ((rd_T56 x6 x45).f0) = ((rd_T57 x4 x45).f0) then (if ((rd_T56 x6 x45).f1).toList = ((rd_T57 x4 x45).f1).toList then (laws_FnTokensSay.l0 k x4 x6 x44 (wrap64 (x45 + 1))) else (some false)) else (some false)) else (none)) else (none)) else (none)) else (some true)
end
def laws_FnTokensSay.f (k : Nat) (a0 : ByteArray) : Option (Bool) := if (a0.size : Int) > 2147483647 then (some true) else ((impl_Tokens.f (⟨#[123, 105, 100, 125]⟩ : ByteArray)).bind fun t130 => (if (t130.length : Int) = 4 then ((laws_short.f k (([a0] : List ByteArray))).bind fun t136 => (if t136 = true then ((spec_Tokens.f k a0).bind fun bt137 => (if bt137.2 = 1 then ((impl_Tokens.f a0).bind fun t141 => (if (t141.length : Int) = (wrap64 ((bt137.1.length : Int) + 1)) then (if 0 ≤ (bt137.1.length : Int) then (if (bt137.1.length : Int) < (t141.length : Int) then (laws_FnTokensSay.j0 k bt137.1 t141 (((rd_T56 t141 (bt137.1.length : Int)).f0) != 0)) else (none)) else (none)) else (laws_FnTokensSay.j0 k bt137.1 t141 true))) else (some true))) else (some true))) else (some false)))
theorem laws_FnTokensSay.mono_l : ∀ k, (∀ y0 y1 y2, LeO (laws_FnTokensSay.j0 k y0 y1 y2) (laws_FnTokensSay.j0 (k + 1) y0 y1 y2)) ∧ (∀ y0 y1 y2 y3, LeO (laws_FnTokensSay.l0 k y0 y1 y2 y3) (laws_FnTokensSay.l0 (k + 1) y0 y1 y2 y3))
  | 0 => ⟨fun _ _ _ r h => by simp [laws_FnTokensSay.j0] at h, fun _ _ _ _ r h => by simp [laws_FnTokensSay.l0] at h⟩
  | k + 1 => by
    obtain ⟨ih0, ih1⟩ := laws_FnTokensSay.mono_l k
    refine ⟨?_, ?_⟩
    · intro y0 y1 y2
      unfold laws_FnTokensSay.j0
      repeat' first
      | (with_reducible exact ih0 _ _ _)
      | (with_reducible exact ih1 _ _ _ _)
      | (with_reducible exact laws_short.mono _ _)
      | (with_reducible exact spec_Tokens.mono _ _)
      | (with_reducible exact LeO.refl _)
      | (with_reducible exact LeO.none _)
      | (with_reducible refine LeO.ite ?_ ?_)
      | (with_reducible refine LeO.bind ?_ (fun _ => ?_))
      | exact ih0 _ _ _
      | exact ih1 _ _ _ _
      | exact laws_short.mono _ _
      | exact spec_Tokens.mono _ _
      | exact LeO.none _
      | refine LeO.ite ?_ ?_
      | refine LeO.bind ?_ (fun _ => ?_)
    · intro y0 y1 y2 y3
      unfold laws_FnTokensSay.l0
      repeat' first
      | (with_reducible exact ih0 _ _ _)
      | (with_reducible exact ih1 _ _ _ _)
      | (with_reducible exact laws_short.mono _ _)
      | (with_reducible exact spec_Tokens.mono _ _)
      | (with_reducible exact LeO.refl _)
      | (with_reducible exact LeO.none _)
      | (with_reducible refine LeO.ite ?_ ?_)
      | (with_reducible refine LeO.bind ?_ (fun _ => ?_))
      | exact ih0 _ _ _
      | exact ih1 _ _ _ _
      | exact laws_short.mono _ _
      | exact spec_Tokens.mono _ _
      | exact LeO.none _
      | refine LeO.ite ?_ ?_
      | refine LeO.bind ?_ (fun _ => ?_)
theorem laws_FnTokensSay.mono : ∀ a0 k, LeO (laws_FnTokensSay.f k a0) (laws_FnTokensSay.f (k + 1) a0) := by
  intro a0 k
  obtain ⟨ih0, ih1⟩ := laws_FnTokensSay.mono_l k
  unfold laws_FnTokensSay.f
  repeat' first
      | (with_reducible exact ih0 _ _ _)
      | (with_reducible exact ih1 _ _ _ _)
      | (with_reducible exact laws_short.mono _ _)
      | (with_reducible exact spec_Tokens.mono _ _)
      | (with_reducible exact LeO.refl _)
      | (with_reducible exact LeO.none _)
      | (with_reducible refine LeO.ite ?_ ?_)
      | (with_reducible refine LeO.bind ?_ (fun _ => ?_))
      | exact ih0 _ _ _
      | exact ih1 _ _ _ _
      | exact laws_short.mono _ _
      | exact spec_Tokens.mono _ _
      | exact LeO.none _
      | refine LeO.ite ?_ ?_
      | refine LeO.bind ?_ (fun _ => ?_)
set_option maxHeartbeats 8000000 in
set_option maxRecDepth 100000 in
theorem laws_FnTokensSay.calls (k : Nat) (a0 : ByteArray) (r : Bool) (w : World) (h : laws_FnTokensSay.f k a0 = some r) :
    Calls Try.prog 9 #[.string a0] w fun e w' => e = .returned (.bool r) ∧ Below w.heap.size w w' := by
  have HB := Aside0.mk (Below.refl w.heap.size w)
  have H : (if (a0.size : Int) > 2147483647 then (some true) else ((impl_Tokens.f (⟨#[123, 105, 100, 125]⟩ : ByteArray)).bind fun t130 => (if (t130.length : Int) = 4 then ((laws_short.f k (([a0] : List ByteArray))).bind fun t136 => (if t136 = true then ((spec_Tokens.f k a0).bind fun bt137 => (if bt137.2 = 1 then ((impl_Tokens.f a0).bind fun t141 => (if (t141.length : Int) = (wrap64 ((bt137.1.length : Int) + 1)) then (if 0 ≤ (bt137.1.length : Int) then (if (bt137.1.length : Int) < (t141.length : Int) then (laws_FnTokensSay.j0 k bt137.1 t141 (((rd_T56 t141 (bt137.1.length : Int)).f0) != 0)) else (none)) else (none)) else (laws_FnTokensSay.j0 k bt137.1 t141 true))) else (some true))) else (some true))) else (some false)))) = some r := h
  clear h
  by_cases c2 : (a0.size : Int) > 2147483647
  · rw [if_pos c2] at H
    have c2b0 : decide (2147483647 < (a0.size : Int)) = true := decide_eq_true c2
    have c2b1 : decide (2147483647 < a0.size) = true := decide_eq_true (by omega)
    clear c2
    obtain rfl := Option.some.inj H
    go_enter Try.func9, Try.ntmps9
    go_wp2
    have hw8_ := Go.Proofs.YtipmmjbjgbfgjaaX.wrap_u8; have hw64_ := Go.Proofs.YtipmmjbjgbfgjaaX.wrap_i64; repeat (go_quiet (fail); try go_wp2)
    go_ret
    exact ⟨by first | rfl | (simp [errW_none, errW_some] <;> rfl) | (simp [*, errW_none, errW_some] <;> rfl), by repeat (first | (with_reducible first | exact HB.out | apply below_alloc | apply pw_below_drewN | apply below_drew1) | exact HB.out)⟩
  · rw [if_neg c2] at H
    have c2b0 : decide (2147483647 < (a0.size : Int)) = false := decide_eq_false c2
    have c2b1 : decide (2147483647 < a0.size) = false := decide_eq_false (by omega)
    clear c2
    replace H := Option.bind_eq_some_iff.mp H
    obtain ⟨t130, A30, H⟩ := H
    replace H : (if (t130.length : Int) = 4 then ((laws_short.f k (([a0] : List ByteArray))).bind fun t136 => (if t136 = true then ((spec_Tokens.f k a0).bind fun bt137 => (if bt137.2 = 1 then ((impl_Tokens.f a0).bind fun t141 => (if (t141.length : Int) = (wrap64 ((bt137.1.length : Int) + 1)) then (if 0 ≤ (bt137.1.length : Int) then (if (bt137.1.length : Int) < (t141.length : Int) then (laws_FnTokensSay.j0 k bt137.1 t141 (((rd_T56 t141 (bt137.1.length : Int)).f0) != 0)) else (none)) else (none)) else (laws_FnTokensSay.j0 k bt137.1 t141 true))) else (some true))) else (some true))) else (some false)) = some r := H
    have A3 := Aside0.mk A30
    clear A30
    by_cases c4 : (t130.length : Int) = 4
    · rw [if_pos c4] at H
      have c4b0 : ((t130.length : Int) == 4) = true := beq_iff_eq.mpr c4
      have c4b1 : ((t130.length : Int) != 4) = false := bne_eq_false_iff_eq.mpr c4
      clear c4
      obtain ⟨y133, hy133⟩ : ∃ y_ : List ByteArray, y_ = (([a0] : List ByteArray)) := ⟨_, rfl⟩
      replace H : ((laws_short.f k y133).bind fun t136 => (if t136 = true then ((spec_Tokens.f k a0).bind fun bt137 => (if bt137.2 = 1 then ((impl_Tokens.f a0).bind fun t141 => (if (t141.length : Int) = (wrap64 ((bt137.1.length : Int) + 1)) then (if 0 ≤ (bt137.1.length : Int) then (if (bt137.1.length : Int) < (t141.length : Int) then (laws_FnTokensSay.j0 k bt137.1 t141 (((rd_T56 t141 (bt137.1.length : Int)).f0) != 0)) else (none)) else (none)) else (laws_FnTokensSay.j0 k bt137.1 t141 true))) else (some true))) else (some true))) = some r := by first | (rw [hy133]; with_reducible exact H) | (have H2_ := (Option.bind_some _ _).symm.trans H; rw [hy133]; with_reducible exact H2_) | (have H2_ := (Option.bind_some _ _).symm.trans H; with_reducible exact H2_) | with_reducible exact H | (rw [hy133]; exact H) | exact H
      have Ny133 := Aside0.mk hy133
      clear hy133
      replace H := Option.bind_eq_some_iff.mp H
      obtain ⟨t136, A50, H⟩ := H
      replace H : (if t136 = true then ((spec_Tokens.f k a0).bind fun bt137 => (if bt137.2 = 1 then ((impl_Tokens.f a0).bind fun t141 => (if (t141.length : Int) = (wrap64 ((bt137.1.length : Int) + 1)) then (if 0 ≤ (bt137.1.length : Int) then (if (bt137.1.length : Int) < (t141.length : Int) then (laws_FnTokensSay.j0 k bt137.1 t141 (((rd_T56 t141 (bt137.1.length : Int)).f0) != 0)) else (none)) else (none)) else (laws_FnTokensSay.j0 k bt137.1 t141 true))) else (some true))) else (some true)) = some r := H
      have A5 := Aside0.mk A50
      clear A50
      by_cases c6 : t136 = true
      · subst c6
        have H1 : ((spec_Tokens.f k a0).bind fun bt137 => (if bt137.2 = 1 then ((impl_Tokens.f a0).bind fun t141 => (if (t141.length : Int) = (wrap64 ((bt137.1.length : Int) + 1)) then (if 0 ≤ (bt137.1.length : Int) then (if (bt137.1.length : Int) < (t141.length : Int) then (laws_FnTokensSay.j0 k bt137.1 t141 (((rd_T56 t141 (bt137.1.length : Int)).f0) != 0)) else (none)) else (none)) else (laws_FnTokensSay.j0 k bt137.1 t141 true))) else (some true))) = some r := by rw [if_pos rfl] at H; exact H
        clear H
        have H := H1
        clear H1
        replace H := Option.bind_eq_some_iff.mp H
        obtain ⟨⟨t137, t138⟩, A70, H⟩ := H
        replace H : (if t138 = 1 then ((impl_Tokens.f a0).bind fun t141 => (if (t141.length : Int) = (wrap64 ((t137.length : Int) + 1)) then (if 0 ≤ (t137.length : Int) then (if (t137.length : Int) < (t141.length : Int) then (laws_FnTokensSay.j0 k t137 t141 (((rd_T56 t141 (t137.length : Int)).f0) != 0)) else (none)) else (none)) else (laws_FnTokensSay.j0 k t137 t141 true))) else (some true)) = some r := H
        have A7 := Aside0.mk A70
        clear A70
        by_cases c8 : t138 = 1
        · rw [if_pos c8] at H
          have c8b0 : (t138 == 1) = true := beq_iff_eq.mpr c8
          have c8b1 : (t138 != 1) = false := bne_eq_false_iff_eq.mpr c8
          clear c8
          replace H := Option.bind_eq_some_iff.mp H
          obtain ⟨t141, A90, H⟩ := H
          replace H : (if (t141.length : Int) = (wrap64 ((t137.length : Int) + 1)) then (if 0 ≤ (t137.length : Int) then (if (t137.length : Int) < (t141.length : Int) then (laws_FnTokensSay.j0 k t137 t141 (((rd_T56 t141 (t137.length : Int)).f0) != 0)) else (none)) else (none)) else (laws_FnTokensSay.j0 k t137 t141 true)) = some r := H
          have A9 := Aside0.mk A90
          clear A90
          have HC10 := Aside0.mk H
          clear H
          go_enter Try.func9, Try.ntmps9
          go_upto_region 12 with (first | (go_at_call 36; (with_reducible refine (impl_Tokens.calls (⟨#[123, 105, 100, 125]⟩ : ByteArray) t130 _ A3.out).mono ?_); rintro e w11 ⟨v131, rfl, ho0, hb⟩; have n0_ := Aside0.mk (Kd.R_lower ho0 (below_size (by repeat (first | (with_reducible first | exact HB.out | apply below_alloc | apply pw_below_drewN | apply below_drew1) | exact HB.out)))); have n1_ := Aside0.mk (below_step (by repeat (first | (with_reducible first | exact HB.out | apply below_alloc | apply pw_below_drewN | apply below_drew1) | exact HB.out)) hb); clear HB; have HO132 := n0_; have HB := n1_; clear n0_ n1_; (try clear hb); (try clear hb2); (try clear hk); (try clear hi); (try clear ho0); obtain ⟨Ao12, co12, eo12⟩ := Kd.R_slice HO132.out; subst eo12) | ((with_reducible refine gate_dst (N := 16) rfl ?_); (try (refine gate_guard (by rfl) ?_; dsimp only)); refine Kd.R_lit Kd.string _ 9 ?hg (N := 16) ?hd (xs := ([a0] : List ByteArray)) (inner := [.string a0]) (ok := fun _ => True) (okp := fun _ => True) ?hr ?hp (fun _ hk => hk) trivial (Below.refl _ _) (Nat.le_refl _) (by simp) ?_; (case hd => rfl); (case hg => rfl); (case hr => first | (go_simp; done) | (go_simp; rfl)); (case hp => exact (Reps.one (show Kd.M Kd.string _ _ _ a0 [.string a0] from rfl) (Reps.none _ _))); intro v134 w13 ho14 hb hg_ hnew_; clear hg_ hnew_; (first | rw [← Ny133.out] at ho14 | (simp only [Int.reduceToNat] at ho14; rw [← Ny133.out] at ho14)); have n0_ := Aside0.mk (Kd.R_below (by (with_reducible repeat (first | apply Kd.R_alloc | apply Kd.R_drewN | apply Kd.R_drew)); exact HO132.out) hb); have n1_ := Aside0.mk (Kd.R_lower ho14 (below_size (by repeat (first | (with_reducible first | exact HB.out | apply below_alloc | apply pw_below_drewN | apply below_drew1) | exact HB.out)))); have n2_ := Aside0.mk (below_step (by repeat (first | (with_reducible first | exact HB.out | apply below_alloc | apply pw_below_drewN | apply below_drew1) | exact HB.out)) hb); clear HO132; clear HB; have HO132 := n0_; have HO135 := n1_; have HB := n2_; clear n0_ n1_ n2_; clear hb ho14; obtain ⟨Ao15, co15, eo15⟩ := Kd.R_slice HO135.out; subst eo15) | (go_at_call 13; (with_reducible refine (laws_short.calls k _ _ y133 true _ ?side1 ?side2 A5.out).mono ?_); (case side1 => repeat (first | exact (Kd.R_reads' HO135.out).2.2 | (with_reducible refine Kd.C_alloc ?_ _) | (with_reducible refine Kd.C_drewN ?_ _) | (with_reducible refine Kd.C_drew ?_))); (case side2 => exact (Kd.R_reads' HO135.out).2.1); rintro e w' ⟨rfl, ⟨nd, rfl⟩⟩; (try first | exact ⟨rfl, _, World.drewN_drewN _ _ _⟩ | exact ⟨rfl, _, Eq.trans (World.drewN_drewN _ _ _) (congrArg (World.drewN _) (Nat.add_assoc _ _ _))⟩)) | (go_at_call 37; (with_reducible refine (spec_Tokens.calls k a0 t137 t138 _ A7.out).mono ?_); rintro e w16 ⟨v139, rfl, ho0, hb⟩; have n0_ := Aside0.mk (Kd.R_below (by (with_reducible repeat (first | apply Kd.R_alloc | apply Kd.R_drewN | apply Kd.R_drew)); exact HO132.out) hb); have n1_ := Aside0.mk (Kd.R_below (by (with_reducible repeat (first | apply Kd.R_alloc | apply Kd.R_drewN | apply Kd.R_drew)); exact HO135.out) hb); have n2_ := Aside0.mk (Kd.R_lower ho0 (below_size (by repeat (first | (with_reducible first | exact HB.out | apply below_alloc | apply pw_below_drewN | apply below_drew1) | exact HB.out)))); have n3_ := Aside0.mk (below_step (by repeat (first | (with_reducible first | exact HB.out | apply below_alloc | apply pw_below_drewN | apply below_drew1) | exact HB.out)) hb); clear HO132; clear HO135; clear HB; have HO132 := n0_; have HO135 := n1_; have HO140 := n2_; have HB := n3_; clear n0_ n1_ n2_ n3_; (try clear hb); (try clear hb2); (try clear hk); (try clear hi); (try clear ho0)) | (go_at_call 36; (with_reducible refine (impl_Tokens.calls a0 t141 _ A9.out).mono ?_); rintro e w17 ⟨v142, rfl, ho0, hb⟩; have n0_ := Aside0.mk (Kd.R_elder' (by (with_reducible repeat (first | apply Kd.R_alloc | apply Kd.R_drewN | apply Kd.R_drew)); exact HO132.out) (Kd.R_base ho0) hb); have n1_ := Aside0.mk (Kd.R_below (by (with_reducible repeat (first | apply Kd.R_alloc | apply Kd.R_drewN | apply Kd.R_drew)); exact HO135.out) hb); have n2_ := Aside0.mk (Kd.R_below (by (with_reducible repeat (first | apply Kd.R_alloc | apply Kd.R_drewN | apply Kd.R_drew)); exact HO140.out) hb); have n3_ := Aside0.mk (Kd.R_lower (Kd.R_new' ho0 (Kd.R_lt (by (with_reducible repeat (first | apply Kd.R_alloc | apply Kd.R_drewN | apply Kd.R_drew)); exact HO132.out))) (below_size (by repeat (first | (with_reducible first | exact HB.out | apply below_alloc | apply pw_below_drewN | apply below_drew1) | exact HB.out)))); have n4_ := Aside0.mk (below_step (by repeat (first | (with_reducible first | exact HB.out | apply below_alloc | apply pw_below_drewN | apply below_drew1) | exact HB.out)) hb); clear HO132; clear HO135; clear HO140; clear HB; have HO132 := n0_; have HO135 := n1_; have HO140 := n2_; have HO143 := n3_; have HB := n4_; clear n0_ n1_ n2_ n3_ n4_; (try clear hb); (try clear hb2); (try clear hk); (try clear hi); (try clear ho0)))
          repeat (go_quiet (first | (go_at_call 36; (with_reducible refine (impl_Tokens.calls (⟨#[123, 105, 100, 125]⟩ : ByteArray) t130 _ A3.out).mono ?_); rintro e w11 ⟨v131, rfl, ho0, hb⟩; have n0_ := Aside0.mk (Kd.R_lower ho0 (below_size (by repeat (first | (with_reducible first | exact HB.out | apply below_alloc | apply pw_below_drewN | apply below_drew1) | exact HB.out)))); have n1_ := Aside0.mk (below_step (by repeat (first | (with_reducible first | exact HB.out | apply below_alloc | apply pw_below_drewN | apply below_drew1) | exact HB.out)) hb); clear HB; have HO132 := n0_; have HB := n1_; clear n0_ n1_; (try clear hb); (try clear hb2); (try clear hk); (try clear hi); (try clear ho0); obtain ⟨Ao12, co12, eo12⟩ := Kd.R_slice HO132.out; subst eo12) | ((with_reducible refine gate_dst (N := 16) rfl ?_); (try (refine gate_guard (by rfl) ?_; dsimp only)); refine Kd.R_lit Kd.string _ 9 ?hg (N := 16) ?hd (xs := ([a0] : List ByteArray)) (inner := [.string a0]) (ok := fun _ => True) (okp := fun _ => True) ?hr ?hp (fun _ hk => hk) trivial (Below.refl _ _) (Nat.le_refl _) (by simp) ?_; (case hd => rfl); (case hg => rfl); (case hr => first | (go_simp; done) | (go_simp; rfl)); (case hp => exact (Reps.one (show Kd.M Kd.string _ _ _ a0 [.string a0] from rfl) (Reps.none _ _))); intro v134 w13 ho14 hb hg_ hnew_; clear hg_ hnew_; (first | rw [← Ny133.out] at ho14 | (simp only [Int.reduceToNat] at ho14; rw [← Ny133.out] at ho14)); have n0_ := Aside0.mk (Kd.R_below (by (with_reducible repeat (first | apply Kd.R_alloc | apply Kd.R_drewN | apply Kd.R_drew)); exact HO132.out) hb); have n1_ := Aside0.mk (Kd.R_lower ho14 (below_size (by repeat (first | (with_reducible first | exact HB.out | apply below_alloc | apply pw_below_drewN | apply below_drew1) | exact HB.out)))); have n2_ := Aside0.mk (below_step (by repeat (first | (with_reducible first | exact HB.out | apply below_alloc | apply pw_below_drewN | apply below_drew1) | exact HB.out)) hb); clear HO132; clear HB; have HO132 := n0_; have HO135 := n1_; have HB := n2_; clear n0_ n1_ n2_; clear hb ho14; obtain ⟨Ao15, co15, eo15⟩ := Kd.R_slice HO135.out; subst eo15) | (go_at_call 13; (with_reducible refine (laws_short.calls k _ _ y133 true _ ?side1 ?side2 A5.out).mono ?_); (case side1 => repeat (first | exact (Kd.R_reads' HO135.out).2.2 | (with_reducible refine Kd.C_alloc ?_ _) | (with_reducible refine Kd.C_drewN ?_ _) | (with_reducible refine Kd.C_drew ?_))); (case side2 => exact (Kd.R_reads' HO135.out).2.1); rintro e w' ⟨rfl, ⟨nd, rfl⟩⟩; (try first | exact ⟨rfl, _, World.drewN_drewN _ _ _⟩ | exact ⟨rfl, _, Eq.trans (World.drewN_drewN _ _ _) (congrArg (World.drewN _) (Nat.add_assoc _ _ _))⟩)) | (go_at_call 37; (with_reducible refine (spec_Tokens.calls k a0 t137 t138 _ A7.out).mono ?_); rintro e w16 ⟨v139, rfl, ho0, hb⟩; have n0_ := Aside0.mk (Kd.R_below (by (with_reducible repeat (first | apply Kd.R_alloc | apply Kd.R_drewN | apply Kd.R_drew)); exact HO132.out) hb); have n1_ := Aside0.mk (Kd.R_below (by (with_reducible repeat (first | apply Kd.R_alloc | apply Kd.R_drewN | apply Kd.R_drew)); exact HO135.out) hb); have n2_ := Aside0.mk (Kd.R_lower ho0 (below_size (by repeat (first | (with_reducible first | exact HB.out | apply below_alloc | apply pw_below_drewN | apply below_drew1) | exact HB.out)))); have n3_ := Aside0.mk (below_step (by repeat (first | (with_reducible first | exact HB.out | apply below_alloc | apply pw_below_drewN | apply below_drew1) | exact HB.out)) hb); clear HO132; clear HO135; clear HB; have HO132 := n0_; have HO135 := n1_; have HO140 := n2_; have HB := n3_; clear n0_ n1_ n2_ n3_; (try clear hb); (try clear hb2); (try clear hk); (try clear hi); (try clear ho0)) | (go_at_call 36; (with_reducible refine (impl_Tokens.calls a0 t141 _ A9.out).mono ?_); rintro e w17 ⟨v142, rfl, ho0, hb⟩; have n0_ := Aside0.mk (Kd.R_elder' (by (with_reducible repeat (first | apply Kd.R_alloc | apply Kd.R_drewN | apply Kd.R_drew)); exact HO132.out) (Kd.R_base ho0) hb); have n1_ := Aside0.mk (Kd.R_below (by (with_reducible repeat (first | apply Kd.R_alloc | apply Kd.R_drewN | apply Kd.R_drew)); exact HO135.out) hb); have n2_ := Aside0.mk (Kd.R_below (by (with_reducible repeat (first | apply Kd.R_alloc | apply Kd.R_drewN | apply Kd.R_drew)); exact HO140.out) hb); have n3_ := Aside0.mk (Kd.R_lower (Kd.R_new' ho0 (Kd.R_lt (by (with_reducible repeat (first | apply Kd.R_alloc | apply Kd.R_drewN | apply Kd.R_drew)); exact HO132.out))) (below_size (by repeat (first | (with_reducible first | exact HB.out | apply below_alloc | apply pw_below_drewN | apply below_drew1) | exact HB.out)))); have n4_ := Aside0.mk (below_step (by repeat (first | (with_reducible first | exact HB.out | apply below_alloc | apply pw_below_drewN | apply below_drew1) | exact HB.out)) hb); clear HO132; clear HO135; clear HO140; clear HB; have HO132 := n0_; have HO135 := n1_; have HO140 := n2_; have HO143 := n3_; have HB := n4_; clear n0_ n1_ n2_ n3_ n4_; (try clear hb); (try clear hb2); (try clear hk); (try clear hi); (try clear ho0))); go_upto_region 12 with (first | (go_at_call 36; (with_reducible refine (impl_Tokens.calls (⟨#[123, 105, 100, 125]⟩ : ByteArray) t130 _ A3.out).mono ?_); rintro e w11 ⟨v131, rfl, ho0, hb⟩; have n0_ := Aside0.mk (Kd.R_lower ho0 (below_size (by repeat (first | (with_reducible first | exact HB.out | apply below_alloc | apply pw_below_drewN | apply below_drew1) | exact HB.out)))); have n1_ := Aside0.mk (below_step (by repeat (first | (with_reducible first | exact HB.out | apply below_alloc | apply pw_below_drewN | apply below_drew1) | exact HB.out)) hb); clear HB; have HO132 := n0_; have HB := n1_; clear n0_ n1_; (try clear hb); (try clear hb2); (try clear hk); (try clear hi); (try clear ho0); obtain ⟨Ao12, co12, eo12⟩ := Kd.R_slice HO132.out; subst eo12) | ((with_reducible refine gate_dst (N := 16) rfl ?_); (try (refine gate_guard (by rfl) ?_; dsimp only)); refine Kd.R_lit Kd.string _ 9 ?hg (N := 16) ?hd (xs := ([a0] : List ByteArray)) (inner := [.string a0]) (ok := fun _ => True) (okp := fun _ => True) ?hr ?hp (fun _ hk => hk) trivial (Below.refl _ _) (Nat.le_refl _) (by simp) ?_; (case hd => rfl); (case hg => rfl); (case hr => first | (go_simp; done) | (go_simp; rfl)); (case hp => exact (Reps.one (show Kd.M Kd.string _ _ _ a0 [.string a0] from rfl) (Reps.none _ _))); intro v134 w13 ho14 hb hg_ hnew_; clear hg_ hnew_; (first | rw [← Ny133.out] at ho14 | (simp only [Int.reduceToNat] at ho14; rw [← Ny133.out] at ho14)); have n0_ := Aside0.mk (Kd.R_below (by (with_reducible repeat (first | apply Kd.R_alloc | apply Kd.R_drewN | apply Kd.R_drew)); exact HO132.out) hb); have n1_ := Aside0.mk (Kd.R_lower ho14 (below_size (by repeat (first | (with_reducible first | exact HB.out | apply below_alloc | apply pw_below_drewN | apply below_drew1) | exact HB.out)))); have n2_ := Aside0.mk (below_step (by repeat (first | (with_reducible first | exact HB.out | apply below_alloc | apply pw_below_drewN | apply below_drew1) | exact HB.out)) hb); clear HO132; clear HB; have HO132 := n0_; have HO135 := n1_; have HB := n2_; clear n0_ n1_ n2_; clear hb ho14; obtain ⟨Ao15, co15, eo15⟩ := Kd.R_slice HO135.out; subst eo15) | (go_at_call 13; (with_reducible refine (laws_short.calls k _ _ y133 true _ ?side1 ?side2 A5.out).mono ?_); (case side1 => repeat (first | exact (Kd.R_reads' HO135.out).2.2 | (with_reducible refine Kd.C_alloc ?_ _) | (with_reducible refine Kd.C_drewN ?_ _) | (with_reducible refine Kd.C_drew ?_))); (case side2 => exact (Kd.R_reads' HO135.out).2.1); rintro e w' ⟨rfl, ⟨nd, rfl⟩⟩; (try first | exact ⟨rfl, _, World.drewN_drewN _ _ _⟩ | exact ⟨rfl, _, Eq.trans (World.drewN_drewN _ _ _) (congrArg (World.drewN _) (Nat.add_assoc _ _ _))⟩)) | (go_at_call 37; (with_reducible refine (spec_Tokens.calls k a0 t137 t138 _ A7.out).mono ?_); rintro e w16 ⟨v139, rfl, ho0, hb⟩; have n0_ := Aside0.mk (Kd.R_below (by (with_reducible repeat (first | apply Kd.R_alloc | apply Kd.R_drewN | apply Kd.R_drew)); exact HO132.out) hb); have n1_ := Aside0.mk (Kd.R_below (by (with_reducible repeat (first | apply Kd.R_alloc | apply Kd.R_drewN | apply Kd.R_drew)); exact HO135.out) hb); have n2_ := Aside0.mk (Kd.R_lower ho0 (below_size (by repeat (first | (with_reducible first | exact HB.out | apply below_alloc | apply pw_below_drewN | apply below_drew1) | exact HB.out)))); have n3_ := Aside0.mk (below_step (by repeat (first | (with_reducible first | exact HB.out | apply below_alloc | apply pw_below_drewN | apply below_drew1) | exact HB.out)) hb); clear HO132; clear HO135; clear HB; have HO132 := n0_; have HO135 := n1_; have HO140 := n2_; have HB := n3_; clear n0_ n1_ n2_ n3_; (try clear hb); (try clear hb2); (try clear hk); (try clear hi); (try clear ho0)) | (go_at_call 36; (with_reducible refine (impl_Tokens.calls a0 t141 _ A9.out).mono ?_); rintro e w17 ⟨v142, rfl, ho0, hb⟩; have n0_ := Aside0.mk (Kd.R_elder' (by (with_reducible repeat (first | apply Kd.R_alloc | apply Kd.R_drewN | apply Kd.R_drew)); exact HO132.out) (Kd.R_base ho0) hb); have n1_ := Aside0.mk (Kd.R_below (by (with_reducible repeat (first | apply Kd.R_alloc | apply Kd.R_drewN | apply Kd.R_drew)); exact HO135.out) hb); have n2_ := Aside0.mk (Kd.R_below (by (with_reducible repeat (first | apply Kd.R_alloc | apply Kd.R_drewN | apply Kd.R_drew)); exact HO140.out) hb); have n3_ := Aside0.mk (Kd.R_lower (Kd.R_new' ho0 (Kd.R_lt (by (with_reducible repeat (first | apply Kd.R_alloc | apply Kd.R_drewN | apply Kd.R_drew)); exact HO132.out))) (below_size (by repeat (first | (with_reducible first | exact HB.out | apply below_alloc | apply pw_below_drewN | apply below_drew1) | exact HB.out)))); have n4_ := Aside0.mk (below_step (by repeat (first | (with_reducible first | exact HB.out | apply below_alloc | apply pw_below_drewN | apply below_drew1) | exact HB.out)) hb); clear HO132; clear HO135; clear HO140; clear HB; have HO132 := n0_; have HO135 := n1_; have HO140 := n2_; have HO143 := n3_; have HB := n4_; clear n0_ n1_ n2_ n3_ n4_; (try clear hb); (try clear hb2); (try clear hk); (try clear hi); (try clear ho0))))
          (try simp only [Act.put, List.setIfInBounds_toArray, List.set_cons_zero, List.set_cons_succ])
          go_cut [42] (fun v42 wc => ∃ (kq : Nat) (x42_9 : Bool), v42 = .bool x42_9 ∧ Aside0 (laws_FnTokensSay.j0 kq t137 t141 x42_9 = some r) ∧ Aside0 (kq ≤ k) ∧ Aside0 (Kd.R k57 57 wc w.heap.size (fun _ => True) v139 t137) ∧ Aside0 (Kd.R k56 56 wc w.heap.size (fun _ => True) v142 t141) ∧ Aside0 (Below w.heap.size w wc))
          case first =>
            have H := HC10.out
            clear HC10
            by_cases c18 : (t141.length : Int) = (wrap64 ((t137.length : Int) + 1))
            · rw [if_pos c18] at H
              have c18b0 : ((t141.length : Int) == (wrap64 ((t137.length : Int) + 1))) = true := beq_iff_eq.mpr c18
              have c18b1 : ((t141.length : Int) != (wrap64 ((t137.length : Int) + 1))) = false := bne_eq_false_iff_eq.mpr c18
              clear c18
              (first | rw [c18b0] | (simp only [i64_w, i32_w]; rw [c18b0]) | (rw [Go.Proofs.YtipmmjbjgbfgjaaX.isEmpty_eq]; rw [c18b0]) | skip)
              by_cases c19 : 0 ≤ (t137.length : Int)
              · rw [if_pos c19] at H
                have c19b0 : decide (0 ≤ (t137.length : Int)) = true := decide_eq_true c19
                have c19b1 : decide (0 ≤ t137.length) = true := decide_eq_true (by omega)
                clear c19
                by_cases c20 : (t137.length : Int) < (t141.length : Int)
                · rw [if_pos c20] at H
                  have c20b0 : decide ((t137.length : Int) < (t141.length : Int)) = true := decide_eq_true c20
                  have c20b1 : decide (t137.length < t141.length) = true := decide_eq_true (Int.ofNat_lt.mp c20)
                  clear c20
                  have H' := Aside0.mk H
                  clear H
                  obtain ⟨Ao21, co21, eo21⟩ := Kd.R_slice HO143.out
                  subst eo21
                  obtain ⟨Ao22, co22, eo22⟩ := Kd.R_slice HO140.out
                  subst eo22
                  have p144 : 0 ≤ ((t137.length : Int) : Int) := of_decide_eq_true (by first | (with_reducible assumption) | assumption)
                  have q144 : (t137.length : Int) < (t141.length : Int) := of_decide_eq_true (by first | (with_reducible assumption) | assumption)
                  obtain ⟨ad144, e144, hx144_0, hx144_1, hx144_2, hx144_3⟩ := at_T56 (Kd.R_reads' HO143.out).2.2 (t137.length : Int) p144 q144
                  cases e144
                  (try simp only [Go.IntWalk.toNatUp] at hx144_0)
                  (try simp only [Go.IntWalk.toNatUp] at hx144_1)
                  (try simp only [Go.IntWalk.toNatUp] at hx144_2)
                  (try simp only [Go.IntWalk.toNatUp] at hx144_3)
                  replace p144 := eq_true p144
                  replace q144 := eq_true q144
                  go_wp2
                  have hw8_ := Go.Proofs.YtipmmjbjgbfgjaaX.wrap_u8; have hw64_ := Go.Proofs.YtipmmjbjgbfgjaaX.wrap_i64; repeat (go_quiet (fail); try go_wp2)
                  go_meet
                  case rel => exact ⟨_, ((((rd_T56 t141 (t137.length : Int)).f0) != 0)), (by first | rfl | (simp; done) | (simp [*]; done) | (simp [Go.Proofs.YtipmmjbjgbfgjaaX.isEmpty_ne]; done)), H', ⟨by first | omega | exact Nat.le_refl _⟩, ⟨by (with_reducible repeat (first | apply Kd.R_alloc | apply Kd.R_drewN | apply Kd.R_drew)); exact HO140.out⟩, ⟨by (with_reducible repeat (first | apply Kd.R_alloc | apply Kd.R_drewN | apply Kd.R_drew)); exact Kd.R_mono HO143.out (fun _ hk => trivial)⟩, ⟨by repeat (first | (with_reducible first | exact HB.out | apply below_alloc | apply pw_below_drewN | apply below_drew1) | exact HB.out)⟩⟩
                · rw [if_neg c20] at H
                  exact absurd H (by simp)
              · rw [if_neg c19] at H
                exact absurd H (by simp)
            · rw [if_neg c18] at H
              have c18b0 : ((t141.length : Int) == (wrap64 ((t137.length : Int) + 1))) = false := beq_eq_false_iff_ne.mpr c18
              have c18b1 : ((t141.length : Int) != (wrap64 ((t137.length : Int) + 1))) = true := bne_iff_ne.mpr c18
              (first | rw [c18b0] | (simp only [i64_w, i32_w]; rw [c18b0]) | (rw [Go.Proofs.YtipmmjbjgbfgjaaX.isEmpty_eq]; rw [c18b0]) | skip)
              have H' := Aside0.mk H
              clear H
              obtain ⟨Ao23, co23, eo23⟩ := Kd.R_slice HO143.out
              subst eo23
              obtain ⟨Ao24, co24, eo24⟩ := Kd.R_slice HO140.out
              subst eo24
              go_wp2
              have hw8_ := Go.Proofs.YtipmmjbjgbfgjaaX.wrap_u8; have hw64_ := Go.Proofs.YtipmmjbjgbfgjaaX.wrap_i64; repeat (go_quiet (fail); try go_wp2)
              go_meet
              case rel => exact ⟨_, (true), (by first | rfl | (simp; done) | (simp [*]; done) | (simp [Go.Proofs.YtipmmjbjgbfgjaaX.isEmpty_ne]; done)), H', ⟨by first | omega | exact Nat.le_refl _⟩, ⟨by (with_reducible repeat (first | apply Kd.R_alloc | apply Kd.R_drewN | apply Kd.R_drew)); exact HO140.out⟩, ⟨by (with_reducible repeat (first | apply Kd.R_alloc | apply Kd.R_drewN | apply Kd.R_drew)); exact Kd.R_mono HO143.out (fun _ hk => trivial)⟩, ⟨by repeat (first | (with_reducible first | exact HB.out | apply below_alloc | apply pw_below_drewN | apply below_drew1) | exact HB.out)⟩⟩
          case rest =>
            clear HC10
            try clear c1
            try clear p1
            try clear q1
            try clear hx1
            try clear c2
            try clear c2b0
            try clear c2b1
            try clear p2
            try clear c4
            try clear c4b0
            try clear c4b1
            try clear c6
            try clear p6
            try clear c8
            try clear c8b0
            try clear c8b1
            try clear c9
            try clear p14
            try clear q14
            try clear hx14
            try clear c18
            try clear c18b0
            try clear c18b1
            try clear c19
            try clear c19b0
            try clear c19b1
            try clear c20
            try clear c20b0
            try clear c20b1
            try clear hx144_0
            try clear hx144_1
            try clear hx144_2
            try clear hx144_3
            try clear p144
            try clear q144
            obtain ⟨kq, x42_9, rfl, HA, HJ9, HO_4, HO_6, HB⟩ := hcut
            cases kq with
            | zero => exact absurd HA.out (by simp [laws_FnTokensSay.j0])
            | succ kj9 =>
              have H := HA.out
              clear HA
              simp only [laws_FnTokensSay.j0] at H
              by_cases c25 : x42_9 = true
              · subst c25
                have H1 : (some false) = some r := by rw [if_pos rfl] at H; exact H
                clear H
                have H := H1
                clear H1
                obtain rfl := Option.some.inj H
                go_wp2
                have hw8_ := Go.Proofs.YtipmmjbjgbfgjaaX.wrap_u8; have hw64_ := Go.Proofs.YtipmmjbjgbfgjaaX.wrap_i64; repeat (go_quiet (fail); try go_wp2)
                go_ret
                exact ⟨by first | rfl | (simp [errW_none, errW_some] <;> rfl) | (simp [*, errW_none, errW_some] <;> rfl), by repeat (first | (with_reducible first | exact HB.out | apply below_alloc | apply pw_below_drewN | apply below_drew1) | exact HB.out)⟩
              · replace c25 := Bool.eq_false_iff.mpr c25
                subst c25
                have H1 : (laws_FnTokensSay.l0 kj9 t137 t141 (t137.length : Int) 0) = some r := by rw [if_neg (show ¬ (false = true) by decide)] at H; exact H
                clear H
                have H := H1
                clear H1
                have H' := Aside0.mk H
                clear H
                obtain ⟨Ao26, co26, eo26⟩ := Kd.R_slice HO_4.out
                subst eo26
                go_wp2
                have hw8_ := Go.Proofs.YtipmmjbjgbfgjaaX.wrap_u8; have hw64_ := Go.Proofs.YtipmmjbjgbfgjaaX.wrap_i64; repeat (go_quiet (fail); try go_wp2)
                go_loopg [45] kj9 (fun kq v45 w' => ∃ (x45_2 : Int), v45 = .int .i64 x45_2 ∧ Aside0 (laws_FnTokensSay.l0 kq t137 t141 (t137.length : Int) x45_2 = some r) ∧ Aside0 (kq ≤ kj9) ∧ Aside0 (Kd.R k57 57 w' w.heap.size (fun _ => True) (.slice Ao26 t137.length co26) t137) ∧ Aside0 (Kd.R k56 56 w' w.heap.size (fun _ => True) v142 t141) ∧ Aside0 (Below w.heap.size w w'))
                case atStart => exact ⟨(0), (by first | rfl | (simp; done) | (simp [*]; done) | (simp [Go.Proofs.YtipmmjbjgbfgjaaX.isEmpty_ne]; done)), H', ⟨Nat.le_refl _⟩, ⟨by (with_reducible repeat (first | apply Kd.R_alloc | apply Kd.R_drewN | apply Kd.R_drew)); exact HO_4.out⟩, ⟨by (with_reducible repeat (first | apply Kd.R_alloc | apply Kd.R_drewN | apply Kd.R_drew)); exact HO_6.out⟩, ⟨by repeat (first | (with_reducible first | exact HB.out | apply below_alloc | apply pw_below_drewN | apply below_drew1) | exact HB.out)⟩⟩
                case round =>
                  clear H'
                  try clear c1
                  try clear p1
                  try clear q1
                  try clear hx1
                  try clear c2
                  try clear c2b0
                  try clear c2b1
                  try clear p2
                  try clear c4
                  try clear c4b0
                  try clear c4b1
                  try clear c6
                  try clear p6
                  try clear c8
                  try clear c8b0
                  try clear c8b1
                  try clear c9
                  try clear p14
                  try clear q14
                  try clear hx14
                  try clear c18
                  try clear c18b0
                  try clear c18b1
                  try clear c19
                  try clear c19b0
                  try clear c19b1
                  try clear c20
                  try clear c20b0
                  try clear c20b1
                  try clear c25
                  try clear hx144_0
                  try clear hx144_1
                  try clear hx144_2
                  try clear hx144_3
                  try clear p1
                  try clear p14
                  try clear p144
                  try clear p2
                  try clear p6
                  try clear q1
                  try clear q14
                  try clear q144
                  obtain ⟨x45_2, rfl, HA, HK2, HO_4, HO_6, HB⟩ := hrel
                  cases gk with
                  | zero => exact absurd HA.out (by simp [laws_FnTokensSay.l0])
                  | succ k2 =>
                    have H := HA.out
                    clear HA
                    simp only [laws_FnTokensSay.l0] at H
                    by_cases c27 : x45_2 < (t137.length : Int)
                    · rw [if_pos c27] at H
                      have c27b0 : decide (x45_2 < (t137.length : Int)) = true := decide_eq_true c27
                      clear c27
                      by_cases c28 : 0 ≤ x45_2
                      · rw [if_pos c28] at H
                        have c28b0 : decide (0 ≤ x45_2) = true := decide_eq_true c28
                        clear c28
                        by_cases c29 : x45_2 < (t141.length : Int)
                        · rw [if_pos c29] at H
                          have c29b0 : decide (x45_2 < (t141.length : Int)) = true := decide_eq_true c29
                          clear c29
                          by_cases c30 : x45_2 < (t137.length : Int)
                          · rw [if_pos c30] at H
                            have c30b0 : decide (x45_2 < (t137.length : Int)) = true := decide_eq_true c30
                            clear c30
                            by_cases c31 : ((rd_T56 t141 x45_2).f0) = ((rd_T57 t137 x45_2).f0)
                            · rw [if_pos c31] at H
                              have c31b0 : (((rd_T56 t141 x45_2).f0) == ((rd_T57 t137 x45_2).f0)) = true := beq_iff_eq.mpr c31
                              have c31b1 : (((rd_T56 t141 x45_2).f0) != ((rd_T57 t137 x45_2).f0)) = false := bne_eq_false_iff_eq.mpr c31
                              clear c31
                              by_cases c32 : ((rd_T56 t141 x45_2).f1).toList = ((rd_T57 t137 x45_2).f1).toList
                              · rw [if_pos c32] at H
                                have c32b0 : (((rd_T56 t141 x45_2).f1).toList == ((rd_T57 t137 x45_2).f1).toList) = true := beq_iff_eq.mpr c32
                                have c32b1 : (((rd_T56 t141 x45_2).f1).toList != ((rd_T57 t137 x45_2).f1).toList) = false := bne_eq_false_iff_eq.mpr c32
                                clear c32
                                have H' := Aside0.mk H
                                clear H
                                obtain ⟨Ao33, co33, eo33⟩ := Kd.R_slice HO_6.out
                                subst eo33
                                have p145 : 0 ≤ (x45_2 : Int) := of_decide_eq_true (by first | (with_reducible assumption) | assumption)
                                have q145 : x45_2 < (t141.length : Int) := of_decide_eq_true (by first | (with_reducible assumption) | assumption)
                                obtain ⟨ad145, e145, hx145_0, hx145_1, hx145_2, hx145_3⟩ := at_T56 (Kd.R_reads' HO_6.out).2.2 x45_2 p145 q145
                                cases e145
                                replace p145 := eq_true p145
                                replace q145 := eq_true q145
                                have p146 : 0 ≤ (x45_2 : Int) := of_decide_eq_true (by first | (with_reducible assumption) | assumption)
                                have q146 : x45_2 < (t137.length : Int) := of_decide_eq_true (by first | (with_reducible assumption) | assumption)
                                obtain ⟨ad146, e146, hx146_0, hx146_1, hx146_2, hx146_3⟩ := at_T57 (Kd.R_reads' HO_4.out).2.2 x45_2 p146 q146
                                cases e146
                                replace p146 := eq_true p146
                                replace q146 := eq_true q146
                                have p147 : 0 ≤ (x45_2 : Int) := of_decide_eq_true (by first | (with_reducible assumption) | assumption)
                                have q147 : x45_2 < (t141.length : Int) := of_decide_eq_true (by first | (with_reducible assumption) | assumption)
                                obtain ⟨ad147, e147, hx147_0, hx147_1, hx147_2, hx147_3⟩ := at_T56 (Kd.R_reads' HO_6.out).2.2 x45_2 p147 q147
                                obtain rfl : ad145 = ad147 := (by injection e147)
                                replace p147 := eq_true p147
                                replace q147 := eq_true q147
                                have p148 : 0 ≤ (x45_2 : Int) := of_decide_eq_true (by first | (with_reducible assumption) | assumption)
                                have q148 : x45_2 < (t137.length : Int) := of_decide_eq_true (by first | (with_reducible assumption) | assumption)
                                obtain ⟨ad148, e148, hx148_0, hx148_1, hx148_2, hx148_3⟩ := at_T57 (Kd.R_reads' HO_4.out).2.2 x45_2 p148 q148
                                obtain rfl : ad146 = ad148 := (by injection e148)
                                replace p148 := eq_true p148
                                replace q148 := eq_true q148
                                go_wp2
                                have hw8_ := Go.Proofs.YtipmmjbjgbfgjaaX.wrap_u8; have hw64_ := Go.Proofs.YtipmmjbjgbfgjaaX.wrap_i64; repeat (go_quiet (fail); try go_wp2)
                                go_roundg k2
                                case measure => have := HJ9.out; have := HK2.out; omega
                                case rel => exact ⟨(wrap64 (x45_2 + 1)), (by first | rfl | (simp; done) | (simp [*]; done) | (simp [Go.Proofs.YtipmmjbjgbfgjaaX.isEmpty_ne]; done)), H', ⟨by have := HJ9.out; have := HK2.out; omega⟩, ⟨by (with_reducible repeat (first | apply Kd.R_alloc | apply Kd.R_drewN | apply Kd.R_drew)); exact HO_4.out⟩, ⟨by (with_reducible repeat (first | apply Kd.R_alloc | apply Kd.R_drewN | apply Kd.R_drew)); exact HO_6.out⟩, ⟨by repeat (first | (with_reducible first | exact HB.out | apply below_alloc | apply pw_below_drewN | apply below_drew1) | exact HB.out)⟩⟩
                              · rw [if_neg c32] at H
                                have c32b0 : (((rd_T56 t141 x45_2).f1).toList == ((rd_T57 t137 x45_2).f1).toList) = false := beq_eq_false_iff_ne.mpr c32
                                have c32b1 : (((rd_T56 t141 x45_2).f1).toList != ((rd_T57 t137 x45_2).f1).toList) = true := bne_iff_ne.mpr c32
                                obtain rfl := Option.some.inj H
                                obtain ⟨Ao34, co34, eo34⟩ := Kd.R_slice HO_6.out
                                subst eo34
                                have p145 : 0 ≤ (x45_2 : Int) := of_decide_eq_true (by first | (with_reducible assumption) | assumption)
                                have q145 : x45_2 < (t141.length : Int) := of_decide_eq_true (by first | (with_reducible assumption) | assumption)
                                obtain ⟨ad145, e145, hx145_0, hx145_1, hx145_2, hx145_3⟩ := at_T56 (Kd.R_reads' HO_6.out).2.2 x45_2 p145 q145
                                cases e145
                                replace p145 := eq_true p145
                                replace q145 := eq_true q145
                                have p146 : 0 ≤ (x45_2 : Int) := of_decide_eq_true (by first | (with_reducible assumption) | assumption)
                                have q146 : x45_2 < (t137.length : Int) := of_decide_eq_true (by first | (with_reducible assumption) | assumption)
                                obtain ⟨ad146, e146, hx146_0, hx146_1, hx146_2, hx146_3⟩ := at_T57 (Kd.R_reads' HO_4.out).2.2 x45_2 p146 q146
                                cases e146
                                replace p146 := eq_true p146
                                replace q146 := eq_true q146
                                have p147 : 0 ≤ (x45_2 : Int) := of_decide_eq_true (by first | (with_reducible assumption) | assumption)
                                have q147 : x45_2 < (t141.length : Int) := of_decide_eq_true (by first | (with_reducible assumption) | assumption)
                                obtain ⟨ad147, e147, hx147_0, hx147_1, hx147_2, hx147_3⟩ := at_T56 (Kd.R_reads' HO_6.out).2.2 x45_2 p147 q147
                                obtain rfl : ad145 = ad147 := (by injection e147)
                                replace p147 := eq_true p147
                                replace q147 := eq_true q147
                                have p148 : 0 ≤ (x45_2 : Int) := of_decide_eq_true (by first | (with_reducible assumption) | assumption)
                                have q148 : x45_2 < (t137.length : Int) := of_decide_eq_true (by first | (with_reducible assumption) | assumption)
                                obtain ⟨ad148, e148, hx148_0, hx148_1, hx148_2, hx148_3⟩ := at_T57 (Kd.R_reads' HO_4.out).2.2 x45_2 p148 q148
                                obtain rfl : ad146 = ad148 := (by injection e148)
                                replace p148 := eq_true p148
                                replace q148 := eq_true q148
                                go_wp2
                                have hw8_ := Go.Proofs.YtipmmjbjgbfgjaaX.wrap_u8; have hw64_ := Go.Proofs.YtipmmjbjgbfgjaaX.wrap_i64; repeat (go_quiet (fail); try go_wp2)
                                go_ret
                                exact ⟨by first | rfl | (simp [errW_none, errW_some] <;> rfl) | (simp [*, errW_none, errW_some] <;> rfl), by repeat (first | (with_reducible first | exact HB.out | apply below_alloc | apply pw_below_drewN | apply below_drew1) | exact HB.out)⟩
                            · rw [if_neg c31] at H
                              have c31b0 : (((rd_T56 t141 x45_2).f0) == ((rd_T57 t137 x45_2).f0)) = false := beq_eq_false_iff_ne.mpr c31
                              have c31b1 : (((rd_T56 t141 x45_2).f0) != ((rd_T57 t137 x45_2).f0)) = true := bne_iff_ne.mpr c31
                              obtain rfl := Option.some.inj H
                              obtain ⟨Ao35, co35, eo35⟩ := Kd.R_slice HO_6.out
                              subst eo35
                              have p145 : 0 ≤ (x45_2 : Int) := of_decide_eq_true (by first | (with_reducible assumption) | assumption)
                              have q145 : x45_2 < (t141.length : Int) := of_decide_eq_true (by first | (with_reducible assumption) | assumption)
                              obtain ⟨ad145, e145, hx145_0, hx145_1, hx145_2, hx145_3⟩ := at_T56 (Kd.R_reads' HO_6.out).2.2 x45_2 p145 q145
                              cases e145
                              replace p145 := eq_true p145
                              replace q145 := eq_true q145
                              have p146 : 0 ≤ (x45_2 : Int) := of_decide_eq_true (by first | (with_reducible assumption) | assumption)
                              have q146 : x45_2 < (t137.length : Int) := of_decide_eq_true (by first | (with_reducible assumption) | assumption)
                              obtain ⟨ad146, e146, hx146_0, hx146_1, hx146_2, hx146_3⟩ := at_T57 (Kd.R_reads' HO_4.out).2.2 x45_2 p146 q146
                              cases e146
                              replace p146 := eq_true p146
                              replace q146 := eq_true q146
                              go_wp2
                              have hw8_ := Go.Proofs.YtipmmjbjgbfgjaaX.wrap_u8; have hw64_ := Go.Proofs.YtipmmjbjgbfgjaaX.wrap_i64; repeat (go_quiet (fail); try go_wp2)
                              go_ret
                              exact ⟨by first | rfl | (simp [errW_none, errW_some] <;> rfl) | (simp [*, errW_none, errW_some] <;> rfl), by repeat (first | (with_reducible first | exact HB.out | apply below_alloc | apply pw_below_drewN | apply below_drew1) | exact HB.out)⟩
                          · rw [if_neg c30] at H
                            exact absurd H (by simp)
                        · rw [if_neg c29] at H
                          exact absurd H (by simp)
                      · rw [if_neg c28] at H
                        exact absurd H (by simp)
                    · rw [if_neg c27] at H
                      have c27b0 : decide (x45_2 < (t137.length : Int)) = false := decide_eq_false c27
                      clear c27
                      obtain rfl := Option.some.inj H
                      go_wp2
                      have hw8_ := Go.Proofs.YtipmmjbjgbfgjaaX.wrap_u8; have hw64_ := Go.Proofs.YtipmmjbjgbfgjaaX.wrap_i64; repeat (go_quiet (fail); try go_wp2)
                      go_ret
                      exact ⟨by first | rfl | (simp [errW_none, errW_some] <;> rfl) | (simp [*, errW_none, errW_some] <;> rfl), by repeat (first | (with_reducible first | exact HB.out | apply below_alloc | apply pw_below_drewN | apply below_drew1) | exact HB.out)⟩
        · rw [if_neg c8] at H
          have c8b0 : (t138 == 1) = false := beq_eq_false_iff_ne.mpr c8
          have c8b1 : (t138 != 1) = true := bne_iff_ne.mpr c8
          obtain rfl := Option.some.inj H
          go_enter Try.func9, Try.ntmps9
          go_wp2_with (first | (go_at_call 36; (with_reducible refine (impl_Tokens.calls (⟨#[123, 105, 100, 125]⟩ : ByteArray) t130 _ A3.out).mono ?_); rintro e w36 ⟨v131, rfl, ho0, hb⟩; have n0_ := Aside0.mk (Kd.R_lower ho0 (below_size (by repeat (first | (with_reducible first | exact HB.out | apply below_alloc | apply pw_below_drewN | apply below_drew1) | exact HB.out)))); have n1_ := Aside0.mk (below_step (by repeat (first | (with_reducible first | exact HB.out | apply below_alloc | apply pw_below_drewN | apply below_drew1) | exact HB.out)) hb); clear HB; have HO132 := n0_; have HB := n1_; clear n0_ n1_; (try clear hb); (try clear hb2); (try clear hk); (try clear hi); (try clear ho0); obtain ⟨Ao37, co37, eo37⟩ := Kd.R_slice HO132.out; subst eo37) | ((with_reducible refine gate_dst (N := 16) rfl ?_); (try (refine gate_guard (by rfl) ?_; dsimp only)); refine Kd.R_lit Kd.string _ 9 ?hg (N := 16) ?hd (xs := ([a0] : List ByteArray)) (inner := [.string a0]) (ok := fun _ => True) (okp := fun _ => True) ?hr ?hp (fun _ hk => hk) trivial (Below.refl _ _) (Nat.le_refl _) (by simp) ?_; (case hd => rfl); (case hg => rfl); (case hr => first | (go_simp; done) | (go_simp; rfl)); (case hp => exact (Reps.one (show Kd.M Kd.string _ _ _ a0 [.string a0] from rfl) (Reps.none _ _))); intro v134 w38 ho39 hb hg_ hnew_; clear hg_ hnew_; (first | rw [← Ny133.out] at ho39 | (simp only [Int.reduceToNat] at ho39; rw [← Ny133.out] at ho39)); have n0_ := Aside0.mk (Kd.R_below (by (with_reducible repeat (first | apply Kd.R_alloc | apply Kd.R_drewN | apply Kd.R_drew)); exact HO132.out) hb); have n1_ := Aside0.mk (Kd.R_lower ho39 (below_size (by repeat (first | (with_reducible first | exact HB.out | apply below_alloc | apply pw_below_drewN | apply below_drew1) | exact HB.out)))); have n2_ := Aside0.mk (below_step (by repeat (first | (with_reducible first | exact HB.out | apply below_alloc | apply pw_below_drewN | apply below_drew1) | exact HB.out)) hb); clear HO132; clear HB; have HO132 := n0_; have HO135 := n1_; have HB := n2_; clear n0_ n1_ n2_; clear hb ho39; obtain ⟨Ao40, co40, eo40⟩ := Kd.R_slice HO135.out; subst eo40) | (go_at_call 13; (with_reducible refine (laws_short.calls k _ _ y133 true _ ?side1 ?side2 A5.out).mono ?_); (case side1 => repeat (first | exact (Kd.R_reads' HO135.out).2.2 | (with_reducible refine Kd.C_alloc ?_ _) | (with_reducible refine Kd.C_drewN ?_ _) | (with_reducible refine Kd.C_drew ?_))); (case side2 => exact (Kd.R_reads' HO135.out).2.1); rintro e w' ⟨rfl, ⟨nd, rfl⟩⟩; (try first | exact ⟨rfl, _, World.drewN_drewN _ _ _⟩ | exact ⟨rfl, _, Eq.trans (World.drewN_drewN _ _ _) (congrArg (World.drewN _) (Nat.add_assoc _ _ _))⟩)) | (go_at_call 37; (with_reducible refine (spec_Tokens.calls k a0 t137 t138 _ A7.out).mono ?_); rintro e w41 ⟨v139, rfl, ho0, hb⟩; have n0_ := Aside0.mk (Kd.R_below (by (with_reducible repeat (first | apply Kd.R_alloc | apply Kd.R_drewN | apply Kd.R_drew)); exact HO132.out) hb); have n1_ := Aside0.mk (Kd.R_below (by (with_reducible repeat (first | apply Kd.R_alloc | apply Kd.R_drewN | apply Kd.R_drew)); exact HO135.out) hb); have n2_ := Aside0.mk (Kd.R_lower ho0 (below_size (by repeat (first | (with_reducible first | exact HB.out | apply below_alloc | apply pw_below_drewN | apply below_drew1) | exact HB.out)))); have n3_ := Aside0.mk (below_step (by repeat (first | (with_reducible first | exact HB.out | apply below_alloc | apply pw_below_drewN | apply below_drew1) | exact HB.out)) hb); clear HO132; clear HO135; clear HB; have HO132 := n0_; have HO135 := n1_; have HO140 := n2_; have HB := n3_; clear n0_ n1_ n2_ n3_; (try clear hb); (try clear hb2); (try clear hk); (try clear hi); (try clear ho0)))
          repeat (go_quiet (first | (go_at_call 36; (with_reducible refine (impl_Tokens.calls (⟨#[123, 105, 100, 125]⟩ : ByteArray) t130 _ A3.out).mono ?_); rintro e w36 ⟨v131, rfl, ho0, hb⟩; have n0_ := Aside0.mk (Kd.R_lower ho0 (below_size (by repeat (first | (with_reducible first | exact HB.out | apply below_alloc | apply pw_below_drewN | apply below_drew1) | exact HB.out)))); have n1_ := Aside0.mk (below_step (by repeat (first | (with_reducible first | exact HB.out | apply below_alloc | apply pw_below_drewN | apply below_drew1) | exact HB.out)) hb); clear HB; have HO132 := n0_; have HB := n1_; clear n0_ n1_; (try clear hb); (try clear hb2); (try clear hk); (try clear hi); (try clear ho0); obtain ⟨Ao37, co37, eo37⟩ := Kd.R_slice HO132.out; subst eo37) | ((with_reducible refine gate_dst (N := 16) rfl ?_); (try (refine gate_guard (by rfl) ?_; dsimp only)); refine Kd.R_lit Kd.string _ 9 ?hg (N := 16) ?hd (xs := ([a0] : List ByteArray)) (inner := [.string a0]) (ok := fun _ => True) (okp := fun _ => True) ?hr ?hp (fun _ hk => hk) trivial (Below.refl _ _) (Nat.le_refl _) (by simp) ?_; (case hd => rfl); (case hg => rfl); (case hr => first | (go_simp; done) | (go_simp; rfl)); (case hp => exact (Reps.one (show Kd.M Kd.string _ _ _ a0 [.string a0] from rfl) (Reps.none _ _))); intro v134 w38 ho39 hb hg_ hnew_; clear hg_ hnew_; (first | rw [← Ny133.out] at ho39 | (simp only [Int.reduceToNat] at ho39; rw [← Ny133.out] at ho39)); have n0_ := Aside0.mk (Kd.R_below (by (with_reducible repeat (first | apply Kd.R_alloc | apply Kd.R_drewN | apply Kd.R_drew)); exact HO132.out) hb); have n1_ := Aside0.mk (Kd.R_lower ho39 (below_size (by repeat (first | (with_reducible first | exact HB.out | apply below_alloc | apply pw_below_drewN | apply below_drew1) | exact HB.out)))); have n2_ := Aside0.mk (below_step (by repeat (first | (with_reducible first | exact HB.out | apply below_alloc | apply pw_below_drewN | apply below_drew1) | exact HB.out)) hb); clear HO132; clear HB; have HO132 := n0_; have HO135 := n1_; have HB := n2_; clear n0_ n1_ n2_; clear hb ho39; obtain ⟨Ao40, co40, eo40⟩ := Kd.R_slice HO135.out; subst eo40) | (go_at_call 13; (with_reducible refine (laws_short.calls k _ _ y133 true _ ?side1 ?side2 A5.out).mono ?_); (case side1 => repeat (first | exact (Kd.R_reads' HO135.out).2.2 | (with_reducible refine Kd.C_alloc ?_ _) | (with_reducible refine Kd.C_drewN ?_ _) | (with_reducible refine Kd.C_drew ?_))); (case side2 => exact (Kd.R_reads' HO135.out).2.1); rintro e w' ⟨rfl, ⟨nd, rfl⟩⟩; (try first | exact ⟨rfl, _, World.drewN_drewN _ _ _⟩ | exact ⟨rfl, _, Eq.trans (World.drewN_drewN _ _ _) (congrArg (World.drewN _) (Nat.add_assoc _ _ _))⟩)) | (go_at_call 37; (with_reducible refine (spec_Tokens.calls k a0 t137 t138 _ A7.out).mono ?_); rintro e w41 ⟨v139, rfl, ho0, hb⟩; have n0_ := Aside0.mk (Kd.R_below (by (with_reducible repeat (first | apply Kd.R_alloc | apply Kd.R_drewN | apply Kd.R_drew)); exact HO132.out) hb); have n1_ := Aside0.mk (Kd.R_below (by (with_reducible repeat (first | apply Kd.R_alloc | apply Kd.R_drewN | apply Kd.R_drew)); exact HO135.out) hb); have n2_ := Aside0.mk (Kd.R_lower ho0 (below_size (by repeat (first | (with_reducible first | exact HB.out | apply below_alloc | apply pw_below_drewN | apply below_drew1) | exact HB.out)))); have n3_ := Aside0.mk (below_step (by repeat (first | (with_reducible first | exact HB.out | apply below_alloc | apply pw_below_drewN | apply below_drew1) | exact HB.out)) hb); clear HO132; clear HO135; clear HB; have HO132 := n0_; have HO135 := n1_; have HO140 := n2_; have HB := n3_; clear n0_ n1_ n2_ n3_; (try clear hb); (try clear hb2); (try clear hk); (try clear hi); (try clear ho0))); try go_wp2_with (first | (go_at_call 36; (with_reducible refine (impl_Tokens.calls (⟨#[123, 105, 100, 125]⟩ : ByteArray) t130 _ A3.out).mono ?_); rintro e w36 ⟨v131, rfl, ho0, hb⟩; have n0_ := Aside0.mk (Kd.R_lower ho0 (below_size (by repeat (first | (with_reducible first | exact HB.out | apply below_alloc | apply pw_below_drewN | apply below_drew1) | exact HB.out)))); have n1_ := Aside0.mk (below_step (by repeat (first | (with_reducible first | exact HB.out | apply below_alloc | apply pw_below_drewN | apply below_drew1) | exact HB.out)) hb); clear HB; have HO132 := n0_; have HB := n1_; clear n0_ n1_; (try clear hb); (try clear hb2); (try clear hk); (try clear hi); (try clear ho0); obtain ⟨Ao37, co37, eo37⟩ := Kd.R_slice HO132.out; subst eo37) | ((with_reducible refine gate_dst (N := 16) rfl ?_); (try (refine gate_guard (by rfl) ?_; dsimp only)); refine Kd.R_lit Kd.string _ 9 ?hg (N := 16) ?hd (xs := ([a0] : List ByteArray)) (inner := [.string a0]) (ok := fun _ => True) (okp := fun _ => True) ?hr ?hp (fun _ hk => hk) trivial (Below.refl _ _) (Nat.le_refl _) (by simp) ?_; (case hd => rfl); (case hg => rfl); (case hr => first | (go_simp; done) | (go_simp; rfl)); (case hp => exact (Reps.one (show Kd.M Kd.string _ _ _ a0 [.string a0] from rfl) (Reps.none _ _))); intro v134 w38 ho39 hb hg_ hnew_; clear hg_ hnew_; (first | rw [← Ny133.out] at ho39 | (simp only [Int.reduceToNat] at ho39; rw [← Ny133.out] at ho39)); have n0_ := Aside0.mk (Kd.R_below (by (with_reducible repeat (first | apply Kd.R_alloc | apply Kd.R_drewN | apply Kd.R_drew)); exact HO132.out) hb); have n1_ := Aside0.mk (Kd.R_lower ho39 (below_size (by repeat (first | (with_reducible first | exact HB.out | apply below_alloc | apply pw_below_drewN | apply below_drew1) | exact HB.out)))); have n2_ := Aside0.mk (below_step (by repeat (first | (with_reducible first | exact HB.out | apply below_alloc | apply pw_below_drewN | apply below_drew1) | exact HB.out)) hb); clear HO132; clear HB; have HO132 := n0_; have HO135 := n1_; have HB := n2_; clear n0_ n1_ n2_; clear hb ho39; obtain ⟨Ao40, co40, eo40⟩ := Kd.R_slice HO135.out; subst eo40) | (go_at_call 13; (with_reducible refine (laws_short.calls k _ _ y133 true _ ?side1 ?side2 A5.out).mono ?_); (case side1 => repeat (first | exact (Kd.R_reads' HO135.out).2.2 | (with_reducible refine Kd.C_alloc ?_ _) | (with_reducible refine Kd.C_drewN ?_ _) | (with_reducible refine Kd.C_drew ?_))); (case side2 => exact (Kd.R_reads' HO135.out).2.1); rintro e w' ⟨rfl, ⟨nd, rfl⟩⟩; (try first | exact ⟨rfl, _, World.drewN_drewN _ _ _⟩ | exact ⟨rfl, _, Eq.trans (World.drewN_drewN _ _ _) (congrArg (World.drewN _) (Nat.add_assoc _ _ _))⟩)) | (go_at_call 37; (with_reducible refine (spec_Tokens.calls k a0 t137 t138 _ A7.out).mono ?_); rintro e w41 ⟨v139, rfl, ho0, hb⟩; have n0_ := Aside0.mk (Kd.R_below (by (with_reducible repeat (first | apply Kd.R_alloc | apply Kd.R_drewN | apply Kd.R_drew)); exact HO132.out) hb); have n1_ := Aside0.mk (Kd.R_below (by (with_reducible repeat (first | apply Kd.R_alloc | apply Kd.R_drewN | apply Kd.R_drew)); exact HO135.out) hb); have n2_ := Aside0.mk (Kd.R_lower ho0 (below_size (by repeat (first | (with_reducible first | exact HB.out | apply below_alloc | apply pw_below_drewN | apply below_drew1) | exact HB.out)))); have n3_ := Aside0.mk (below_step (by repeat (first | (with_reducible first | exact HB.out | apply below_alloc | apply pw_below_drewN | apply below_drew1) | exact HB.out)) hb); clear HO132; clear HO135; clear HB; have HO132 := n0_; have HO135 := n1_; have HO140 := n2_; have HB := n3_; clear n0_ n1_ n2_ n3_; (try clear hb); (try clear hb2); (try clear hk); (try clear hi); (try clear ho0))))
          go_ret
          exact ⟨by first | rfl | (simp [errW_none, errW_some] <;> rfl) | (simp [*, errW_none, errW_some] <;> rfl), by repeat (first | (with_reducible first | exact HB.out | apply below_alloc | apply pw_below_drewN | apply below_drew1) | exact HB.out)⟩
      · replace c6 := Bool.eq_false_iff.mpr c6
        subst c6
        have H1 : (some true) = some r := by rw [if_neg (show ¬ (false = true) by decide)] at H; exact H
        clear H
        have H := H1
        clear H1
        obtain rfl := Option.some.inj H
        go_enter Try.func9, Try.ntmps9
        go_wp2_with (first | (go_at_call 36; (with_reducible refine (impl_Tokens.calls (⟨#[123, 105, 100, 125]⟩ : ByteArray) t130 _ A3.out).mono ?_); rintro e w42 ⟨v131, rfl, ho0, hb⟩; have n0_ := Aside0.mk (Kd.R_lower ho0 (below_size (by repeat (first | (with_reducible first | exact HB.out | apply below_alloc | apply pw_below_drewN | apply below_drew1) | exact HB.out)))); have n1_ := Aside0.mk (below_step (by repeat (first | (with_reducible first | exact HB.out | apply below_alloc | apply pw_below_drewN | apply below_drew1) | exact HB.out)) hb); clear HB; have HO132 := n0_; have HB := n1_; clear n0_ n1_; (try clear hb); (try clear hb2); (try clear hk); (try clear hi); (try clear ho0); obtain ⟨Ao43, co43, eo43⟩ := Kd.R_slice HO132.out; subst eo43) | ((with_reducible refine gate_dst (N := 16) rfl ?_); (try (refine gate_guard (by rfl) ?_; dsimp only)); refine Kd.R_lit Kd.string _ 9 ?hg (N := 16) ?hd (xs := ([a0] : List ByteArray)) (inner := [.string a0]) (ok := fun _ => True) (okp := fun _ => True) ?hr ?hp (fun _ hk => hk) trivial (Below.refl _ _) (Nat.le_refl _) (by simp) ?_; (case hd => rfl); (case hg => rfl); (case hr => first | (go_simp; done) | (go_simp; rfl)); (case hp => exact (Reps.one (show Kd.M Kd.string _ _ _ a0 [.string a0] from rfl) (Reps.none _ _))); intro v134 w44 ho45 hb hg_ hnew_; clear hg_ hnew_; (first | rw [← Ny133.out] at ho45 | (simp only [Int.reduceToNat] at ho45; rw [← Ny133.out] at ho45)); have n0_ := Aside0.mk (Kd.R_below (by (with_reducible repeat (first | apply Kd.R_alloc | apply Kd.R_drewN | apply Kd.R_drew)); exact HO132.out) hb); have n1_ := Aside0.mk (Kd.R_lower ho45 (below_size (by repeat (first | (with_reducible first | exact HB.out | apply below_alloc | apply pw_below_drewN | apply below_drew1) | exact HB.out)))); have n2_ := Aside0.mk (below_step (by repeat (first | (with_reducible first | exact HB.out | apply below_alloc | apply pw_below_drewN | apply below_drew1) | exact HB.out)) hb); clear HO132; clear HB; have HO132 := n0_; have HO135 := n1_; have HB := n2_; clear n0_ n1_ n2_; clear hb ho45; obtain ⟨Ao46, co46, eo46⟩ := Kd.R_slice HO135.out; subst eo46) | (go_at_call 13; (with_reducible refine (laws_short.calls k _ _ y133 false _ ?side1 ?side2 A5.out).mono ?_); (case side1 => repeat (first | exact (Kd.R_reads' HO135.out).2.2 | (with_reducible refine Kd.C_alloc ?_ _) | (with_reducible refine Kd.C_drewN ?_ _) | (with_reducible refine Kd.C_drew ?_))); (case side2 => exact (Kd.R_reads' HO135.out).2.1); rintro e w' ⟨rfl, ⟨nd, rfl⟩⟩; (try first | exact ⟨rfl, _, World.drewN_drewN _ _ _⟩ | exact ⟨rfl, _, Eq.trans (World.drewN_drewN _ _ _) (congrArg (World.drewN _) (Nat.add_assoc _ _ _))⟩)))
        repeat (go_quiet (first | (go_at_call 36; (with_reducible refine (impl_Tokens.calls (⟨#[123, 105, 100, 125]⟩ : ByteArray) t130 _ A3.out).mono ?_); rintro e w42 ⟨v131, rfl, ho0, hb⟩; have n0_ := Aside0.mk (Kd.R_lower ho0 (below_size (by repeat (first | (with_reducible first | exact HB.out | apply below_alloc | apply pw_below_drewN | apply below_drew1) | exact HB.out)))); have n1_ := Aside0.mk (below_step (by repeat (first | (with_reducible first | exact HB.out | apply below_alloc | apply pw_below_drewN | apply below_drew1) | exact HB.out)) hb); clear HB; have HO132 := n0_; have HB := n1_; clear n0_ n1_; (try clear hb); (try clear hb2); (try clear hk); (try clear hi); (try clear ho0); obtain ⟨Ao43, co43, eo43⟩ := Kd.R_slice HO132.out; subst eo43) | ((with_reducible refine gate_dst (N := 16) rfl ?_); (try (refine gate_guard (by rfl) ?_; dsimp only)); refine Kd.R_lit Kd.string _ 9 ?hg (N := 16) ?hd (xs := ([a0] : List ByteArray)) (inner := [.string a0]) (ok := fun _ => True) (okp := fun _ => True) ?hr ?hp (fun _ hk => hk) trivial (Below.refl _ _) (Nat.le_refl _) (by simp) ?_; (case hd => rfl); (case hg => rfl); (case hr => first | (go_simp; done) | (go_simp; rfl)); (case hp => exact (Reps.one (show Kd.M Kd.string _ _ _ a0 [.string a0] from rfl) (Reps.none _ _))); intro v134 w44 ho45 hb hg_ hnew_; clear hg_ hnew_; (first | rw [← Ny133.out] at ho45 | (simp only [Int.reduceToNat] at ho45; rw [← Ny133.out] at ho45)); have n0_ := Aside0.mk (Kd.R_below (by (with_reducible repeat (first | apply Kd.R_alloc | apply Kd.R_drewN | apply Kd.R_drew)); exact HO132.out) hb); have n1_ := Aside0.mk (Kd.R_lower ho45 (below_size (by repeat (first | (with_reducible first | exact HB.out | apply below_alloc | apply pw_below_drewN | apply below_drew1) | exact HB.out)))); have n2_ := Aside0.mk (below_step (by repeat (first | (with_reducible first | exact HB.out | apply below_alloc | apply pw_below_drewN | apply below_drew1) | exact HB.out)) hb); clear HO132; clear HB; have HO132 := n0_; have HO135 := n1_; have HB := n2_; clear n0_ n1_ n2_; clear hb ho45; obtain ⟨Ao46, co46, eo46⟩ := Kd.R_slice HO135.out; subst eo46) | (go_at_call 13; (with_reducible refine (laws_short.calls k _ _ y133 false _ ?side1 ?side2 A5.out).mono ?_); (case side1 => repeat (first | exact (Kd.R_reads' HO135.out).2.2 | (with_reducible refine Kd.C_alloc ?_ _) | (with_reducible refine Kd.C_drewN ?_ _) | (with_reducible refine Kd.C_drew ?_))); (case side2 => exact (Kd.R_reads' HO135.out).2.1); rintro e w' ⟨rfl, ⟨nd, rfl⟩⟩; (try first | exact ⟨rfl, _, World.drewN_drewN _ _ _⟩ | exact ⟨rfl, _, Eq.trans (World.drewN_drewN _ _ _) (congrArg (World.drewN _) (Nat.add_assoc _ _ _))⟩))); try go_wp2_with (first | (go_at_call 36; (with_reducible refine (impl_Tokens.calls (⟨#[123, 105, 100, 125]⟩ : ByteArray) t130 _ A3.out).mono ?_); rintro e w42 ⟨v131, rfl, ho0, hb⟩; have n0_ := Aside0.mk (Kd.R_lower ho0 (below_size (by repeat (first | (with_reducible first | exact HB.out | apply below_alloc | apply pw_below_drewN | apply below_drew1) | exact HB.out)))); have n1_ := Aside0.mk (below_step (by repeat (first | (with_reducible first | exact HB.out | apply below_alloc | apply pw_below_drewN | apply below_drew1) | exact HB.out)) hb); clear HB; have HO132 := n0_; have HB := n1_; clear n0_ n1_; (try clear hb); (try clear hb2); (try clear hk); (try clear hi); (try clear ho0); obtain ⟨Ao43, co43, eo43⟩ := Kd.R_slice HO132.out; subst eo43) | ((with_reducible refine gate_dst (N := 16) rfl ?_); (try (refine gate_guard (by rfl) ?_; dsimp only)); refine Kd.R_lit Kd.string _ 9 ?hg (N := 16) ?hd (xs := ([a0] : List ByteArray)) (inner := [.string a0]) (ok := fun _ => True) (okp := fun _ => True) ?hr ?hp (fun _ hk => hk) trivial (Below.refl _ _) (Nat.le_refl _) (by simp) ?_; (case hd => rfl); (case hg => rfl); (case hr => first | (go_simp; done) | (go_simp; rfl)); (case hp => exact (Reps.one (show Kd.M Kd.string _ _ _ a0 [.string a0] from rfl) (Reps.none _ _))); intro v134 w44 ho45 hb hg_ hnew_; clear hg_ hnew_; (first | rw [← Ny133.out] at ho45 | (simp only [Int.reduceToNat] at ho45; rw [← Ny133.out] at ho45)); have n0_ := Aside0.mk (Kd.R_below (by (with_reducible repeat (first | apply Kd.R_alloc | apply Kd.R_drewN | apply Kd.R_drew)); exact HO132.out) hb); have n1_ := Aside0.mk (Kd.R_lower ho45 (below_size (by repeat (first | (with_reducible first | exact HB.out | apply below_alloc | apply pw_below_drewN | apply below_drew1) | exact HB.out)))); have n2_ := Aside0.mk (below_step (by repeat (first | (with_reducible first | exact HB.out | apply below_alloc | apply pw_below_drewN | apply below_drew1) | exact HB.out)) hb); clear HO132; clear HB; have HO132 := n0_; have HO135 := n1_; have HB := n2_; clear n0_ n1_ n2_; clear hb ho45; obtain ⟨Ao46, co46, eo46⟩ := Kd.R_slice HO135.out; subst eo46) | (go_at_call 13; (with_reducible refine (laws_short.calls k _ _ y133 false _ ?side1 ?side2 A5.out).mono ?_); (case side1 => repeat (first | exact (Kd.R_reads' HO135.out).2.2 | (with_reducible refine Kd.C_alloc ?_ _) | (with_reducible refine Kd.C_drewN ?_ _) | (with_reducible refine Kd.C_drew ?_))); (case side2 => exact (Kd.R_reads' HO135.out).2.1); rintro e w' ⟨rfl, ⟨nd, rfl⟩⟩; (try first | exact ⟨rfl, _, World.drewN_drewN _ _ _⟩ | exact ⟨rfl, _, Eq.trans (World.drewN_drewN _ _ _) (congrArg (World.drewN _) (Nat.add_assoc _ _ _))⟩))))
        go_ret
        exact ⟨by first | rfl | (simp [errW_none, errW_some] <;> rfl) | (simp [*, errW_none, errW_some] <;> rfl), by repeat (first | (with_reducible first | exact HB.out | apply below_alloc | apply pw_below_drewN | apply below_drew1) | exact HB.out)⟩
    · rw [if_neg c4] at H
      have c4b0 : ((t130.length : Int) == 4) = false := beq_eq_false_iff_ne.mpr c4
      have c4b1 : ((t130.length : Int) != 4) = true := bne_iff_ne.mpr c4
      obtain rfl := Option.some.inj H
      go_enter Try.func9, Try.ntmps9
      go_wp2_with (first | (go_at_call 36; (with_reducible refine (impl_Tokens.calls (⟨#[123, 105, 100, 125]⟩ : ByteArray) t130 _ A3.out).mono ?_); rintro e w47 ⟨v131, rfl, ho0, hb⟩; have n0_ := Aside0.mk (Kd.R_lower ho0 (below_size (by repeat (first | (with_reducible first | exact HB.out | apply below_alloc | apply pw_below_drewN | apply below_drew1) | exact HB.out)))); have n1_ := Aside0.mk (below_step (by repeat (first | (with_reducible first | exact HB.out | apply below_alloc | apply pw_below_drewN | apply below_drew1) | exact HB.out)) hb); clear HB; have HO132 := n0_; have HB := n1_; clear n0_ n1_; (try clear hb); (try clear hb2); (try clear hk); (try clear hi); (try clear ho0); obtain ⟨Ao48, co48, eo48⟩ := Kd.R_slice HO132.out; subst eo48))
      repeat (go_quiet (first | (go_at_call 36; (with_reducible refine (impl_Tokens.calls (⟨#[123, 105, 100, 125]⟩ : ByteArray) t130 _ A3.out).mono ?_); rintro e w47 ⟨v131, rfl, ho0, hb⟩; have n0_ := Aside0.mk (Kd.R_lower ho0 (below_size (by repeat (first | (with_reducible first | exact HB.out | apply below_alloc | apply pw_below_drewN | apply below_drew1) | exact HB.out)))); have n1_ := Aside0.mk (below_step (by repeat (first | (with_reducible first | exact HB.out | apply below_alloc | apply pw_below_drewN | apply below_drew1) | exact HB.out)) hb); clear HB; have HO132 := n0_; have HB := n1_; clear n0_ n1_; (try clear hb); (try clear hb2); (try clear hk); (try clear hi); (try clear ho0); obtain ⟨Ao48, co48, eo48⟩ := Kd.R_slice HO132.out; subst eo48)); try go_wp2_with (first | (go_at_call 36; (with_reducible refine (impl_Tokens.calls (⟨#[123, 105, 100, 125]⟩ : ByteArray) t130 _ A3.out).mono ?_); rintro e w47 ⟨v131, rfl, ho0, hb⟩; have n0_ := Aside0.mk (Kd.R_lower ho0 (below_size (by repeat (first | (with_reducible first | exact HB.out | apply below_alloc | apply pw_below_drewN | apply below_drew1) | exact HB.out)))); have n1_ := Aside0.mk (below_step (by repeat (first | (with_reducible first | exact HB.out | apply below_alloc | apply pw_below_drewN | apply below_drew1) | exact HB.out)) hb); clear HB; have HO132 := n0_; have HB := n1_; clear n0_ n1_; (try clear hb); (try clear hb2); (try clear hk); (try clear hi); (try clear ho0); obtain ⟨Ao48, co48, eo48⟩ := Kd.R_slice HO132.out; subst eo48)))
      go_ret
      exact ⟨by first | rfl | (simp [errW_none, errW_some] <;> rfl) | (simp [*, errW_none, errW_some] <;> rfl), by repeat (first | (with_reducible first | exact HB.out | apply below_alloc | apply pw_below_drewN | apply below_drew1) | exact HB.out)⟩

/-- THE ONE PURE STATEMENT of laws_FnTokensSay: yours. -/
def laws_FnTokensSay.Pure : Prop := ∀ (a0 : ByteArray), a0.size ≤ 140737488351232 → ∃ k, laws_FnTokensSay.f k a0 = some true
theorem laws_FnTokensSay.walk (P : laws_FnTokensSay.Pure) (a0 : ByteArray) (w : World) (w0 : a0.size ≤ 140737488351232) :
    Calls Try.prog 9 #[.string a0] w fun e w' => e = .returned (.bool true) ∧ Below w.heap.size w w' := by
  obtain ⟨k, h⟩ := P a0 w0
  refine (laws_FnTokensSay.calls k a0 true w h).mono ?_
  rintro e w' ⟨rfl, hd⟩
  exact ⟨rfl, hd⟩

end Go.Proofs.Ytipmmjbjgbfgjaa.Q
