-- Written by a program of this session out of the translation, with the kit's printer. Not trusted: Lean checks it.
import Derived.Test.YtjmcndbkmknemaaQ0
import Derived.Test.YtjmcndbkmknemaaQ1
import Derived.Test.YtjmcndbkmknemaaQ19
import Derived.Test.YtjmcndbkmknemaaQ36
namespace Go.Proofs.Ytjmcndbkmknemaa.Q
open Go.RowKit Go.Proofs.YtjmcndbkmknemaaW.PrintWords Go.Proofs.YtjmcndbkmknemaaW.PrintLast Go.Proofs.YtjmcndbkmknemaaW.PrintMore
attribute [local go_sem] max2_int min2_int max_two min_two max_three min_three max_four min_four   -- for this text's walks alone
set_option linter.unusedVariables false
set_option linter.unusedSimpArgs false

attribute [local go_sem high] eqA45
/-! ### laws_FnTypes: function 14 -/
mutual
def laws_FnTypes.j0 : Nat → ByteArray → List (S45) → Bool → Option (Bool)
  | 0, _, _, _ => none
  | k + 1, x0, x1, x20 => if x20 = true then (some true) else ((laws_types.f).bind fun t329 => ((impl_TypeOf.f (⟨#[110, 117, 109, 98, 101, 114]⟩ : ByteArray) t329).bind fun bt332 => (if bt332.2.2.2.2 = true then (laws_FnTypes.j1 k x0 x1 (bt332.1.toList != ([105, 110, 116] : List UInt8))) else (laws_FnTypes.j1 k x0 x1 true))))
def laws_FnTypes.j1 : Nat → ByteArray → List (S45) → Bool → Option (Bool)
  | 0, _, _, _ => none
  | k + 1, x0, x1, x32 => if x32 = true then (some false) else (laws_FnTypes.l0 k x0 x1 x1 (x1.length : Int) 0)
def laws_FnTypes.l0 : Nat → ByteArray → List (S45) → List (S45) → Int → Int → Option (Bool)
  | 0, _, _, _, _, _ => none
  | k + 1, x0, x1, x33, x34, x35 => if x35 < x34 then (if 0 ≤ x35 then (if x35 < (x33.length : Int) then (if ((rd_T45 x33 x35).f0).toList = ([] : List UInt8) then (some true) else (laws_FnTypes.l0 k x0 x1 x33 x34 (wrap64 (x35 + 1)))) else (none)) else (none)) else ((impl_TypeOf.f x0 x1).bind fun bt340 => (laws_FnTypes.l1 k x0 bt340.2.2.2.2 x1 (x1.length : Int) 0 bt340.1 bt340.2.1 bt340.2.2.1 bt340.2.2.2.1))
def laws_FnTypes.l1 : Nat → ByteArray → Bool → List (S45) → Int → Int → ByteArray → ByteArray → Bool → Bool → Option (Bool)
  | 0, _, _, _, _, _, _, _, _, _ => none
  | k + 1, x0, x10, x49, x50, x51, x346000, x346001, x346002, x346003 => if x51 < x50 then (if 0 ≤ x51 then (if x51 < (x49.length : Int) then (if ((rd_T45 x49 x51).f0).toList = x0.toList then (if x10 = true then (some (x346000.toList == (((rd_T45 x49 x51).f0).toList) && (x346001.toList == (((rd_T45 x49 x51).f1).toList) && (x346002 == ((rd_T45 x49 x51).f2) && (x346003 == ((rd_T45 x49 x51).f3)))))) else (some false)) else (if ((rd_T45 x49 x51).f1).toList = x0.toList then (if x0.toList = ([] : List UInt8) then (laws_FnTypes.l1 k x0 x10 x49 x50 (wrap64 (x51 + 1)) x346000 x346001 x346002 x346003) else (if x10 = true then (some (x346000.toList == (((rd_T45 x49 x51).f0).toList) && (x346001.toList == (((rd_T45 x49 x51).f1).toList) && (x346002 == ((rd_T45 x49 x51).f2) && (x346003 == ((rd_T45 x49 x51).f3)))))) else (some false))) else (laws_FnTypes.l1 k x0 x10 x49 x50 (wrap64 (x51 + 1)) x346000 x346001 x346002 x346003))) else (none)) else (none)) else (if x0.toList = ([] : List UInt8) then (some true) else (some (!x10)))
end
def laws_FnTypes.f (k : Nat) (a0 : ByteArray) (l1 : List (S45)) : Option (Bool) := if (a0.size : Int) > 2147483647 then (laws_FnTypes.j0 k a0 l1 true) else ((laws_zzFits2.f k l1).bind fun t328 => (laws_FnTypes.j0 k a0 l1 (!t328)))
theorem laws_FnTypes.mono_l : ∀ k, (∀ y0 y1 y2, LeO (laws_FnTypes.j0 k y0 y1 y2) (laws_FnTypes.j0 (k + 1) y0 y1 y2)) ∧ (∀ y0 y1 y2, LeO (laws_FnTypes.j1 k y0 y1 y2) (laws_FnTypes.j1 (k + 1) y0 y1 y2)) ∧ (∀ y0 y1 y2 y3 y4, LeO (laws_FnTypes.l0 k y0 y1 y2 y3 y4) (laws_FnTypes.l0 (k + 1) y0 y1 y2 y3 y4)) ∧ (∀ y0 y1 y2 y3 y4 y5 y6 y7 y8, LeO (laws_FnTypes.l1 k y0 y1 y2 y3 y4 y5 y6 y7 y8) (laws_FnTypes.l1 (k + 1) y0 y1 y2 y3 y4 y5 y6 y7 y8))
  | 0 => ⟨fun _ _ _ r h => by simp [laws_FnTypes.j0] at h, fun _ _ _ r h => by simp [laws_FnTypes.j1] at h, fun _ _ _ _ _ r h => by simp [laws_FnTypes.l0] at h, fun _ _ _ _ _ _ _ _ _ r h => by simp [laws_FnTypes.l1] at h⟩
  | k + 1 => by
    obtain ⟨ih0, ih1, ih2, ih3⟩ := laws_FnTypes.mono_l k
    refine ⟨?_, ?_, ?_, ?_⟩
    · intro y0 y1 y2
      unfold laws_FnTypes.j0
      repeat' first
      | (with_reducible exact ih0 _ _ _)
      | (with_reducible exact ih1 _ _ _)
      | (with_reducible exact ih2 _ _ _ _ _)
      | (with_reducible exact ih3 _ _ _ _ _ _ _ _ _)
      | (with_reducible exact laws_zzFits2.mono _ _)
      | (with_reducible exact LeO.refl _)
      | (with_reducible exact LeO.none _)
      | (with_reducible refine LeO.ite ?_ ?_)
      | (with_reducible refine LeO.bind ?_ (fun _ => ?_))
      | exact ih0 _ _ _
      | exact ih1 _ _ _
      | exact ih2 _ _ _ _ _
      | exact ih3 _ _ _ _ _ _ _ _ _
      | exact laws_zzFits2.mono _ _
      | exact LeO.none _
      | refine LeO.ite ?_ ?_
      | refine LeO.bind ?_ (fun _ => ?_)
    · intro y0 y1 y2
      unfold laws_FnTypes.j1
      repeat' first
      | (with_reducible exact ih0 _ _ _)
      | (with_reducible exact ih1 _ _ _)
      | (with_reducible exact ih2 _ _ _ _ _)
      | (with_reducible exact ih3 _ _ _ _ _ _ _ _ _)
      | (with_reducible exact laws_zzFits2.mono _ _)
      | (with_reducible exact LeO.refl _)
      | (with_reducible exact LeO.none _)
      | (with_reducible refine LeO.ite ?_ ?_)
      | (with_reducible refine LeO.bind ?_ (fun _ => ?_))
      | exact ih0 _ _ _
      | exact ih1 _ _ _
      | exact ih2 _ _ _ _ _
      | exact ih3 _ _ _ _ _ _ _ _ _
      | exact laws_zzFits2.mono _ _
      | exact LeO.none _
      | refine LeO.ite ?_ ?_
      | refine LeO.bind ?_ (fun _ => ?_)
    · intro y0 y1 y2 y3 y4
      unfold laws_FnTypes.l0
      repeat' first
      | (with_reducible exact ih0 _ _ _)
      | (with_reducible exact ih1 _ _ _)
      | (with_reducible exact ih2 _ _ _ _ _)
      | (with_reducible exact ih3 _ _ _ _ _ _ _ _ _)
      | (with_reducible exact laws_zzFits2.mono _ _)
      | (with_reducible exact LeO.refl _)
      | (with_reducible exact LeO.none _)
      | (with_reducible refine LeO.ite ?_ ?_)
      | (with_reducible refine LeO.bind ?_ (fun _ => ?_))
      | exact ih0 _ _ _
      | exact ih1 _ _ _
      | exact ih2 _ _ _ _ _
      | exact ih3 _ _ _ _ _ _ _ _ _
      | exact laws_zzFits2.mono _ _
      | exact LeO.none _
      | refine LeO.ite ?_ ?_
      | refine LeO.bind ?_ (fun _ => ?_)
    · intro y0 y1 y2 y3 y4 y5 y6 y7 y8
      unfold laws_FnTypes.l1
      repeat' first
      | (with_reducible exact ih0 _ _ _)
      | (with_reducible exact ih1 _ _ _)
      | (with_reducible exact ih2 _ _ _ _ _)
      | (with_reducible exact ih3 _ _ _ _ _ _ _ _ _)
      | (with_reducible exact laws_zzFits2.mono _ _)
      | (with_reducible exact LeO.refl _)
      | (with_reducible exact LeO.none _)
      | (with_reducible refine LeO.ite ?_ ?_)
      | (with_reducible refine LeO.bind ?_ (fun _ => ?_))
      | exact ih0 _ _ _
      | exact ih1 _ _ _
      | exact ih2 _ _ _ _ _
      | exact ih3 _ _ _ _ _ _ _ _ _
      | exact laws_zzFits2.mono _ _
      | exact LeO.none _
      | refine LeO.ite ?_ ?_
      | refine LeO.bind ?_ (fun _ => ?_)
theorem laws_FnTypes.mono : ∀ a0 a1 k, LeO (laws_FnTypes.f k a0 a1) (laws_FnTypes.f (k + 1) a0 a1) := by
  intro a0 a1 k
  obtain ⟨ih0, ih1, ih2, ih3⟩ := laws_FnTypes.mono_l k
  unfold laws_FnTypes.f
  repeat' first
      | (with_reducible exact ih0 _ _ _)
      | (with_reducible exact ih1 _ _ _)
      | (with_reducible exact ih2 _ _ _ _ _)
      | (with_reducible exact ih3 _ _ _ _ _ _ _ _ _)
      | (with_reducible exact laws_zzFits2.mono _ _)
      | (with_reducible exact LeO.refl _)
      | (with_reducible exact LeO.none _)
      | (with_reducible refine LeO.ite ?_ ?_)
      | (with_reducible refine LeO.bind ?_ (fun _ => ?_))
      | exact ih0 _ _ _
      | exact ih1 _ _ _
      | exact ih2 _ _ _ _ _
      | exact ih3 _ _ _ _ _ _ _ _ _
      | exact laws_zzFits2.mono _ _
      | exact LeO.none _
      | refine LeO.ite ?_ ?_
      | refine LeO.bind ?_ (fun _ => ?_)
set_option maxHeartbeats 8000000 in
set_option maxRecDepth 100000 in
theorem laws_FnTypes.calls (k : Nat) (a0 : ByteArray) (A1 : Option Addr) (c1 : Nat) (l1 : List (S45)) (r : Bool) (w : World) (hr1 : Kd.C k45 w A1 l1.length l1) (hc1 : l1.length ≤ c1) (h : laws_FnTypes.f k a0 l1 = some r) :
    Calls Try.prog 14 #[.string a0, .slice A1 l1.length c1] w fun e w' => e = .returned (.bool r) ∧ Below w.heap.size w w' := by
  have hu45 := Try.underlying45
  have HR1 := Aside0.mk hr1
  have HC1 := Aside0.mk hc1
  clear hr1 hc1
  have HB := Aside0.mk (Below.refl w.heap.size w)
  have H : (if (a0.size : Int) > 2147483647 then (laws_FnTypes.j0 k a0 l1 true) else ((laws_zzFits2.f k l1).bind fun t328 => (laws_FnTypes.j0 k a0 l1 (!t328)))) = some r := h
  clear h
  have HC3 := Aside0.mk H
  clear H
  go_enter Try.func14, Try.ntmps14
  go_upto_region 1 with (fail)
  go_cut [20] (fun v20 wc => ∃ (kq : Nat) (x20_2 : Bool), v20 = .bool x20_2 ∧ Aside0 (laws_FnTypes.j0 kq a0 l1 x20_2 = some r) ∧ Aside0 (kq ≤ k) ∧ Aside0 (Below w.heap.size w wc))
  case first =>
    have H := HC3.out
    clear HC3
    by_cases c4 : (a0.size : Int) > 2147483647
    · rw [if_pos c4] at H
      have c4b0 : decide (2147483647 < (a0.size : Int)) = true := decide_eq_true c4
      have c4b1 : decide (2147483647 < a0.size) = true := decide_eq_true (by omega)
      clear c4
      (first | rw [c4b0] | (simp only [i64_w, i32_w]; rw [c4b0]) | skip)
      have H' := Aside0.mk H
      clear H
      go_wp2
      go_meet
      case rel => exact ⟨_, (true), (by first | rfl | (simp; done) | (simp [*]; done) | (simp [Go.Proofs.YtjmcndbkmknemaaX.isEmpty_ne]; done)), H', ⟨by first | omega | exact Nat.le_refl _⟩, ⟨by repeat (first | (with_reducible first | exact HB.out | apply below_alloc | apply pw_below_drewN | apply below_drew1) | exact HB.out)⟩⟩
    · rw [if_neg c4] at H
      have c4b0 : decide (2147483647 < (a0.size : Int)) = false := decide_eq_false c4
      have c4b1 : decide (2147483647 < a0.size) = false := decide_eq_false (by omega)
      clear c4
      (first | rw [c4b0] | (simp only [i64_w, i32_w]; rw [c4b0]) | skip)
      replace H := Option.bind_eq_some_iff.mp H
      obtain ⟨t328, A50, H⟩ := H
      replace H : (laws_FnTypes.j0 k a0 l1 (!t328)) = some r := H
      have A5 := Aside0.mk A50
      clear A50
      have H' := Aside0.mk H
      clear H
      go_wp2_with (first | (go_at_call 27; (with_reducible refine (laws_zzFits2.calls k _ _ l1 t328 _ ?side1 ?side2 A5.out).mono ?_); (case side1 => repeat (first | exact (Kd.C_below HR1.out HB.out) | (with_reducible refine Kd.C_alloc ?_ _) | (with_reducible refine Kd.C_drewN ?_ _) | (with_reducible refine Kd.C_drew ?_))); (case side2 => exact HC1.out); rintro e w6 ⟨rfl, hb⟩; have n0_ := Aside0.mk (below_step (by repeat (first | (with_reducible first | exact HB.out | apply below_alloc | apply pw_below_drewN | apply below_drew1) | exact HB.out)) hb); clear HB; have HB := n0_; clear n0_; (try clear hb); (try clear hb2); (try clear hk); (try clear hi)))
      go_meet
      case rel => exact ⟨_, (!t328), (by first | rfl | (simp; done) | (simp [*]; done) | (simp [Go.Proofs.YtjmcndbkmknemaaX.isEmpty_ne]; done)), H', ⟨by first | omega | exact Nat.le_refl _⟩, ⟨by repeat (first | (with_reducible first | exact HB.out | apply below_alloc | apply pw_below_drewN | apply below_drew1) | exact HB.out)⟩⟩
  case rest =>
    clear HC3
    try clear c1
    try clear p2
    try clear c4
    try clear c4b0
    try clear c4b1
    obtain ⟨kq, x20_2, rfl, HA, HJ2, HB⟩ := hcut
    cases kq with
    | zero => exact absurd HA.out (by simp [laws_FnTypes.j0])
    | succ kj2 =>
      have H := HA.out
      clear HA
      simp only [laws_FnTypes.j0] at H
      by_cases c7 : x20_2 = true
      · subst c7
        have H1 : (some true) = some r := by rw [if_pos rfl] at H; exact H
        clear H
        have H := H1
        clear H1
        obtain rfl := Option.some.inj H
        go_wp2
        go_ret
        exact ⟨by first | rfl | (simp [errW_none, errW_some] <;> rfl) | (simp [*, errW_none, errW_some] <;> rfl), by repeat (first | (with_reducible first | exact HB.out | apply below_alloc | apply pw_below_drewN | apply below_drew1) | exact HB.out)⟩
      · replace c7 := Bool.eq_false_iff.mpr c7
        subst c7
        have H1 : ((laws_types.f).bind fun t329 => ((impl_TypeOf.f (⟨#[110, 117, 109, 98, 101, 114]⟩ : ByteArray) t329).bind fun bt332 => (if bt332.2.2.2.2 = true then (laws_FnTypes.j1 kj2 a0 l1 (bt332.1.toList != ([105, 110, 116] : List UInt8))) else (laws_FnTypes.j1 kj2 a0 l1 true)))) = some r := by rw [if_neg (show ¬ (false = true) by decide)] at H; exact H
        clear H
        have H := H1
        clear H1
        replace H := Option.bind_eq_some_iff.mp H
        obtain ⟨t329, A80, H⟩ := H
        replace H : ((impl_TypeOf.f (⟨#[110, 117, 109, 98, 101, 114]⟩ : ByteArray) t329).bind fun bt332 => (if bt332.2.2.2.2 = true then (laws_FnTypes.j1 kj2 a0 l1 (bt332.1.toList != ([105, 110, 116] : List UInt8))) else (laws_FnTypes.j1 kj2 a0 l1 true))) = some r := H
        have A8 := Aside0.mk A80
        clear A80
        replace H := Option.bind_eq_some_iff.mp H
        obtain ⟨⟨t332, t333, t334, t335, t336⟩, A90, H⟩ := H
        replace H : (if t336 = true then (laws_FnTypes.j1 kj2 a0 l1 (t332.toList != ([105, 110, 116] : List UInt8))) else (laws_FnTypes.j1 kj2 a0 l1 true)) = some r := H
        have A9 := Aside0.mk A90
        clear A90
        have HC10 := Aside0.mk H
        clear H
        go_upto_region 4 with (first | ((with_reducible refine gate_callee (f := 29) rfl ?_); refine goesL_ (some 22) rfl rfl Try.func29 (by kernel_rfl) rfl #[] rfl (by (try simp only [List.map_toArray, List.map_cons, List.map_nil]); first | done | rfl | (simp only [List.length_drop, List.length_take]; rfl)) ?_; (with_reducible refine (laws_types.calls  t329 _ A8.out).mono ?_); rintro e w11 ⟨v330, rfl, ho0, hb⟩; refine ⟨_, rfl, ?_⟩; have n0_ := Aside0.mk (Kd.R_lower ho0 (below_size (by repeat (first | (with_reducible first | exact HB.out | apply below_alloc | apply pw_below_drewN | apply below_drew1) | exact HB.out)))); have n1_ := Aside0.mk (below_step (by repeat (first | (with_reducible first | exact HB.out | apply below_alloc | apply pw_below_drewN | apply below_drew1) | exact HB.out)) hb); clear HB; have HO331 := n0_; have HB := n1_; clear n0_ n1_; (try clear hb); (try clear hb2); (try clear hk); (try clear hi); (try clear ho0); obtain ⟨Ao12, co12, eo12⟩ := Kd.R_slice HO331.out; subst eo12) | ((with_reducible refine gate_callee (f := 39) rfl ?_); refine goesL_ (some 23) rfl rfl Try.func39 (by kernel_rfl) rfl #[.string (⟨#[110, 117, 109, 98, 101, 114]⟩ : ByteArray), .slice Ao12 t329.length co12] rfl (by (try simp only [List.map_toArray, List.map_cons, List.map_nil]); first | done | rfl | (simp only [List.length_drop, List.length_take]; rfl)) ?_; (with_reducible refine (impl_TypeOf.calls (⟨#[110, 117, 109, 98, 101, 114]⟩ : ByteArray) _ _ t329 t332 t333 t334 t335 t336 _ ?side1 ?side2 A9.out).mono ?_); (case side1 => repeat (first | exact (Kd.R_reads' HO331.out).2.2 | (with_reducible refine Kd.C_alloc ?_ _) | (with_reducible refine Kd.C_drewN ?_ _) | (with_reducible refine Kd.C_drew ?_))); (case side2 => exact (Kd.R_reads' HO331.out).2.1); rintro e w13 ⟨rfl, hb⟩; refine ⟨_, rfl, ?_⟩; have n0_ := Aside0.mk (Kd.R_below (by (with_reducible repeat (first | apply Kd.R_alloc | apply Kd.R_drewN | apply Kd.R_drew)); exact HO331.out) hb); have n1_ := Aside0.mk (below_step (by repeat (first | (with_reducible first | exact HB.out | apply below_alloc | apply pw_below_drewN | apply below_drew1) | exact HB.out)) hb); clear HO331; clear HB; have HO331 := n0_; have HB := n1_; clear n0_ n1_; (try clear hb); (try clear hb2); (try clear hk); (try clear hi)) | ((with_reducible refine gate_dst (N := 5) rfl ?_); refine box_event ?hg (N := 5) ?hd (cs := #[.string (⟨#[]⟩ : ByteArray), .string (⟨#[]⟩ : ByteArray), .bool false, .bool false]) (t := 45) ?hr ?_; (case hd => rfl); (case hg => rfl); (case hr => first | (go_simp; done) | (go_simp; rfl)); intro gb337 hg w14 hbox hb; have n0_ := Aside0.mk (Kd.R_below (Kd.R_elderB (by (with_reducible repeat (first | apply Kd.R_alloc | apply Kd.R_drewN | apply Kd.R_drew)); exact HO331.out) gb337 (Nat.le_of_eq hg.symm)) hb); have n1_ := Aside0.mk (below_step (by repeat (first | (with_reducible first | exact HB.out | apply below_alloc | apply pw_below_drewN | apply below_drew1) | exact HB.out)) hb); have n2_ := Aside0.mk (hbox); have n3_ := Aside0.mk ((by rw [hg]; exact (below_size (by repeat (first | (with_reducible first | exact HB.out | apply below_alloc | apply pw_below_drewN | apply below_drew1) | exact HB.out))) : w.heap.size ≤ gb337)); have n4_ := Aside0.mk ((by rw [hg]; exact (below_size (by repeat (first | (with_reducible first | exact HB.out | apply below_alloc | apply pw_below_drewN | apply below_drew1) | exact HB.out))) : w.heap.size ≤ gb337)); clear HO331; clear HB; have HO331 := n0_; have HB := n1_; have BK337 := n2_; have GW337 := n3_; have GE337 := n4_; clear n0_ n1_ n2_ n3_ n4_; clear hb hbox hg; have hcz15_0 : w14.cell? ⟨gb337, 0, none⟩ = some (.string (⟨#[]⟩ : ByteArray)) := (blk_cell BK337.out 0).trans rfl; have hcz15_1 : w14.cell? ⟨gb337, 1, none⟩ = some (.string (⟨#[]⟩ : ByteArray)) := (blk_cell BK337.out 1).trans rfl; have hcz15_2 : w14.cell? ⟨gb337, 2, none⟩ = some (.bool false) := (blk_cell BK337.out 2).trans rfl; have hcz15_3 : w14.cell? ⟨gb337, 3, none⟩ = some (.bool false) := (blk_cell BK337.out 3).trans rfl; have hfz15_0 := blk_frozen BK337.out 0; have hfz15_1 := blk_frozen BK337.out 1; have hfz15_2 := blk_frozen BK337.out 2; have hfz15_3 := blk_frozen BK337.out 3))
        (try simp only [Act.put, List.setIfInBounds_toArray, List.set_cons_zero, List.set_cons_succ])
        go_cut [32] (fun v32 wc => ∃ (kq : Nat) (x32_9 : Bool), v32 = .bool x32_9 ∧ Aside0 (laws_FnTypes.j1 kq a0 l1 x32_9 = some r) ∧ Aside0 (kq ≤ kj2) ∧ Aside0 (wc.heap[gb337]? = some (.cells #[.string t332, .string t333, .bool t334, .bool t335] 45 (0, 0))) ∧ Aside0 (Below w.heap.size w wc))
        case first =>
          have H := HC10.out
          clear HC10
          by_cases c16 : t336 = true
          · subst c16
            have H1 : (laws_FnTypes.j1 kj2 a0 l1 (t332.toList != ([105, 110, 116] : List UInt8))) = some r := by rw [if_pos rfl] at H; exact H
            clear H
            have H := H1
            clear H1
            have H' := Aside0.mk H
            clear H
            have hcz17_0 : w14.cell? ⟨gb337, 0, none⟩ = some (.string (⟨#[]⟩ : ByteArray)) := (blk_cell BK337.out 0).trans rfl
            have hcz17_1 : w14.cell? ⟨gb337, 1, none⟩ = some (.string (⟨#[]⟩ : ByteArray)) := (blk_cell BK337.out 1).trans rfl
            have hcz17_2 : w14.cell? ⟨gb337, 2, none⟩ = some (.bool false) := (blk_cell BK337.out 2).trans rfl
            have hcz17_3 : w14.cell? ⟨gb337, 3, none⟩ = some (.bool false) := (blk_cell BK337.out 3).trans rfl
            have hfz17_0 := blk_frozen BK337.out 0
            have hfz17_1 := blk_frozen BK337.out 1
            have hfz17_2 := blk_frozen BK337.out 2
            have hfz17_3 := blk_frozen BK337.out 3
            go_wp2
            go_meet
            case rel => exact ⟨_, ((t332.toList != ([105, 110, 116] : List UInt8))), (by first | rfl | (simp; done) | (simp [*]; done) | (simp [Go.Proofs.YtjmcndbkmknemaaX.isEmpty_ne]; done)), H', ⟨by have := HJ2.out; first | omega | exact Nat.le_refl _⟩, ⟨by (with_reducible repeat (first | refine blk_drewN ?_ _ | refine blk_drew ?_ | refine blk_alloc ?_ _)); refine blk_put (cs := #[.string t332, .string t333, .bool t334, .bool false]) ?_ 3 _ rfl; (with_reducible repeat (first | refine blk_drewN ?_ _ | refine blk_drew ?_ | refine blk_alloc ?_ _)); refine blk_put (cs := #[.string t332, .string t333, .bool false, .bool false]) ?_ 2 _ rfl; (with_reducible repeat (first | refine blk_drewN ?_ _ | refine blk_drew ?_ | refine blk_alloc ?_ _)); refine blk_put (cs := #[.string t332, .string (⟨#[]⟩ : ByteArray), .bool false, .bool false]) ?_ 1 _ rfl; (with_reducible repeat (first | refine blk_drewN ?_ _ | refine blk_drew ?_ | refine blk_alloc ?_ _)); refine blk_put (cs := #[.string (⟨#[]⟩ : ByteArray), .string (⟨#[]⟩ : ByteArray), .bool false, .bool false]) ?_ 0 _ rfl; (with_reducible repeat (first | refine blk_drewN ?_ _ | refine blk_drew ?_ | refine blk_alloc ?_ _)); exact BK337.out⟩, ⟨by repeat (first | (with_reducible first | exact HB.out | apply below_alloc | apply pw_below_drewN | apply below_drew1 | refine below_set ?_ GE337.out) | exact HB.out)⟩⟩
          · replace c16 := Bool.eq_false_iff.mpr c16
            subst c16
            have H1 : (laws_FnTypes.j1 kj2 a0 l1 true) = some r := by rw [if_neg (show ¬ (false = true) by decide)] at H; exact H
            clear H
            have H := H1
            clear H1
            have H' := Aside0.mk H
            clear H
            go_wp2
            go_meet
            case rel => exact ⟨_, (true), (by first | rfl | (simp; done) | (simp [*]; done) | (simp [Go.Proofs.YtjmcndbkmknemaaX.isEmpty_ne]; done)), H', ⟨by have := HJ2.out; first | omega | exact Nat.le_refl _⟩, ⟨by (with_reducible repeat (first | refine blk_drewN ?_ _ | refine blk_drew ?_ | refine blk_alloc ?_ _)); refine blk_put (cs := #[.string t332, .string t333, .bool t334, .bool false]) ?_ 3 _ rfl; (with_reducible repeat (first | refine blk_drewN ?_ _ | refine blk_drew ?_ | refine blk_alloc ?_ _)); refine blk_put (cs := #[.string t332, .string t333, .bool false, .bool false]) ?_ 2 _ rfl; (with_reducible repeat (first | refine blk_drewN ?_ _ | refine blk_drew ?_ | refine blk_alloc ?_ _)); refine blk_put (cs := #[.string t332, .string (⟨#[]⟩ : ByteArray), .bool false, .bool false]) ?_ 1 _ rfl; (with_reducible repeat (first | refine blk_drewN ?_ _ | refine blk_drew ?_ | refine blk_alloc ?_ _)); refine blk_put (cs := #[.string (⟨#[]⟩ : ByteArray), .string (⟨#[]⟩ : ByteArray), .bool false, .bool false]) ?_ 0 _ rfl; (with_reducible repeat (first | refine blk_drewN ?_ _ | refine blk_drew ?_ | refine blk_alloc ?_ _)); exact BK337.out⟩, ⟨by repeat (first | (with_reducible first | exact HB.out | apply below_alloc | apply pw_below_drewN | apply below_drew1 | refine below_set ?_ GE337.out) | exact HB.out)⟩⟩
        case rest =>
          clear HC10
          try clear c1
          try clear c2
          try clear p2
          try clear c3
          try clear c4
          try clear c4b0
          try clear c4b1
          try clear c7
          try clear c14
          try clear c16
          try clear hcz15_0
          try clear hcz15_1
          try clear hcz15_2
          try clear hcz15_3
          try clear hcz17_0
          try clear hcz17_1
          try clear hcz17_2
          try clear hcz17_3
          try clear hfz15_0
          try clear hfz15_1
          try clear hfz15_2
          try clear hfz15_3
          try clear hfz17_0
          try clear hfz17_1
          try clear hfz17_2
          try clear hfz17_3
          try clear p2
          obtain ⟨kq, x32_9, rfl, HA, HJ9, BK337, HB⟩ := hcut
          cases kq with
          | zero => exact absurd HA.out (by simp [laws_FnTypes.j1])
          | succ kj9 =>
            have H := HA.out
            clear HA
            simp only [laws_FnTypes.j1] at H
            by_cases c18 : x32_9 = true
            · subst c18
              have H1 : (some false) = some r := by rw [if_pos rfl] at H; exact H
              clear H
              have H := H1
              clear H1
              obtain rfl := Option.some.inj H
              go_wp2
              go_ret
              exact ⟨by first | rfl | (simp [errW_none, errW_some] <;> rfl) | (simp [*, errW_none, errW_some] <;> rfl), by repeat (first | (with_reducible first | exact HB.out | apply below_alloc | apply pw_below_drewN | apply below_drew1 | refine below_set ?_ GE337.out) | exact HB.out)⟩
            · replace c18 := Bool.eq_false_iff.mpr c18
              subst c18
              have H1 : (laws_FnTypes.l0 kj9 a0 l1 l1 (l1.length : Int) 0) = some r := by rw [if_neg (show ¬ (false = true) by decide)] at H; exact H
              clear H
              have H := H1
              clear H1
              have H' := Aside0.mk H
              clear H
              go_wp2
              go_loopg [35] kj9 (fun kq v35 w' => ∃ (x35_3 : Int), v35 = .int .i64 x35_3 ∧ Aside0 (laws_FnTypes.l0 kq a0 l1 l1 (l1.length : Int) x35_3 = some r) ∧ Aside0 (kq ≤ kj9) ∧ Aside0 (w'.heap[gb337]? = some (.cells #[.string t332, .string t333, .bool t334, .bool t335] 45 (0, 0))) ∧ Aside0 (Below w.heap.size w w'))
              case atStart => exact ⟨(0), (by first | rfl | (simp; done) | (simp [*]; done) | (simp [Go.Proofs.YtjmcndbkmknemaaX.isEmpty_ne]; done)), H', ⟨Nat.le_refl _⟩, ⟨by (with_reducible repeat (first | refine blk_drewN ?_ _ | refine blk_drew ?_ | refine blk_alloc ?_ _)); exact BK337.out⟩, ⟨by repeat (first | (with_reducible first | exact HB.out | apply below_alloc | apply pw_below_drewN | apply below_drew1 | refine below_set ?_ GE337.out) | exact HB.out)⟩⟩
              case round =>
                clear H'
                try clear c1
                try clear c2
                try clear p2
                try clear c3
                try clear c4
                try clear c4b0
                try clear c4b1
                try clear c7
                try clear c14
                try clear c16
                try clear c18
                try clear hcz15_0
                try clear hcz15_1
                try clear hcz15_2
                try clear hcz15_3
                try clear hcz17_0
                try clear hcz17_1
                try clear hcz17_2
                try clear hcz17_3
                try clear hfz15_0
                try clear hfz15_1
                try clear hfz15_2
                try clear hfz15_3
                try clear hfz17_0
                try clear hfz17_1
                try clear hfz17_2
                try clear hfz17_3
                try clear p2
                obtain ⟨x35_3, rfl, HA, HK3, BK337, HB⟩ := hrel
                cases gk with
                | zero => exact absurd HA.out (by simp [laws_FnTypes.l0])
                | succ k3 =>
                  have H := HA.out
                  clear HA
                  simp only [laws_FnTypes.l0] at H
                  by_cases c19 : x35_3 < (l1.length : Int)
                  · rw [if_pos c19] at H
                    have c19b0 : decide (x35_3 < (l1.length : Int)) = true := decide_eq_true c19
                    clear c19
                    by_cases c20 : 0 ≤ x35_3
                    · rw [if_pos c20] at H
                      have c20b0 : decide (0 ≤ x35_3) = true := decide_eq_true c20
                      clear c20
                      by_cases c21 : x35_3 < (l1.length : Int)
                      · rw [if_pos c21] at H
                        have c21b0 : decide (x35_3 < (l1.length : Int)) = true := decide_eq_true c21
                        clear c21
                        by_cases c22 : ((rd_T45 l1 x35_3).f0).toList = ([] : List UInt8)
                        · rw [if_pos c22] at H
                          have c22b0 : (((rd_T45 l1 x35_3).f0).toList == ([] : List UInt8)) = true := beq_iff_eq.mpr c22
                          have c22b1 : (((rd_T45 l1 x35_3).f0).toList != ([] : List UInt8)) = false := bne_eq_false_iff_eq.mpr c22
                          clear c22
                          obtain rfl := Option.some.inj H
                          have p338 : 0 ≤ (x35_3 : Int) := of_decide_eq_true (by first | (with_reducible assumption) | assumption)
                          have q338 : x35_3 < (l1.length : Int) := of_decide_eq_true (by first | (with_reducible assumption) | assumption)
                          obtain ⟨ad338, e338, hx338_0, hx338_1, hx338_2, hx338_3⟩ := at_T45 HR1.out x35_3 p338 q338
                          cases e338
                          replace hx338_0 := (HB.out.cell (World.block_lt_of_cell? w _ hx338_0)).trans hx338_0
                          replace hx338_1 := (HB.out.cell (World.block_lt_of_cell? w _ hx338_1)).trans hx338_1
                          replace hx338_2 := (HB.out.cell (World.block_lt_of_cell? w _ hx338_2)).trans hx338_2
                          replace hx338_3 := (HB.out.cell (World.block_lt_of_cell? w _ hx338_3)).trans hx338_3
                          replace p338 := eq_true p338
                          replace q338 := eq_true q338
                          go_wp2_with (first | ((with_reducible refine gate_dst (N := 8) rfl ?_); refine box_event ?hg (N := 8) ?hd (cs := #[.string (⟨#[]⟩ : ByteArray), .string (⟨#[]⟩ : ByteArray), .bool false, .bool false]) (t := 45) ?hr ?_; (case hd => rfl); (case hg => rfl); (case hr => first | (go_simp; done) | (go_simp; rfl)); intro gb339 hg w23 hbox hb; have n0_ := Aside0.mk (blk_below (g := gb337) (o := .cells #[.string t332, .string t333, .bool t334, .bool t335] 45 (0, 0)) (by (with_reducible repeat (first | refine blk_drewN ?_ _ | refine blk_drew ?_ | refine blk_alloc ?_ _)); exact BK337.out) hb); have n1_ := Aside0.mk (below_step (by repeat (first | (with_reducible first | exact HB.out | apply below_alloc | apply pw_below_drewN | apply below_drew1 | refine below_set ?_ GE337.out) | exact HB.out)) hb); have n2_ := Aside0.mk (hbox); have n3_ := Aside0.mk ((by rw [hg]; exact (below_size (by repeat (first | (with_reducible first | exact HB.out | apply below_alloc | apply pw_below_drewN | apply below_drew1 | refine below_set ?_ GE337.out) | exact HB.out))) : w.heap.size ≤ gb339)); have n4_ := Aside0.mk ((by rw [hg]; exact (below_size (by repeat (first | (with_reducible first | exact HB.out | apply below_alloc | apply pw_below_drewN | apply below_drew1 | refine below_set ?_ GE337.out) | exact HB.out))) : w.heap.size ≤ gb339)); have n5_ := Aside0.mk ((by rw [hg]; exact Nat.ne_of_lt (blk_lt (g := gb337) (o := .cells #[.string t332, .string t333, .bool t334, .bool t335] 45 (0, 0)) (by (with_reducible repeat (first | refine blk_drewN ?_ _ | refine blk_drew ?_ | refine blk_alloc ?_ _)); exact BK337.out)) : gb337 ≠ gb339)); have n6_ := Aside0.mk ((by rw [hg]; exact Nat.ne_of_gt (blk_lt (g := gb337) (o := .cells #[.string t332, .string t333, .bool t334, .bool t335] 45 (0, 0)) (by (with_reducible repeat (first | refine blk_drewN ?_ _ | refine blk_drew ?_ | refine blk_alloc ?_ _)); exact BK337.out)) : gb339 ≠ gb337)); clear BK337; clear HB; have BK337 := n0_; have HB := n1_; have BK339 := n2_; have GW339 := n3_; have GE339 := n4_; have NB337_339 := n5_; have NB339_337 := n6_; clear n0_ n1_ n2_ n3_ n4_ n5_ n6_; clear hb hbox hg; have hnb24 := NB339_337.out; have hnc24 := NB337_339.out; have hcz25_0 : w23.cell? ⟨gb339, 0, none⟩ = some (.string (⟨#[]⟩ : ByteArray)) := (blk_cell BK339.out 0).trans rfl; have hcz25_1 : w23.cell? ⟨gb339, 1, none⟩ = some (.string (⟨#[]⟩ : ByteArray)) := (blk_cell BK339.out 1).trans rfl; have hcz25_2 : w23.cell? ⟨gb339, 2, none⟩ = some (.bool false) := (blk_cell BK339.out 2).trans rfl; have hcz25_3 : w23.cell? ⟨gb339, 3, none⟩ = some (.bool false) := (blk_cell BK339.out 3).trans rfl; have hfz25_0 := blk_frozen BK339.out 0; have hfz25_1 := blk_frozen BK339.out 1; have hfz25_2 := blk_frozen BK339.out 2; have hfz25_3 := blk_frozen BK339.out 3))
                          go_ret
                          exact ⟨by first | rfl | (simp [errW_none, errW_some] <;> rfl) | (simp [*, errW_none, errW_some] <;> rfl), by repeat (first | (with_reducible first | exact HB.out | apply below_alloc | apply pw_below_drewN | apply below_drew1 | refine below_set ?_ GE337.out | refine below_set ?_ GE339.out) | exact HB.out)⟩
                        · rw [if_neg c22] at H
                          have c22b0 : (((rd_T45 l1 x35_3).f0).toList == ([] : List UInt8)) = false := beq_eq_false_iff_ne.mpr c22
                          have c22b1 : (((rd_T45 l1 x35_3).f0).toList != ([] : List UInt8)) = true := bne_iff_ne.mpr c22
                          have H' := Aside0.mk H
                          clear H
                          have p338 : 0 ≤ (x35_3 : Int) := of_decide_eq_true (by first | (with_reducible assumption) | assumption)
                          have q338 : x35_3 < (l1.length : Int) := of_decide_eq_true (by first | (with_reducible assumption) | assumption)
                          obtain ⟨ad338, e338, hx338_0, hx338_1, hx338_2, hx338_3⟩ := at_T45 HR1.out x35_3 p338 q338
                          cases e338
                          replace hx338_0 := (HB.out.cell (World.block_lt_of_cell? w _ hx338_0)).trans hx338_0
                          replace hx338_1 := (HB.out.cell (World.block_lt_of_cell? w _ hx338_1)).trans hx338_1
                          replace hx338_2 := (HB.out.cell (World.block_lt_of_cell? w _ hx338_2)).trans hx338_2
                          replace hx338_3 := (HB.out.cell (World.block_lt_of_cell? w _ hx338_3)).trans hx338_3
                          replace p338 := eq_true p338
                          replace q338 := eq_true q338
                          go_wp2_with (first | ((with_reducible refine gate_dst (N := 8) rfl ?_); refine box_event ?hg (N := 8) ?hd (cs := #[.string (⟨#[]⟩ : ByteArray), .string (⟨#[]⟩ : ByteArray), .bool false, .bool false]) (t := 45) ?hr ?_; (case hd => rfl); (case hg => rfl); (case hr => first | (go_simp; done) | (go_simp; rfl)); intro gb339 hg w26 hbox hb; have n0_ := Aside0.mk (blk_below (g := gb337) (o := .cells #[.string t332, .string t333, .bool t334, .bool t335] 45 (0, 0)) (by (with_reducible repeat (first | refine blk_drewN ?_ _ | refine blk_drew ?_ | refine blk_alloc ?_ _)); exact BK337.out) hb); have n1_ := Aside0.mk (below_step (by repeat (first | (with_reducible first | exact HB.out | apply below_alloc | apply pw_below_drewN | apply below_drew1 | refine below_set ?_ GE337.out) | exact HB.out)) hb); have n2_ := Aside0.mk (hbox); have n3_ := Aside0.mk ((by rw [hg]; exact (below_size (by repeat (first | (with_reducible first | exact HB.out | apply below_alloc | apply pw_below_drewN | apply below_drew1 | refine below_set ?_ GE337.out) | exact HB.out))) : w.heap.size ≤ gb339)); have n4_ := Aside0.mk ((by rw [hg]; exact (below_size (by repeat (first | (with_reducible first | exact HB.out | apply below_alloc | apply pw_below_drewN | apply below_drew1 | refine below_set ?_ GE337.out) | exact HB.out))) : w.heap.size ≤ gb339)); have n5_ := Aside0.mk ((by rw [hg]; exact Nat.ne_of_lt (blk_lt (g := gb337) (o := .cells #[.string t332, .string t333, .bool t334, .bool t335] 45 (0, 0)) (by (with_reducible repeat (first | refine blk_drewN ?_ _ | refine blk_drew ?_ | refine blk_alloc ?_ _)); exact BK337.out)) : gb337 ≠ gb339)); have n6_ := Aside0.mk ((by rw [hg]; exact Nat.ne_of_gt (blk_lt (g := gb337) (o := .cells #[.string t332, .string t333, .bool t334, .bool t335] 45 (0, 0)) (by (with_reducible repeat (first | refine blk_drewN ?_ _ | refine blk_drew ?_ | refine blk_alloc ?_ _)); exact BK337.out)) : gb339 ≠ gb337)); clear BK337; clear HB; have BK337 := n0_; have HB := n1_; have BK339 := n2_; have GW339 := n3_; have GE339 := n4_; have NB337_339 := n5_; have NB339_337 := n6_; clear n0_ n1_ n2_ n3_ n4_ n5_ n6_; clear hb hbox hg; have hnb27 := NB339_337.out; have hnc27 := NB337_339.out; have hcz28_0 : w26.cell? ⟨gb339, 0, none⟩ = some (.string (⟨#[]⟩ : ByteArray)) := (blk_cell BK339.out 0).trans rfl; have hcz28_1 : w26.cell? ⟨gb339, 1, none⟩ = some (.string (⟨#[]⟩ : ByteArray)) := (blk_cell BK339.out 1).trans rfl; have hcz28_2 : w26.cell? ⟨gb339, 2, none⟩ = some (.bool false) := (blk_cell BK339.out 2).trans rfl; have hcz28_3 : w26.cell? ⟨gb339, 3, none⟩ = some (.bool false) := (blk_cell BK339.out 3).trans rfl; have hfz28_0 := blk_frozen BK339.out 0; have hfz28_1 := blk_frozen BK339.out 1; have hfz28_2 := blk_frozen BK339.out 2; have hfz28_3 := blk_frozen BK339.out 3))
                          go_roundg k3
                          case measure => have := HJ2.out; have := HJ9.out; have := HK3.out; omega
                          case rel => exact ⟨(wrap64 (x35_3 + 1)), (by first | rfl | (simp; done) | (simp [*]; done) | (simp [Go.Proofs.YtjmcndbkmknemaaX.isEmpty_ne]; done)), H', ⟨by have := HJ2.out; have := HJ9.out; have := HK3.out; omega⟩, ⟨by (with_reducible repeat (first | refine blk_drewN ?_ _ | refine blk_drew ?_ | refine blk_alloc ?_ _)); refine blk_far ?_ NB337_339.out _; (with_reducible repeat (first | refine blk_drewN ?_ _ | refine blk_drew ?_ | refine blk_alloc ?_ _)); refine blk_far ?_ NB337_339.out _; (with_reducible repeat (first | refine blk_drewN ?_ _ | refine blk_drew ?_ | refine blk_alloc ?_ _)); refine blk_far ?_ NB337_339.out _; (with_reducible repeat (first | refine blk_drewN ?_ _ | refine blk_drew ?_ | refine blk_alloc ?_ _)); refine blk_far ?_ NB337_339.out _; (with_reducible repeat (first | refine blk_drewN ?_ _ | refine blk_drew ?_ | refine blk_alloc ?_ _)); exact BK337.out⟩, ⟨by repeat (first | (with_reducible first | exact HB.out | apply below_alloc | apply pw_below_drewN | apply below_drew1 | refine below_set ?_ GE337.out | refine below_set ?_ GE339.out) | exact HB.out)⟩⟩
                      · rw [if_neg c21] at H
                        exact absurd H (by simp)
                    · rw [if_neg c20] at H
                      exact absurd H (by simp)
                  · rw [if_neg c19] at H
                    have c19b0 : decide (x35_3 < (l1.length : Int)) = false := decide_eq_false c19
                    clear c19
                    replace H := Option.bind_eq_some_iff.mp H
                    obtain ⟨⟨t340, t341, t342, t343, t344⟩, A290, H⟩ := H
                    replace H : (laws_FnTypes.l1 k3 a0 t344 l1 (l1.length : Int) 0 t340 t341 t342 t343) = some r := H
                    have A29 := Aside0.mk A290
                    clear A290
                    have H' := Aside0.mk H
                    clear H
                    go_wp2_with (first | ((with_reducible refine gate_callee (f := 39) rfl ?_); refine goesL_ (some 46) rfl rfl Try.func39 (by kernel_rfl) rfl #[.string a0, .slice A1 l1.length c1] rfl (by (try simp only [List.map_toArray, List.map_cons, List.map_nil]); first | done | rfl | (simp only [List.length_drop, List.length_take]; rfl)) ?_; (with_reducible refine (impl_TypeOf.calls a0 _ _ l1 t340 t341 t342 t343 t344 _ ?side1 ?side2 A29.out).mono ?_); (case side1 => repeat (first | exact (Kd.C_below HR1.out HB.out) | (with_reducible refine Kd.C_alloc ?_ _) | (with_reducible refine Kd.C_drewN ?_ _) | (with_reducible refine Kd.C_drew ?_))); (case side2 => exact HC1.out); rintro e w30 ⟨rfl, hb⟩; refine ⟨_, rfl, ?_⟩; have n0_ := Aside0.mk (blk_below (g := gb337) (o := .cells #[.string t332, .string t333, .bool t334, .bool t335] 45 (0, 0)) (by (with_reducible repeat (first | refine blk_drewN ?_ _ | refine blk_drew ?_ | refine blk_alloc ?_ _)); exact BK337.out) hb); have n1_ := Aside0.mk (below_step (by repeat (first | (with_reducible first | exact HB.out | apply below_alloc | apply pw_below_drewN | apply below_drew1 | refine below_set ?_ GE337.out) | exact HB.out)) hb); clear BK337; clear HB; have BK337 := n0_; have HB := n1_; clear n0_ n1_; (try clear hb); (try clear hb2); (try clear hk); (try clear hi)) | ((with_reducible refine gate_dst (N := 9) rfl ?_); refine box_event ?hg (N := 9) ?hd (cs := #[.string (⟨#[]⟩ : ByteArray), .string (⟨#[]⟩ : ByteArray), .bool false, .bool false]) (t := 45) ?hr ?_; (case hd => rfl); (case hg => rfl); (case hr => first | (go_simp; done) | (go_simp; rfl)); intro gb345 hg w31 hbox hb; have n0_ := Aside0.mk (blk_below (g := gb337) (o := .cells #[.string t332, .string t333, .bool t334, .bool t335] 45 (0, 0)) (by (with_reducible repeat (first | refine blk_drewN ?_ _ | refine blk_drew ?_ | refine blk_alloc ?_ _)); exact BK337.out) hb); have n1_ := Aside0.mk (below_step (by repeat (first | (with_reducible first | exact HB.out | apply below_alloc | apply pw_below_drewN | apply below_drew1 | refine below_set ?_ GE337.out) | exact HB.out)) hb); have n2_ := Aside0.mk (hbox); have n3_ := Aside0.mk ((by rw [hg]; exact (below_size (by repeat (first | (with_reducible first | exact HB.out | apply below_alloc | apply pw_below_drewN | apply below_drew1 | refine below_set ?_ GE337.out) | exact HB.out))) : w.heap.size ≤ gb345)); have n4_ := Aside0.mk ((by rw [hg]; exact (below_size (by repeat (first | (with_reducible first | exact HB.out | apply below_alloc | apply pw_below_drewN | apply below_drew1 | refine below_set ?_ GE337.out) | exact HB.out))) : w.heap.size ≤ gb345)); have n5_ := Aside0.mk ((by rw [hg]; exact Nat.ne_of_lt (blk_lt (g := gb337) (o := .cells #[.string t332, .string t333, .bool t334, .bool t335] 45 (0, 0)) (by (with_reducible repeat (first | refine blk_drewN ?_ _ | refine blk_drew ?_ | refine blk_alloc ?_ _)); exact BK337.out)) : gb337 ≠ gb345)); have n6_ := Aside0.mk ((by rw [hg]; exact Nat.ne_of_gt (blk_lt (g := gb337) (o := .cells #[.string t332, .string t333, .bool t334, .bool t335] 45 (0, 0)) (by (with_reducible repeat (first | refine blk_drewN ?_ _ | refine blk_drew ?_ | refine blk_alloc ?_ _)); exact BK337.out)) : gb345 ≠ gb337)); clear BK337; clear HB; have BK337 := n0_; have HB := n1_; have BK345 := n2_; have GW345 := n3_; have GE345 := n4_; have NB337_345 := n5_; have NB345_337 := n6_; clear n0_ n1_ n2_ n3_ n4_ n5_ n6_; clear hb hbox hg; have hnb32 := NB345_337.out; have hnc32 := NB337_345.out; have hcz33_0 : w31.cell? ⟨gb345, 0, none⟩ = some (.string (⟨#[]⟩ : ByteArray)) := (blk_cell BK345.out 0).trans rfl; have hcz33_1 : w31.cell? ⟨gb345, 1, none⟩ = some (.string (⟨#[]⟩ : ByteArray)) := (blk_cell BK345.out 1).trans rfl; have hcz33_2 : w31.cell? ⟨gb345, 2, none⟩ = some (.bool false) := (blk_cell BK345.out 2).trans rfl; have hcz33_3 : w31.cell? ⟨gb345, 3, none⟩ = some (.bool false) := (blk_cell BK345.out 3).trans rfl; have hfz33_0 := blk_frozen BK345.out 0; have hfz33_1 := blk_frozen BK345.out 1; have hfz33_2 := blk_frozen BK345.out 2; have hfz33_3 := blk_frozen BK345.out 3))
                    go_loopg [51] k3 (fun kq v51 w' => ∃ (x51_4 : Int), v51 = .int .i64 x51_4 ∧ Aside0 (laws_FnTypes.l1 kq a0 t344 l1 (l1.length : Int) x51_4 t340 t341 t342 t343 = some r) ∧ Aside0 (kq ≤ k3) ∧ Aside0 (w'.heap[gb337]? = some (.cells #[.string t332, .string t333, .bool t334, .bool t335] 45 (0, 0))) ∧ Aside0 (w'.heap[gb345]? = some (.cells #[.string t340, .string t341, .bool t342, .bool t343] 45 (0, 0))) ∧ Aside0 (Below w.heap.size w w'))
                    case atStart => exact ⟨(0), (by first | rfl | (simp; done) | (simp [*]; done) | (simp [Go.Proofs.YtjmcndbkmknemaaX.isEmpty_ne]; done)), H', ⟨Nat.le_refl _⟩, ⟨by (with_reducible repeat (first | refine blk_drewN ?_ _ | refine blk_drew ?_ | refine blk_alloc ?_ _)); refine blk_far ?_ NB337_345.out _; (with_reducible repeat (first | refine blk_drewN ?_ _ | refine blk_drew ?_ | refine blk_alloc ?_ _)); refine blk_far ?_ NB337_345.out _; (with_reducible repeat (first | refine blk_drewN ?_ _ | refine blk_drew ?_ | refine blk_alloc ?_ _)); refine blk_far ?_ NB337_345.out _; (with_reducible repeat (first | refine blk_drewN ?_ _ | refine blk_drew ?_ | refine blk_alloc ?_ _)); refine blk_far ?_ NB337_345.out _; (with_reducible repeat (first | refine blk_drewN ?_ _ | refine blk_drew ?_ | refine blk_alloc ?_ _)); exact BK337.out⟩, ⟨by (with_reducible repeat (first | refine blk_drewN ?_ _ | refine blk_drew ?_ | refine blk_alloc ?_ _)); refine blk_put (cs := #[.string t340, .string t341, .bool t342, .bool false]) ?_ 3 _ rfl; (with_reducible repeat (first | refine blk_drewN ?_ _ | refine blk_drew ?_ | refine blk_alloc ?_ _)); refine blk_put (cs := #[.string t340, .string t341, .bool false, .bool false]) ?_ 2 _ rfl; (with_reducible repeat (first | refine blk_drewN ?_ _ | refine blk_drew ?_ | refine blk_alloc ?_ _)); refine blk_put (cs := #[.string t340, .string (⟨#[]⟩ : ByteArray), .bool false, .bool false]) ?_ 1 _ rfl; (with_reducible repeat (first | refine blk_drewN ?_ _ | refine blk_drew ?_ | refine blk_alloc ?_ _)); refine blk_put (cs := #[.string (⟨#[]⟩ : ByteArray), .string (⟨#[]⟩ : ByteArray), .bool false, .bool false]) ?_ 0 _ rfl; (with_reducible repeat (first | refine blk_drewN ?_ _ | refine blk_drew ?_ | refine blk_alloc ?_ _)); exact BK345.out⟩, ⟨by repeat (first | (with_reducible first | exact HB.out | apply below_alloc | apply pw_below_drewN | apply below_drew1 | refine below_set ?_ GE337.out | refine below_set ?_ GE345.out) | exact HB.out)⟩⟩
                    case round =>
                      clear H'
                      try clear c1
                      try clear c2
                      try clear p2
                      try clear c3
                      try clear p3
                      try clear q3
                      try clear hx3
                      try clear c4
                      try clear c4b0
                      try clear c4b1
                      try clear p6
                      try clear c7
                      try clear c14
                      try clear c16
                      try clear c18
                      try clear c19
                      try clear c19b0
                      try clear c20
                      try clear c20b0
                      try clear c21
                      try clear c21b0
                      try clear c22
                      try clear c22b0
                      try clear c22b1
                      try clear c24
                      try clear c27
                      try clear c29
                      try clear c32
                      try clear p33
                      try clear q33
                      try clear hx33
                      try clear hcz15_0
                      try clear hcz15_1
                      try clear hcz15_2
                      try clear hcz15_3
                      try clear hcz17_0
                      try clear hcz17_1
                      try clear hcz17_2
                      try clear hcz17_3
                      try clear hcz25_0
                      try clear hcz25_1
                      try clear hcz25_2
                      try clear hcz25_3
                      try clear hcz28_0
                      try clear hcz28_1
                      try clear hcz28_2
                      try clear hcz28_3
                      try clear hcz33_0
                      try clear hcz33_1
                      try clear hcz33_2
                      try clear hcz33_3
                      try clear hfz15_0
                      try clear hfz15_1
                      try clear hfz15_2
                      try clear hfz15_3
                      try clear hfz17_0
                      try clear hfz17_1
                      try clear hfz17_2
                      try clear hfz17_3
                      try clear hfz25_0
                      try clear hfz25_1
                      try clear hfz25_2
                      try clear hfz25_3
                      try clear hfz28_0
                      try clear hfz28_1
                      try clear hfz28_2
                      try clear hfz28_3
                      try clear hfz33_0
                      try clear hfz33_1
                      try clear hfz33_2
                      try clear hfz33_3
                      try clear hx338_0
                      try clear hx338_1
                      try clear hx338_2
                      try clear hx338_3
                      try clear p2
                      try clear p338
                      try clear q338
                      obtain ⟨x51_4, rfl, HA, HK4, BK337, BK345, HB⟩ := hrel
                      cases gk with
                      | zero => exact absurd HA.out (by simp [laws_FnTypes.l1])
                      | succ k4 =>
                        have H := HA.out
                        clear HA
                        simp only [laws_FnTypes.l1] at H
                        by_cases c34 : x51_4 < (l1.length : Int)
                        · rw [if_pos c34] at H
                          have c34b0 : decide (x51_4 < (l1.length : Int)) = true := decide_eq_true c34
                          clear c34
                          by_cases c35 : 0 ≤ x51_4
                          · rw [if_pos c35] at H
                            have c35b0 : decide (0 ≤ x51_4) = true := decide_eq_true c35
                            clear c35
                            by_cases c36 : x51_4 < (l1.length : Int)
                            · rw [if_pos c36] at H
                              have c36b0 : decide (x51_4 < (l1.length : Int)) = true := decide_eq_true c36
                              clear c36
                              by_cases c37 : ((rd_T45 l1 x51_4).f0).toList = a0.toList
                              · rw [if_pos c37] at H
                                have c37b0 : (((rd_T45 l1 x51_4).f0).toList == a0.toList) = true := beq_iff_eq.mpr c37
                                have c37b1 : (((rd_T45 l1 x51_4).f0).toList != a0.toList) = false := bne_eq_false_iff_eq.mpr c37
                                clear c37
                                by_cases c38 : t344 = true
                                · subst c38
                                  have H1 : (some (t340.toList == (((rd_T45 l1 x51_4).f0).toList) && (t341.toList == (((rd_T45 l1 x51_4).f1).toList) && (t342 == ((rd_T45 l1 x51_4).f2) && (t343 == ((rd_T45 l1 x51_4).f3)))))) = some r := by rw [if_pos rfl] at H; exact H
                                  clear H
                                  have H := H1
                                  clear H1
                                  obtain rfl := Option.some.inj H
                                  have p346 : 0 ≤ (x51_4 : Int) := of_decide_eq_true (by first | (with_reducible assumption) | assumption)
                                  have q346 : x51_4 < (l1.length : Int) := of_decide_eq_true (by first | (with_reducible assumption) | assumption)
                                  obtain ⟨ad346, e346, hx346_0, hx346_1, hx346_2, hx346_3⟩ := at_T45 HR1.out x51_4 p346 q346
                                  cases e346
                                  replace hx346_0 := (HB.out.cell (World.block_lt_of_cell? w _ hx346_0)).trans hx346_0
                                  replace hx346_1 := (HB.out.cell (World.block_lt_of_cell? w _ hx346_1)).trans hx346_1
                                  replace hx346_2 := (HB.out.cell (World.block_lt_of_cell? w _ hx346_2)).trans hx346_2
                                  replace hx346_3 := (HB.out.cell (World.block_lt_of_cell? w _ hx346_3)).trans hx346_3
                                  replace p346 := eq_true p346
                                  replace q346 := eq_true q346
                                  go_wp2_with (first | ((with_reducible refine gate_dst (N := 12) rfl ?_); refine box_event ?hg (N := 12) ?hd (cs := #[.string (⟨#[]⟩ : ByteArray), .string (⟨#[]⟩ : ByteArray), .bool false, .bool false]) (t := 45) ?hr ?_; (case hd => rfl); (case hg => rfl); (case hr => first | (go_simp; done) | (go_simp; rfl)); intro gb347 hg w39 hbox hb; have n0_ := Aside0.mk (blk_below (g := gb337) (o := .cells #[.string t332, .string t333, .bool t334, .bool t335] 45 (0, 0)) (by (with_reducible repeat (first | refine blk_drewN ?_ _ | refine blk_drew ?_ | refine blk_alloc ?_ _)); exact BK337.out) hb); have n1_ := Aside0.mk (blk_below (g := gb345) (o := .cells #[.string t340, .string t341, .bool t342, .bool t343] 45 (0, 0)) (by (with_reducible repeat (first | refine blk_drewN ?_ _ | refine blk_drew ?_ | refine blk_alloc ?_ _)); exact BK345.out) hb); have n2_ := Aside0.mk (below_step (by repeat (first | (with_reducible first | exact HB.out | apply below_alloc | apply pw_below_drewN | apply below_drew1 | refine below_set ?_ GE337.out | refine below_set ?_ GE345.out) | exact HB.out)) hb); have n3_ := Aside0.mk (hbox); have n4_ := Aside0.mk ((by rw [hg]; exact (below_size (by repeat (first | (with_reducible first | exact HB.out | apply below_alloc | apply pw_below_drewN | apply below_drew1 | refine below_set ?_ GE337.out | refine below_set ?_ GE345.out) | exact HB.out))) : w.heap.size ≤ gb347)); have n5_ := Aside0.mk ((by rw [hg]; exact (below_size (by repeat (first | (with_reducible first | exact HB.out | apply below_alloc | apply pw_below_drewN | apply below_drew1 | refine below_set ?_ GE337.out | refine below_set ?_ GE345.out) | exact HB.out))) : w.heap.size ≤ gb347)); have n6_ := Aside0.mk ((by rw [hg]; exact Nat.ne_of_lt (blk_lt (g := gb337) (o := .cells #[.string t332, .string t333, .bool t334, .bool t335] 45 (0, 0)) (by (with_reducible repeat (first | refine blk_drewN ?_ _ | refine blk_drew ?_ | refine blk_alloc ?_ _)); exact BK337.out)) : gb337 ≠ gb347)); have n7_ := Aside0.mk ((by rw [hg]; exact Nat.ne_of_gt (blk_lt (g := gb337) (o := .cells #[.string t332, .string t333, .bool t334, .bool t335] 45 (0, 0)) (by (with_reducible repeat (first | refine blk_drewN ?_ _ | refine blk_drew ?_ | refine blk_alloc ?_ _)); exact BK337.out)) : gb347 ≠ gb337)); have n8_ := Aside0.mk ((by rw [hg]; exact Nat.ne_of_lt (blk_lt (g := gb345) (o := .cells #[.string t340, .string t341, .bool t342, .bool t343] 45 (0, 0)) (by (with_reducible repeat (first | refine blk_drewN ?_ _ | refine blk_drew ?_ | refine blk_alloc ?_ _)); exact BK345.out)) : gb345 ≠ gb347)); have n9_ := Aside0.mk ((by rw [hg]; exact Nat.ne_of_gt (blk_lt (g := gb345) (o := .cells #[.string t340, .string t341, .bool t342, .bool t343] 45 (0, 0)) (by (with_reducible repeat (first | refine blk_drewN ?_ _ | refine blk_drew ?_ | refine blk_alloc ?_ _)); exact BK345.out)) : gb347 ≠ gb345)); clear BK337; clear BK345; clear HB; have BK337 := n0_; have BK345 := n1_; have HB := n2_; have BK347 := n3_; have GW347 := n4_; have GE347 := n5_; have NB337_347 := n6_; have NB347_337 := n7_; have NB345_347 := n8_; have NB347_345 := n9_; clear n0_ n1_ n2_ n3_ n4_ n5_ n6_ n7_ n8_ n9_; clear hb hbox hg; have hnb40 := NB347_337.out; have hnc40 := NB337_347.out; have hnb41 := NB347_345.out; have hnc41 := NB345_347.out; have hcz42_0 : w39.cell? ⟨gb347, 0, none⟩ = some (.string (⟨#[]⟩ : ByteArray)) := (blk_cell BK347.out 0).trans rfl; have hcz42_1 : w39.cell? ⟨gb347, 1, none⟩ = some (.string (⟨#[]⟩ : ByteArray)) := (blk_cell BK347.out 1).trans rfl; have hcz42_2 : w39.cell? ⟨gb347, 2, none⟩ = some (.bool false) := (blk_cell BK347.out 2).trans rfl; have hcz42_3 : w39.cell? ⟨gb347, 3, none⟩ = some (.bool false) := (blk_cell BK347.out 3).trans rfl; have hfz42_0 := blk_frozen BK347.out 0; have hfz42_1 := blk_frozen BK347.out 1; have hfz42_2 := blk_frozen BK347.out 2; have hfz42_3 := blk_frozen BK347.out 3; have hnb43 := NB345_337.out; have hnc43 := NB337_345.out; have hcz44_0 : w39.cell? ⟨gb345, 0, none⟩ = some (.string t340) := (blk_cell BK345.out 0).trans rfl; have hcz44_1 : w39.cell? ⟨gb345, 1, none⟩ = some (.string t341) := (blk_cell BK345.out 1).trans rfl; have hcz44_2 : w39.cell? ⟨gb345, 2, none⟩ = some (.bool t342) := (blk_cell BK345.out 2).trans rfl; have hcz44_3 : w39.cell? ⟨gb345, 3, none⟩ = some (.bool t343) := (blk_cell BK345.out 3).trans rfl; have hfz44_0 := blk_frozen BK345.out 0; have hfz44_1 := blk_frozen BK345.out 1; have hfz44_2 := blk_frozen BK345.out 2; have hfz44_3 := blk_frozen BK345.out 3))
                                  go_ret
                                  exact ⟨by first | rfl | (simp [errW_none, errW_some] <;> rfl) | (simp [*, errW_none, errW_some] <;> rfl), by repeat (first | (with_reducible first | exact HB.out | apply below_alloc | apply pw_below_drewN | apply below_drew1 | refine below_set ?_ GE337.out | refine below_set ?_ GE345.out | refine below_set ?_ GE347.out) | exact HB.out)⟩
                                · replace c38 := Bool.eq_false_iff.mpr c38
                                  subst c38
                                  have H1 : (some false) = some r := by rw [if_neg (show ¬ (false = true) by decide)] at H; exact H
                                  clear H
                                  have H := H1
                                  clear H1
                                  obtain rfl := Option.some.inj H
                                  have p346 : 0 ≤ (x51_4 : Int) := of_decide_eq_true (by first | (with_reducible assumption) | assumption)
                                  have q346 : x51_4 < (l1.length : Int) := of_decide_eq_true (by first | (with_reducible assumption) | assumption)
                                  obtain ⟨ad346, e346, hx346_0, hx346_1, hx346_2, hx346_3⟩ := at_T45 HR1.out x51_4 p346 q346
                                  cases e346
                                  replace hx346_0 := (HB.out.cell (World.block_lt_of_cell? w _ hx346_0)).trans hx346_0
                                  replace hx346_1 := (HB.out.cell (World.block_lt_of_cell? w _ hx346_1)).trans hx346_1
                                  replace hx346_2 := (HB.out.cell (World.block_lt_of_cell? w _ hx346_2)).trans hx346_2
                                  replace hx346_3 := (HB.out.cell (World.block_lt_of_cell? w _ hx346_3)).trans hx346_3
                                  replace p346 := eq_true p346
                                  replace q346 := eq_true q346
                                  go_wp2_with (first | ((with_reducible refine gate_dst (N := 12) rfl ?_); refine box_event ?hg (N := 12) ?hd (cs := #[.string (⟨#[]⟩ : ByteArray), .string (⟨#[]⟩ : ByteArray), .bool false, .bool false]) (t := 45) ?hr ?_; (case hd => rfl); (case hg => rfl); (case hr => first | (go_simp; done) | (go_simp; rfl)); intro gb347 hg w45 hbox hb; have n0_ := Aside0.mk (blk_below (g := gb337) (o := .cells #[.string t332, .string t333, .bool t334, .bool t335] 45 (0, 0)) (by (with_reducible repeat (first | refine blk_drewN ?_ _ | refine blk_drew ?_ | refine blk_alloc ?_ _)); exact BK337.out) hb); have n1_ := Aside0.mk (blk_below (g := gb345) (o := .cells #[.string t340, .string t341, .bool t342, .bool t343] 45 (0, 0)) (by (with_reducible repeat (first | refine blk_drewN ?_ _ | refine blk_drew ?_ | refine blk_alloc ?_ _)); exact BK345.out) hb); have n2_ := Aside0.mk (below_step (by repeat (first | (with_reducible first | exact HB.out | apply below_alloc | apply pw_below_drewN | apply below_drew1 | refine below_set ?_ GE337.out | refine below_set ?_ GE345.out) | exact HB.out)) hb); have n3_ := Aside0.mk (hbox); have n4_ := Aside0.mk ((by rw [hg]; exact (below_size (by repeat (first | (with_reducible first | exact HB.out | apply below_alloc | apply pw_below_drewN | apply below_drew1 | refine below_set ?_ GE337.out | refine below_set ?_ GE345.out) | exact HB.out))) : w.heap.size ≤ gb347)); have n5_ := Aside0.mk ((by rw [hg]; exact (below_size (by repeat (first | (with_reducible first | exact HB.out | apply below_alloc | apply pw_below_drewN | apply below_drew1 | refine below_set ?_ GE337.out | refine below_set ?_ GE345.out) | exact HB.out))) : w.heap.size ≤ gb347)); have n6_ := Aside0.mk ((by rw [hg]; exact Nat.ne_of_lt (blk_lt (g := gb337) (o := .cells #[.string t332, .string t333, .bool t334, .bool t335] 45 (0, 0)) (by (with_reducible repeat (first | refine blk_drewN ?_ _ | refine blk_drew ?_ | refine blk_alloc ?_ _)); exact BK337.out)) : gb337 ≠ gb347)); have n7_ := Aside0.mk ((by rw [hg]; exact Nat.ne_of_gt (blk_lt (g := gb337) (o := .cells #[.string t332, .string t333, .bool t334, .bool t335] 45 (0, 0)) (by (with_reducible repeat (first | refine blk_drewN ?_ _ | refine blk_drew ?_ | refine blk_alloc ?_ _)); exact BK337.out)) : gb347 ≠ gb337)); have n8_ := Aside0.mk ((by rw [hg]; exact Nat.ne_of_lt (blk_lt (g := gb345) (o := .cells #[.string t340, .string t341, .bool t342, .bool t343] 45 (0, 0)) (by (with_reducible repeat (first | refine blk_drewN ?_ _ | refine blk_drew ?_ | refine blk_alloc ?_ _)); exact BK345.out)) : gb345 ≠ gb347)); have n9_ := Aside0.mk ((by rw [hg]; exact Nat.ne_of_gt (blk_lt (g := gb345) (o := .cells #[.string t340, .string t341, .bool t342, .bool t343] 45 (0, 0)) (by (with_reducible repeat (first | refine blk_drewN ?_ _ | refine blk_drew ?_ | refine blk_alloc ?_ _)); exact BK345.out)) : gb347 ≠ gb345)); clear BK337; clear BK345; clear HB; have BK337 := n0_; have BK345 := n1_; have HB := n2_; have BK347 := n3_; have GW347 := n4_; have GE347 := n5_; have NB337_347 := n6_; have NB347_337 := n7_; have NB345_347 := n8_; have NB347_345 := n9_; clear n0_ n1_ n2_ n3_ n4_ n5_ n6_ n7_ n8_ n9_; clear hb hbox hg; have hnb46 := NB347_337.out; have hnc46 := NB337_347.out; have hnb47 := NB347_345.out; have hnc47 := NB345_347.out; have hcz48_0 : w45.cell? ⟨gb347, 0, none⟩ = some (.string (⟨#[]⟩ : ByteArray)) := (blk_cell BK347.out 0).trans rfl; have hcz48_1 : w45.cell? ⟨gb347, 1, none⟩ = some (.string (⟨#[]⟩ : ByteArray)) := (blk_cell BK347.out 1).trans rfl; have hcz48_2 : w45.cell? ⟨gb347, 2, none⟩ = some (.bool false) := (blk_cell BK347.out 2).trans rfl; have hcz48_3 : w45.cell? ⟨gb347, 3, none⟩ = some (.bool false) := (blk_cell BK347.out 3).trans rfl; have hfz48_0 := blk_frozen BK347.out 0; have hfz48_1 := blk_frozen BK347.out 1; have hfz48_2 := blk_frozen BK347.out 2; have hfz48_3 := blk_frozen BK347.out 3))
                                  go_ret
                                  exact ⟨by first | rfl | (simp [errW_none, errW_some] <;> rfl) | (simp [*, errW_none, errW_some] <;> rfl), by repeat (first | (with_reducible first | exact HB.out | apply below_alloc | apply pw_below_drewN | apply below_drew1 | refine below_set ?_ GE337.out | refine below_set ?_ GE345.out | refine below_set ?_ GE347.out) | exact HB.out)⟩
                              · rw [if_neg c37] at H
                                have c37b0 : (((rd_T45 l1 x51_4).f0).toList == a0.toList) = false := beq_eq_false_iff_ne.mpr c37
                                have c37b1 : (((rd_T45 l1 x51_4).f0).toList != a0.toList) = true := bne_iff_ne.mpr c37
                                by_cases c49 : ((rd_T45 l1 x51_4).f1).toList = a0.toList
                                · rw [if_pos c49] at H
                                  have c49b0 : (((rd_T45 l1 x51_4).f1).toList == a0.toList) = true := beq_iff_eq.mpr c49
                                  have c49b1 : (((rd_T45 l1 x51_4).f1).toList != a0.toList) = false := bne_eq_false_iff_eq.mpr c49
                                  clear c49
                                  by_cases c50 : a0.toList = ([] : List UInt8)
                                  · rw [if_pos c50] at H
                                    have c50b0 : (a0.toList == ([] : List UInt8)) = true := beq_iff_eq.mpr c50
                                    have c50b1 : (a0.toList != ([] : List UInt8)) = false := bne_eq_false_iff_eq.mpr c50
                                    clear c50
                                    have H' := Aside0.mk H
                                    clear H
                                    have p346 : 0 ≤ (x51_4 : Int) := of_decide_eq_true (by first | (with_reducible assumption) | assumption)
                                    have q346 : x51_4 < (l1.length : Int) := of_decide_eq_true (by first | (with_reducible assumption) | assumption)
                                    obtain ⟨ad346, e346, hx346_0, hx346_1, hx346_2, hx346_3⟩ := at_T45 HR1.out x51_4 p346 q346
                                    cases e346
                                    replace hx346_0 := (HB.out.cell (World.block_lt_of_cell? w _ hx346_0)).trans hx346_0
                                    replace hx346_1 := (HB.out.cell (World.block_lt_of_cell? w _ hx346_1)).trans hx346_1
                                    replace hx346_2 := (HB.out.cell (World.block_lt_of_cell? w _ hx346_2)).trans hx346_2
                                    replace hx346_3 := (HB.out.cell (World.block_lt_of_cell? w _ hx346_3)).trans hx346_3
                                    replace p346 := eq_true p346
                                    replace q346 := eq_true q346
                                    go_wp2_with (first | ((with_reducible refine gate_dst (N := 12) rfl ?_); refine box_event ?hg (N := 12) ?hd (cs := #[.string (⟨#[]⟩ : ByteArray), .string (⟨#[]⟩ : ByteArray), .bool false, .bool false]) (t := 45) ?hr ?_; (case hd => rfl); (case hg => rfl); (case hr => first | (go_simp; done) | (go_simp; rfl)); intro gb347 hg w51 hbox hb; have n0_ := Aside0.mk (blk_below (g := gb337) (o := .cells #[.string t332, .string t333, .bool t334, .bool t335] 45 (0, 0)) (by (with_reducible repeat (first | refine blk_drewN ?_ _ | refine blk_drew ?_ | refine blk_alloc ?_ _)); exact BK337.out) hb); have n1_ := Aside0.mk (blk_below (g := gb345) (o := .cells #[.string t340, .string t341, .bool t342, .bool t343] 45 (0, 0)) (by (with_reducible repeat (first | refine blk_drewN ?_ _ | refine blk_drew ?_ | refine blk_alloc ?_ _)); exact BK345.out) hb); have n2_ := Aside0.mk (below_step (by repeat (first | (with_reducible first | exact HB.out | apply below_alloc | apply pw_below_drewN | apply below_drew1 | refine below_set ?_ GE337.out | refine below_set ?_ GE345.out) | exact HB.out)) hb); have n3_ := Aside0.mk (hbox); have n4_ := Aside0.mk ((by rw [hg]; exact (below_size (by repeat (first | (with_reducible first | exact HB.out | apply below_alloc | apply pw_below_drewN | apply below_drew1 | refine below_set ?_ GE337.out | refine below_set ?_ GE345.out) | exact HB.out))) : w.heap.size ≤ gb347)); have n5_ := Aside0.mk ((by rw [hg]; exact (below_size (by repeat (first | (with_reducible first | exact HB.out | apply below_alloc | apply pw_below_drewN | apply below_drew1 | refine below_set ?_ GE337.out | refine below_set ?_ GE345.out) | exact HB.out))) : w.heap.size ≤ gb347)); have n6_ := Aside0.mk ((by rw [hg]; exact Nat.ne_of_lt (blk_lt (g := gb337) (o := .cells #[.string t332, .string t333, .bool t334, .bool t335] 45 (0, 0)) (by (with_reducible repeat (first | refine blk_drewN ?_ _ | refine blk_drew ?_ | refine blk_alloc ?_ _)); exact BK337.out)) : gb337 ≠ gb347)); have n7_ := Aside0.mk ((by rw [hg]; exact Nat.ne_of_gt (blk_lt (g := gb337) (o := .cells #[.string t332, .string t333, .bool t334, .bool t335] 45 (0, 0)) (by (with_reducible repeat (first | refine blk_drewN ?_ _ | refine blk_drew ?_ | refine blk_alloc ?_ _)); exact BK337.out)) : gb347 ≠ gb337)); have n8_ := Aside0.mk ((by rw [hg]; exact Nat.ne_of_lt (blk_lt (g := gb345) (o := .cells #[.string t340, .string t341, .bool t342, .bool t343] 45 (0, 0)) (by (with_reducible repeat (first | refine blk_drewN ?_ _ | refine blk_drew ?_ | refine blk_alloc ?_ _)); exact BK345.out)) : gb345 ≠ gb347)); have n9_ := Aside0.mk ((by rw [hg]; exact Nat.ne_of_gt (blk_lt (g := gb345) (o := .cells #[.string t340, .string t341, .bool t342, .bool t343] 45 (0, 0)) (by (with_reducible repeat (first | refine blk_drewN ?_ _ | refine blk_drew ?_ | refine blk_alloc ?_ _)); exact BK345.out)) : gb347 ≠ gb345)); clear BK337; clear BK345; clear HB; have BK337 := n0_; have BK345 := n1_; have HB := n2_; have BK347 := n3_; have GW347 := n4_; have GE347 := n5_; have NB337_347 := n6_; have NB347_337 := n7_; have NB345_347 := n8_; have NB347_345 := n9_; clear n0_ n1_ n2_ n3_ n4_ n5_ n6_ n7_ n8_ n9_; clear hb hbox hg; have hnb52 := NB347_337.out; have hnc52 := NB337_347.out; have hnb53 := NB347_345.out; have hnc53 := NB345_347.out; have hcz54_0 : w51.cell? ⟨gb347, 0, none⟩ = some (.string (⟨#[]⟩ : ByteArray)) := (blk_cell BK347.out 0).trans rfl; have hcz54_1 : w51.cell? ⟨gb347, 1, none⟩ = some (.string (⟨#[]⟩ : ByteArray)) := (blk_cell BK347.out 1).trans rfl; have hcz54_2 : w51.cell? ⟨gb347, 2, none⟩ = some (.bool false) := (blk_cell BK347.out 2).trans rfl; have hcz54_3 : w51.cell? ⟨gb347, 3, none⟩ = some (.bool false) := (blk_cell BK347.out 3).trans rfl; have hfz54_0 := blk_frozen BK347.out 0; have hfz54_1 := blk_frozen BK347.out 1; have hfz54_2 := blk_frozen BK347.out 2; have hfz54_3 := blk_frozen BK347.out 3))
                                    go_roundg k4
                                    case measure => have := HJ2.out; have := HJ9.out; have := HK3.out; have := HK4.out; omega
                                    case rel => exact ⟨(wrap64 (x51_4 + 1)), (by first | rfl | (simp; done) | (simp [*]; done) | (simp [Go.Proofs.YtjmcndbkmknemaaX.isEmpty_ne]; done)), H', ⟨by have := HJ2.out; have := HJ9.out; have := HK3.out; have := HK4.out; omega⟩, ⟨by (with_reducible repeat (first | refine blk_drewN ?_ _ | refine blk_drew ?_ | refine blk_alloc ?_ _)); refine blk_far ?_ NB337_347.out _; (with_reducible repeat (first | refine blk_drewN ?_ _ | refine blk_drew ?_ | refine blk_alloc ?_ _)); refine blk_far ?_ NB337_347.out _; (with_reducible repeat (first | refine blk_drewN ?_ _ | refine blk_drew ?_ | refine blk_alloc ?_ _)); refine blk_far ?_ NB337_347.out _; (with_reducible repeat (first | refine blk_drewN ?_ _ | refine blk_drew ?_ | refine blk_alloc ?_ _)); refine blk_far ?_ NB337_347.out _; (with_reducible repeat (first | refine blk_drewN ?_ _ | refine blk_drew ?_ | refine blk_alloc ?_ _)); exact BK337.out⟩, ⟨by (with_reducible repeat (first | refine blk_drewN ?_ _ | refine blk_drew ?_ | refine blk_alloc ?_ _)); refine blk_far ?_ NB345_347.out _; (with_reducible repeat (first | refine blk_drewN ?_ _ | refine blk_drew ?_ | refine blk_alloc ?_ _)); refine blk_far ?_ NB345_347.out _; (with_reducible repeat (first | refine blk_drewN ?_ _ | refine blk_drew ?_ | refine blk_alloc ?_ _)); refine blk_far ?_ NB345_347.out _; (with_reducible repeat (first | refine blk_drewN ?_ _ | refine blk_drew ?_ | refine blk_alloc ?_ _)); refine blk_far ?_ NB345_347.out _; (with_reducible repeat (first | refine blk_drewN ?_ _ | refine blk_drew ?_ | refine blk_alloc ?_ _)); exact BK345.out⟩, ⟨by repeat (first | (with_reducible first | exact HB.out | apply below_alloc | apply pw_below_drewN | apply below_drew1 | refine below_set ?_ GE337.out | refine below_set ?_ GE345.out | refine below_set ?_ GE347.out) | exact HB.out)⟩⟩
                                  · rw [if_neg c50] at H
                                    have c50b0 : (a0.toList == ([] : List UInt8)) = false := beq_eq_false_iff_ne.mpr c50
                                    have c50b1 : (a0.toList != ([] : List UInt8)) = true := bne_iff_ne.mpr c50
                                    by_cases c55 : t344 = true
                                    · subst c55
                                      have H1 : (some (t340.toList == (((rd_T45 l1 x51_4).f0).toList) && (t341.toList == (((rd_T45 l1 x51_4).f1).toList) && (t342 == ((rd_T45 l1 x51_4).f2) && (t343 == ((rd_T45 l1 x51_4).f3)))))) = some r := by rw [if_pos rfl] at H; exact H
                                      clear H
                                      have H := H1
                                      clear H1
                                      obtain rfl := Option.some.inj H
                                      have p346 : 0 ≤ (x51_4 : Int) := of_decide_eq_true (by first | (with_reducible assumption) | assumption)
                                      have q346 : x51_4 < (l1.length : Int) := of_decide_eq_true (by first | (with_reducible assumption) | assumption)
                                      obtain ⟨ad346, e346, hx346_0, hx346_1, hx346_2, hx346_3⟩ := at_T45 HR1.out x51_4 p346 q346
                                      cases e346
                                      replace hx346_0 := (HB.out.cell (World.block_lt_of_cell? w _ hx346_0)).trans hx346_0
                                      replace hx346_1 := (HB.out.cell (World.block_lt_of_cell? w _ hx346_1)).trans hx346_1
                                      replace hx346_2 := (HB.out.cell (World.block_lt_of_cell? w _ hx346_2)).trans hx346_2
                                      replace hx346_3 := (HB.out.cell (World.block_lt_of_cell? w _ hx346_3)).trans hx346_3
                                      replace p346 := eq_true p346
                                      replace q346 := eq_true q346
                                      go_wp2_with (first | ((with_reducible refine gate_dst (N := 12) rfl ?_); refine box_event ?hg (N := 12) ?hd (cs := #[.string (⟨#[]⟩ : ByteArray), .string (⟨#[]⟩ : ByteArray), .bool false, .bool false]) (t := 45) ?hr ?_; (case hd => rfl); (case hg => rfl); (case hr => first | (go_simp; done) | (go_simp; rfl)); intro gb347 hg w56 hbox hb; have n0_ := Aside0.mk (blk_below (g := gb337) (o := .cells #[.string t332, .string t333, .bool t334, .bool t335] 45 (0, 0)) (by (with_reducible repeat (first | refine blk_drewN ?_ _ | refine blk_drew ?_ | refine blk_alloc ?_ _)); exact BK337.out) hb); have n1_ := Aside0.mk (blk_below (g := gb345) (o := .cells #[.string t340, .string t341, .bool t342, .bool t343] 45 (0, 0)) (by (with_reducible repeat (first | refine blk_drewN ?_ _ | refine blk_drew ?_ | refine blk_alloc ?_ _)); exact BK345.out) hb); have n2_ := Aside0.mk (below_step (by repeat (first | (with_reducible first | exact HB.out | apply below_alloc | apply pw_below_drewN | apply below_drew1 | refine below_set ?_ GE337.out | refine below_set ?_ GE345.out) | exact HB.out)) hb); have n3_ := Aside0.mk (hbox); have n4_ := Aside0.mk ((by rw [hg]; exact (below_size (by repeat (first | (with_reducible first | exact HB.out | apply below_alloc | apply pw_below_drewN | apply below_drew1 | refine below_set ?_ GE337.out | refine below_set ?_ GE345.out) | exact HB.out))) : w.heap.size ≤ gb347)); have n5_ := Aside0.mk ((by rw [hg]; exact (below_size (by repeat (first | (with_reducible first | exact HB.out | apply below_alloc | apply pw_below_drewN | apply below_drew1 | refine below_set ?_ GE337.out | refine below_set ?_ GE345.out) | exact HB.out))) : w.heap.size ≤ gb347)); have n6_ := Aside0.mk ((by rw [hg]; exact Nat.ne_of_lt (blk_lt (g := gb337) (o := .cells #[.string t332, .string t333, .bool t334, .bool t335] 45 (0, 0)) (by (with_reducible repeat (first | refine blk_drewN ?_ _ | refine blk_drew ?_ | refine blk_alloc ?_ _)); exact BK337.out)) : gb337 ≠ gb347)); have n7_ := Aside0.mk ((by rw [hg]; exact Nat.ne_of_gt (blk_lt (g := gb337) (o := .cells #[.string t332, .string t333, .bool t334, .bool t335] 45 (0, 0)) (by (with_reducible repeat (first | refine blk_drewN ?_ _ | refine blk_drew ?_ | refine blk_alloc ?_ _)); exact BK337.out)) : gb347 ≠ gb337)); have n8_ := Aside0.mk ((by rw [hg]; exact Nat.ne_of_lt (blk_lt (g := gb345) (o := .cells #[.string t340, .string t341, .bool t342, .bool t343] 45 (0, 0)) (by (with_reducible repeat (first | refine blk_drewN ?_ _ | refine blk_drew ?_ | refine blk_alloc ?_ _)); exact BK345.out)) : gb345 ≠ gb347)); have n9_ := Aside0.mk ((by rw [hg]; exact Nat.ne_of_gt (blk_lt (g := gb345) (o := .cells #[.string t340, .string t341, .bool t342, .bool t343] 45 (0, 0)) (by (with_reducible repeat (first | refine blk_drewN ?_ _ | refine blk_drew ?_ | refine blk_alloc ?_ _)); exact BK345.out)) : gb347 ≠ gb345)); clear BK337; clear BK345; clear HB; have BK337 := n0_; have BK345 := n1_; have HB := n2_; have BK347 := n3_; have GW347 := n4_; have GE347 := n5_; have NB337_347 := n6_; have NB347_337 := n7_; have NB345_347 := n8_; have NB347_345 := n9_; clear n0_ n1_ n2_ n3_ n4_ n5_ n6_ n7_ n8_ n9_; clear hb hbox hg; have hnb57 := NB347_337.out; have hnc57 := NB337_347.out; have hnb58 := NB347_345.out; have hnc58 := NB345_347.out; have hcz59_0 : w56.cell? ⟨gb347, 0, none⟩ = some (.string (⟨#[]⟩ : ByteArray)) := (blk_cell BK347.out 0).trans rfl; have hcz59_1 : w56.cell? ⟨gb347, 1, none⟩ = some (.string (⟨#[]⟩ : ByteArray)) := (blk_cell BK347.out 1).trans rfl; have hcz59_2 : w56.cell? ⟨gb347, 2, none⟩ = some (.bool false) := (blk_cell BK347.out 2).trans rfl; have hcz59_3 : w56.cell? ⟨gb347, 3, none⟩ = some (.bool false) := (blk_cell BK347.out 3).trans rfl; have hfz59_0 := blk_frozen BK347.out 0; have hfz59_1 := blk_frozen BK347.out 1; have hfz59_2 := blk_frozen BK347.out 2; have hfz59_3 := blk_frozen BK347.out 3; have hnb60 := NB345_337.out; have hnc60 := NB337_345.out; have hcz61_0 : w56.cell? ⟨gb345, 0, none⟩ = some (.string t340) := (blk_cell BK345.out 0).trans rfl; have hcz61_1 : w56.cell? ⟨gb345, 1, none⟩ = some (.string t341) := (blk_cell BK345.out 1).trans rfl; have hcz61_2 : w56.cell? ⟨gb345, 2, none⟩ = some (.bool t342) := (blk_cell BK345.out 2).trans rfl; have hcz61_3 : w56.cell? ⟨gb345, 3, none⟩ = some (.bool t343) := (blk_cell BK345.out 3).trans rfl; have hfz61_0 := blk_frozen BK345.out 0; have hfz61_1 := blk_frozen BK345.out 1; have hfz61_2 := blk_frozen BK345.out 2; have hfz61_3 := blk_frozen BK345.out 3))
                                      go_ret
                                      exact ⟨by first | rfl | (simp [errW_none, errW_some] <;> rfl) | (simp [*, errW_none, errW_some] <;> rfl), by repeat (first | (with_reducible first | exact HB.out | apply below_alloc | apply pw_below_drewN | apply below_drew1 | refine below_set ?_ GE337.out | refine below_set ?_ GE345.out | refine below_set ?_ GE347.out) | exact HB.out)⟩
                                    · replace c55 := Bool.eq_false_iff.mpr c55
                                      subst c55
                                      have H1 : (some false) = some r := by rw [if_neg (show ¬ (false = true) by decide)] at H; exact H
                                      clear H
                                      have H := H1
                                      clear H1
                                      obtain rfl := Option.some.inj H
                                      have p346 : 0 ≤ (x51_4 : Int) := of_decide_eq_true (by first | (with_reducible assumption) | assumption)
                                      have q346 : x51_4 < (l1.length : Int) := of_decide_eq_true (by first | (with_reducible assumption) | assumption)
                                      obtain ⟨ad346, e346, hx346_0, hx346_1, hx346_2, hx346_3⟩ := at_T45 HR1.out x51_4 p346 q346
                                      cases e346
                                      replace hx346_0 := (HB.out.cell (World.block_lt_of_cell? w _ hx346_0)).trans hx346_0
                                      replace hx346_1 := (HB.out.cell (World.block_lt_of_cell? w _ hx346_1)).trans hx346_1
                                      replace hx346_2 := (HB.out.cell (World.block_lt_of_cell? w _ hx346_2)).trans hx346_2
                                      replace hx346_3 := (HB.out.cell (World.block_lt_of_cell? w _ hx346_3)).trans hx346_3
                                      replace p346 := eq_true p346
                                      replace q346 := eq_true q346
                                      go_wp2_with (first | ((with_reducible refine gate_dst (N := 12) rfl ?_); refine box_event ?hg (N := 12) ?hd (cs := #[.string (⟨#[]⟩ : ByteArray), .string (⟨#[]⟩ : ByteArray), .bool false, .bool false]) (t := 45) ?hr ?_; (case hd => rfl); (case hg => rfl); (case hr => first | (go_simp; done) | (go_simp; rfl)); intro gb347 hg w62 hbox hb; have n0_ := Aside0.mk (blk_below (g := gb337) (o := .cells #[.string t332, .string t333, .bool t334, .bool t335] 45 (0, 0)) (by (with_reducible repeat (first | refine blk_drewN ?_ _ | refine blk_drew ?_ | refine blk_alloc ?_ _)); exact BK337.out) hb); have n1_ := Aside0.mk (blk_below (g := gb345) (o := .cells #[.string t340, .string t341, .bool t342, .bool t343] 45 (0, 0)) (by (with_reducible repeat (first | refine blk_drewN ?_ _ | refine blk_drew ?_ | refine blk_alloc ?_ _)); exact BK345.out) hb); have n2_ := Aside0.mk (below_step (by repeat (first | (with_reducible first | exact HB.out | apply below_alloc | apply pw_below_drewN | apply below_drew1 | refine below_set ?_ GE337.out | refine below_set ?_ GE345.out) | exact HB.out)) hb); have n3_ := Aside0.mk (hbox); have n4_ := Aside0.mk ((by rw [hg]; exact (below_size (by repeat (first | (with_reducible first | exact HB.out | apply below_alloc | apply pw_below_drewN | apply below_drew1 | refine below_set ?_ GE337.out | refine below_set ?_ GE345.out) | exact HB.out))) : w.heap.size ≤ gb347)); have n5_ := Aside0.mk ((by rw [hg]; exact (below_size (by repeat (first | (with_reducible first | exact HB.out | apply below_alloc | apply pw_below_drewN | apply below_drew1 | refine below_set ?_ GE337.out | refine below_set ?_ GE345.out) | exact HB.out))) : w.heap.size ≤ gb347)); have n6_ := Aside0.mk ((by rw [hg]; exact Nat.ne_of_lt (blk_lt (g := gb337) (o := .cells #[.string t332, .string t333, .bool t334, .bool t335] 45 (0, 0)) (by (with_reducible repeat (first | refine blk_drewN ?_ _ | refine blk_drew ?_ | refine blk_alloc ?_ _)); exact BK337.out)) : gb337 ≠ gb347)); have n7_ := Aside0.mk ((by rw [hg]; exact Nat.ne_of_gt (blk_lt (g := gb337) (o := .cells #[.string t332, .string t333, .bool t334, .bool t335] 45 (0, 0)) (by (with_reducible repeat (first | refine blk_drewN ?_ _ | refine blk_drew ?_ | refine blk_alloc ?_ _)); exact BK337.out)) : gb347 ≠ gb337)); have n8_ := Aside0.mk ((by rw [hg]; exact Nat.ne_of_lt (blk_lt (g := gb345) (o := .cells #[.string t340, .string t341, .bool t342, .bool t343] 45 (0, 0)) (by (with_reducible repeat (first | refine blk_drewN ?_ _ | refine blk_drew ?_ | refine blk_alloc ?_ _)); exact BK345.out)) : gb345 ≠ gb347)); have n9_ := Aside0.mk ((by rw [hg]; exact Nat.ne_of_gt (blk_lt (g := gb345) (o := .cells #[.string t340, .string t341, .bool t342, .bool t343] 45 (0, 0)) (by (with_reducible repeat (first | refine blk_drewN ?_ _ | refine blk_drew ?_ | refine blk_alloc ?_ _)); exact BK345.out)) : gb347 ≠ gb345)); clear BK337; clear BK345; clear HB; have BK337 := n0_; have BK345 := n1_; have HB := n2_; have BK347 := n3_; have GW347 := n4_; have GE347 := n5_; have NB337_347 := n6_; have NB347_337 := n7_; have NB345_347 := n8_; have NB347_345 := n9_; clear n0_ n1_ n2_ n3_ n4_ n5_ n6_ n7_ n8_ n9_; clear hb hbox hg; have hnb63 := NB347_337.out; have hnc63 := NB337_347.out; have hnb64 := NB347_345.out; have hnc64 := NB345_347.out; have hcz65_0 : w62.cell? ⟨gb347, 0, none⟩ = some (.string (⟨#[]⟩ : ByteArray)) := (blk_cell BK347.out 0).trans rfl; have hcz65_1 : w62.cell? ⟨gb347, 1, none⟩ = some (.string (⟨#[]⟩ : ByteArray)) := (blk_cell BK347.out 1).trans rfl; have hcz65_2 : w62.cell? ⟨gb347, 2, none⟩ = some (.bool false) := (blk_cell BK347.out 2).trans rfl; have hcz65_3 : w62.cell? ⟨gb347, 3, none⟩ = some (.bool false) := (blk_cell BK347.out 3).trans rfl; have hfz65_0 := blk_frozen BK347.out 0; have hfz65_1 := blk_frozen BK347.out 1; have hfz65_2 := blk_frozen BK347.out 2; have hfz65_3 := blk_frozen BK347.out 3))
                                      go_ret
                                      exact ⟨by first | rfl | (simp [errW_none, errW_some] <;> rfl) | (simp [*, errW_none, errW_some] <;> rfl), by repeat (first | (with_reducible first | exact HB.out | apply below_alloc | apply pw_below_drewN | apply below_drew1 | refine below_set ?_ GE337.out | refine below_set ?_ GE345.out | refine below_set ?_ GE347.out) | exact HB.out)⟩
                                · rw [if_neg c49] at H
                                  have c49b0 : (((rd_T45 l1 x51_4).f1).toList == a0.toList) = false := beq_eq_false_iff_ne.mpr c49
                                  have c49b1 : (((rd_T45 l1 x51_4).f1).toList != a0.toList) = true := bne_iff_ne.mpr c49
                                  have H' := Aside0.mk H
                                  clear H
                                  have p346 : 0 ≤ (x51_4 : Int) := of_decide_eq_true (by first | (with_reducible assumption) | assumption)
                                  have q346 : x51_4 < (l1.length : Int) := of_decide_eq_true (by first | (with_reducible assumption) | assumption)
                                  obtain ⟨ad346, e346, hx346_0, hx346_1, hx346_2, hx346_3⟩ := at_T45 HR1.out x51_4 p346 q346
                                  cases e346
                                  replace hx346_0 := (HB.out.cell (World.block_lt_of_cell? w _ hx346_0)).trans hx346_0
                                  replace hx346_1 := (HB.out.cell (World.block_lt_of_cell? w _ hx346_1)).trans hx346_1
                                  replace hx346_2 := (HB.out.cell (World.block_lt_of_cell? w _ hx346_2)).trans hx346_2
                                  replace hx346_3 := (HB.out.cell (World.block_lt_of_cell? w _ hx346_3)).trans hx346_3
                                  replace p346 := eq_true p346
                                  replace q346 := eq_true q346
                                  go_wp2_with (first | ((with_reducible refine gate_dst (N := 12) rfl ?_); refine box_event ?hg (N := 12) ?hd (cs := #[.string (⟨#[]⟩ : ByteArray), .string (⟨#[]⟩ : ByteArray), .bool false, .bool false]) (t := 45) ?hr ?_; (case hd => rfl); (case hg => rfl); (case hr => first | (go_simp; done) | (go_simp; rfl)); intro gb347 hg w66 hbox hb; have n0_ := Aside0.mk (blk_below (g := gb337) (o := .cells #[.string t332, .string t333, .bool t334, .bool t335] 45 (0, 0)) (by (with_reducible repeat (first | refine blk_drewN ?_ _ | refine blk_drew ?_ | refine blk_alloc ?_ _)); exact BK337.out) hb); have n1_ := Aside0.mk (blk_below (g := gb345) (o := .cells #[.string t340, .string t341, .bool t342, .bool t343] 45 (0, 0)) (by (with_reducible repeat (first | refine blk_drewN ?_ _ | refine blk_drew ?_ | refine blk_alloc ?_ _)); exact BK345.out) hb); have n2_ := Aside0.mk (below_step (by repeat (first | (with_reducible first | exact HB.out | apply below_alloc | apply pw_below_drewN | apply below_drew1 | refine below_set ?_ GE337.out | refine below_set ?_ GE345.out) | exact HB.out)) hb); have n3_ := Aside0.mk (hbox); have n4_ := Aside0.mk ((by rw [hg]; exact (below_size (by repeat (first | (with_reducible first | exact HB.out | apply below_alloc | apply pw_below_drewN | apply below_drew1 | refine below_set ?_ GE337.out | refine below_set ?_ GE345.out) | exact HB.out))) : w.heap.size ≤ gb347)); have n5_ := Aside0.mk ((by rw [hg]; exact (below_size (by repeat (first | (with_reducible first | exact HB.out | apply below_alloc | apply pw_below_drewN | apply below_drew1 | refine below_set ?_ GE337.out | refine below_set ?_ GE345.out) | exact HB.out))) : w.heap.size ≤ gb347)); have n6_ := Aside0.mk ((by rw [hg]; exact Nat.ne_of_lt (blk_lt (g := gb337) (o := .cells #[.string t332, .string t333, .bool t334, .bool t335] 45 (0, 0)) (by (with_reducible repeat (first | refine blk_drewN ?_ _ | refine blk_drew ?_ | refine blk_alloc ?_ _)); exact BK337.out)) : gb337 ≠ gb347)); have n7_ := Aside0.mk ((by rw [hg]; exact Nat.ne_of_gt (blk_lt (g := gb337) (o := .cells #[.string t332, .string t333, .bool t334, .bool t335] 45 (0, 0)) (by (with_reducible repeat (first | refine blk_drewN ?_ _ | refine blk_drew ?_ | refine blk_alloc ?_ _)); exact BK337.out)) : gb347 ≠ gb337)); have n8_ := Aside0.mk ((by rw [hg]; exact Nat.ne_of_lt (blk_lt (g := gb345) (o := .cells #[.string t340, .string t341, .bool t342, .bool t343] 45 (0, 0)) (by (with_reducible repeat (first | refine blk_drewN ?_ _ | refine blk_drew ?_ | refine blk_alloc ?_ _)); exact BK345.out)) : gb345 ≠ gb347)); have n9_ := Aside0.mk ((by rw [hg]; exact Nat.ne_of_gt (blk_lt (g := gb345) (o := .cells #[.string t340, .string t341, .bool t342, .bool t343] 45 (0, 0)) (by (with_reducible repeat (first | refine blk_drewN ?_ _ | refine blk_drew ?_ | refine blk_alloc ?_ _)); exact BK345.out)) : gb347 ≠ gb345)); clear BK337; clear BK345; clear HB; have BK337 := n0_; have BK345 := n1_; have HB := n2_; have BK347 := n3_; have GW347 := n4_; have GE347 := n5_; have NB337_347 := n6_; have NB347_337 := n7_; have NB345_347 := n8_; have NB347_345 := n9_; clear n0_ n1_ n2_ n3_ n4_ n5_ n6_ n7_ n8_ n9_; clear hb hbox hg; have hnb67 := NB347_337.out; have hnc67 := NB337_347.out; have hnb68 := NB347_345.out; have hnc68 := NB345_347.out; have hcz69_0 : w66.cell? ⟨gb347, 0, none⟩ = some (.string (⟨#[]⟩ : ByteArray)) := (blk_cell BK347.out 0).trans rfl; have hcz69_1 : w66.cell? ⟨gb347, 1, none⟩ = some (.string (⟨#[]⟩ : ByteArray)) := (blk_cell BK347.out 1).trans rfl; have hcz69_2 : w66.cell? ⟨gb347, 2, none⟩ = some (.bool false) := (blk_cell BK347.out 2).trans rfl; have hcz69_3 : w66.cell? ⟨gb347, 3, none⟩ = some (.bool false) := (blk_cell BK347.out 3).trans rfl; have hfz69_0 := blk_frozen BK347.out 0; have hfz69_1 := blk_frozen BK347.out 1; have hfz69_2 := blk_frozen BK347.out 2; have hfz69_3 := blk_frozen BK347.out 3))
                                  go_roundg k4
                                  case measure => have := HJ2.out; have := HJ9.out; have := HK3.out; have := HK4.out; omega
                                  case rel => exact ⟨(wrap64 (x51_4 + 1)), (by first | rfl | (simp; done) | (simp [*]; done) | (simp [Go.Proofs.YtjmcndbkmknemaaX.isEmpty_ne]; done)), H', ⟨by have := HJ2.out; have := HJ9.out; have := HK3.out; have := HK4.out; omega⟩, ⟨by (with_reducible repeat (first | refine blk_drewN ?_ _ | refine blk_drew ?_ | refine blk_alloc ?_ _)); refine blk_far ?_ NB337_347.out _; (with_reducible repeat (first | refine blk_drewN ?_ _ | refine blk_drew ?_ | refine blk_alloc ?_ _)); refine blk_far ?_ NB337_347.out _; (with_reducible repeat (first | refine blk_drewN ?_ _ | refine blk_drew ?_ | refine blk_alloc ?_ _)); refine blk_far ?_ NB337_347.out _; (with_reducible repeat (first | refine blk_drewN ?_ _ | refine blk_drew ?_ | refine blk_alloc ?_ _)); refine blk_far ?_ NB337_347.out _; (with_reducible repeat (first | refine blk_drewN ?_ _ | refine blk_drew ?_ | refine blk_alloc ?_ _)); exact BK337.out⟩, ⟨by (with_reducible repeat (first | refine blk_drewN ?_ _ | refine blk_drew ?_ | refine blk_alloc ?_ _)); refine blk_far ?_ NB345_347.out _; (with_reducible repeat (first | refine blk_drewN ?_ _ | refine blk_drew ?_ | refine blk_alloc ?_ _)); refine blk_far ?_ NB345_347.out _; (with_reducible repeat (first | refine blk_drewN ?_ _ | refine blk_drew ?_ | refine blk_alloc ?_ _)); refine blk_far ?_ NB345_347.out _; (with_reducible repeat (first | refine blk_drewN ?_ _ | refine blk_drew ?_ | refine blk_alloc ?_ _)); refine blk_far ?_ NB345_347.out _; (with_reducible repeat (first | refine blk_drewN ?_ _ | refine blk_drew ?_ | refine blk_alloc ?_ _)); exact BK345.out⟩, ⟨by repeat (first | (with_reducible first | exact HB.out | apply below_alloc | apply pw_below_drewN | apply below_drew1 | refine below_set ?_ GE337.out | refine below_set ?_ GE345.out | refine below_set ?_ GE347.out) | exact HB.out)⟩⟩
                            · rw [if_neg c36] at H
                              exact absurd H (by simp)
                          · rw [if_neg c35] at H
                            exact absurd H (by simp)
                        · rw [if_neg c34] at H
                          have c34b0 : decide (x51_4 < (l1.length : Int)) = false := decide_eq_false c34
                          clear c34
                          by_cases c70 : a0.toList = ([] : List UInt8)
                          · rw [if_pos c70] at H
                            have c70b0 : (a0.toList == ([] : List UInt8)) = true := beq_iff_eq.mpr c70
                            have c70b1 : (a0.toList != ([] : List UInt8)) = false := bne_eq_false_iff_eq.mpr c70
                            clear c70
                            obtain rfl := Option.some.inj H
                            go_wp2
                            go_ret
                            exact ⟨by first | rfl | (simp [errW_none, errW_some] <;> rfl) | (simp [*, errW_none, errW_some] <;> rfl), by repeat (first | (with_reducible first | exact HB.out | apply below_alloc | apply pw_below_drewN | apply below_drew1 | refine below_set ?_ GE337.out | refine below_set ?_ GE345.out) | exact HB.out)⟩
                          · rw [if_neg c70] at H
                            have c70b0 : (a0.toList == ([] : List UInt8)) = false := beq_eq_false_iff_ne.mpr c70
                            have c70b1 : (a0.toList != ([] : List UInt8)) = true := bne_iff_ne.mpr c70
                            obtain rfl := Option.some.inj H
                            go_wp2
                            go_ret
                            exact ⟨by first | rfl | (simp [errW_none, errW_some] <;> rfl) | (simp [*, errW_none, errW_some] <;> rfl), by repeat (first | (with_reducible first | exact HB.out | apply below_alloc | apply pw_below_drewN | apply below_drew1 | refine below_set ?_ GE337.out | refine below_set ?_ GE345.out) | exact HB.out)⟩

end Go.Proofs.Ytjmcndbkmknemaa.Q
