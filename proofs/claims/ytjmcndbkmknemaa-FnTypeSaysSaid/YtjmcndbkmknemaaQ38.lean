-- Written by a program of this session out of the translation, with the kit's printer. Not trusted: Lean checks it.
import Derived.Test.YtjmcndbkmknemaaQ0
import Derived.Test.YtjmcndbkmknemaaQ1
import Derived.Test.YtjmcndbkmknemaaQ19
import Derived.Test.YtjmcndbkmknemaaQ36
import Derived.Test.YtjmcndbkmknemaaQ37
namespace Go.Proofs.Ytjmcndbkmknemaa.Q
open Go.RowKit Go.Proofs.YtjmcndbkmknemaaW.PrintWords Go.Proofs.YtjmcndbkmknemaaW.PrintLast Go.Proofs.YtjmcndbkmknemaaW.PrintMore
attribute [local go_sem] max2_int min2_int max_two min_two max_three min_three max_four min_four   -- for this text's walks alone
set_option linter.unusedVariables false
set_option linter.unusedSimpArgs false

attribute [local go_sem high] eqA45
/-! ### laws_FnTypeSays: function 13 -/
mutual
def laws_FnTypeSays.j0 : Nat → ByteArray → List (S45) → Bool → Option (Bool)
  | 0, _, _, _ => none
  | k + 1, x0, x1, x20 => if x20 = true then (some true) else ((laws_types.f).bind fun t302 => ((impl_TypeOf.f (⟨#[110, 117, 109, 98, 101, 114]⟩ : ByteArray) t302).bind fun bt305 => (if bt305.2.2.2.2 = true then (laws_FnTypeSays.j1 k x0 x1 (bt305.1.toList != ([105, 110, 116] : List UInt8))) else (laws_FnTypeSays.j1 k x0 x1 true))))
def laws_FnTypeSays.j1 : Nat → ByteArray → List (S45) → Bool → Option (Bool)
  | 0, _, _, _ => none
  | k + 1, x0, x1, x32 => if x32 = true then (some false) else (if x0.toList = ([] : List UInt8) then (laws_FnTypeSays.j2 k x0 x1 true) else (laws_FnTypeSays.j2 k x0 x1 (decide ((x1.length : Int) > 20))))
def laws_FnTypeSays.j2 : Nat → ByteArray → List (S45) → Bool → Option (Bool)
  | 0, _, _, _ => none
  | k + 1, x0, x1, x39 => if x39 = true then (some true) else (laws_FnTypeSays.l0 k x0 x1 x1 (x1.length : Int) 0)
def laws_FnTypeSays.l0 : Nat → ByteArray → List (S45) → List (S45) → Int → Int → Option (Bool)
  | 0, _, _, _, _, _ => none
  | k + 1, x0, x1, x40, x41, x42 => if x42 < x41 then (if 0 ≤ x42 then (if x42 < (x40.length : Int) then (if ((rd_T45 x40 x42).f0).toList = ([] : List UInt8) then (some true) else (laws_FnTypeSays.l0 k x0 x1 x40 x41 (wrap64 (x42 + 1)))) else (none)) else (none)) else ((impl_TypeOf.f x0 x1).bind fun bt313 => ((laws_typesOf.f k x1).bind fun t319 => ((spec_TypeOf.f k x0 t319).bind fun bt322 => (if (bt313.2.2.2.2 == bt322.2.2.2.2) = true then (if bt313.2.2.2.2 = true then (some (bt313.1.toList == bt322.1.toList && (bt313.2.1.toList == bt322.2.1.toList && (bt313.2.2.1 == bt322.2.2.1 && (bt313.2.2.2.1 == bt322.2.2.2.1))))) else (some true)) else (some false)))))
end
def laws_FnTypeSays.f (k : Nat) (a0 : ByteArray) (l1 : List (S45)) : Option (Bool) := if (a0.size : Int) > 2147483647 then (laws_FnTypeSays.j0 k a0 l1 true) else ((laws_zzFits2.f k l1).bind fun t301 => (laws_FnTypeSays.j0 k a0 l1 (!t301)))
theorem laws_FnTypeSays.mono_l : ∀ k, (∀ y0 y1 y2, LeO (laws_FnTypeSays.j0 k y0 y1 y2) (laws_FnTypeSays.j0 (k + 1) y0 y1 y2)) ∧ (∀ y0 y1 y2, LeO (laws_FnTypeSays.j1 k y0 y1 y2) (laws_FnTypeSays.j1 (k + 1) y0 y1 y2)) ∧ (∀ y0 y1 y2, LeO (laws_FnTypeSays.j2 k y0 y1 y2) (laws_FnTypeSays.j2 (k + 1) y0 y1 y2)) ∧ (∀ y0 y1 y2 y3 y4, LeO (laws_FnTypeSays.l0 k y0 y1 y2 y3 y4) (laws_FnTypeSays.l0 (k + 1) y0 y1 y2 y3 y4))
  | 0 => ⟨fun _ _ _ r h => by simp [laws_FnTypeSays.j0] at h, fun _ _ _ r h => by simp [laws_FnTypeSays.j1] at h, fun _ _ _ r h => by simp [laws_FnTypeSays.j2] at h, fun _ _ _ _ _ r h => by simp [laws_FnTypeSays.l0] at h⟩
  | k + 1 => by
    obtain ⟨ih0, ih1, ih2, ih3⟩ := laws_FnTypeSays.mono_l k
    refine ⟨?_, ?_, ?_, ?_⟩
    · intro y0 y1 y2
      unfold laws_FnTypeSays.j0
      repeat' first
      | (with_reducible exact ih0 _ _ _)
      | (with_reducible exact ih1 _ _ _)
      | (with_reducible exact ih2 _ _ _)
      | (with_reducible exact ih3 _ _ _ _ _)
      | (with_reducible exact laws_typesOf.mono _ _)
      | (with_reducible exact laws_zzFits2.mono _ _)
      | (with_reducible exact spec_TypeOf.mono _ _ _)
      | (with_reducible exact LeO.refl _)
      | (with_reducible exact LeO.none _)
      | (with_reducible refine LeO.ite ?_ ?_)
      | (with_reducible refine LeO.bind ?_ (fun _ => ?_))
      | exact ih0 _ _ _
      | exact ih1 _ _ _
      | exact ih2 _ _ _
      | exact ih3 _ _ _ _ _
      | exact laws_typesOf.mono _ _
      | exact laws_zzFits2.mono _ _
      | exact spec_TypeOf.mono _ _ _
      | exact LeO.none _
      | refine LeO.ite ?_ ?_
      | refine LeO.bind ?_ (fun _ => ?_)
    · intro y0 y1 y2
      unfold laws_FnTypeSays.j1
      repeat' first
      | (with_reducible exact ih0 _ _ _)
      | (with_reducible exact ih1 _ _ _)
      | (with_reducible exact ih2 _ _ _)
      | (with_reducible exact ih3 _ _ _ _ _)
      | (with_reducible exact laws_typesOf.mono _ _)
      | (with_reducible exact laws_zzFits2.mono _ _)
      | (with_reducible exact spec_TypeOf.mono _ _ _)
      | (with_reducible exact LeO.refl _)
      | (with_reducible exact LeO.none _)
      | (with_reducible refine LeO.ite ?_ ?_)
      | (with_reducible refine LeO.bind ?_ (fun _ => ?_))
      | exact ih0 _ _ _
      | exact ih1 _ _ _
      | exact ih2 _ _ _
      | exact ih3 _ _ _ _ _
      | exact laws_typesOf.mono _ _
      | exact laws_zzFits2.mono _ _
      | exact spec_TypeOf.mono _ _ _
      | exact LeO.none _
      | refine LeO.ite ?_ ?_
      | refine LeO.bind ?_ (fun _ => ?_)
    · intro y0 y1 y2
      unfold laws_FnTypeSays.j2
      repeat' first
      | (with_reducible exact ih0 _ _ _)
      | (with_reducible exact ih1 _ _ _)
      | (with_reducible exact ih2 _ _ _)
      | (with_reducible exact ih3 _ _ _ _ _)
      | (with_reducible exact laws_typesOf.mono _ _)
      | (with_reducible exact laws_zzFits2.mono _ _)
      | (with_reducible exact spec_TypeOf.mono _ _ _)
      | (with_reducible exact LeO.refl _)
      | (with_reducible exact LeO.none _)
      | (with_reducible refine LeO.ite ?_ ?_)
      | (with_reducible refine LeO.bind ?_ (fun _ => ?_))
      | exact ih0 _ _ _
      | exact ih1 _ _ _
      | exact ih2 _ _ _
      | exact ih3 _ _ _ _ _
      | exact laws_typesOf.mono _ _
      | exact laws_zzFits2.mono _ _
      | exact spec_TypeOf.mono _ _ _
      | exact LeO.none _
      | refine LeO.ite ?_ ?_
      | refine LeO.bind ?_ (fun _ => ?_)
    · intro y0 y1 y2 y3 y4
      unfold laws_FnTypeSays.l0
      repeat' first
      | (with_reducible exact ih0 _ _ _)
      | (with_reducible exact ih1 _ _ _)
      | (with_reducible exact ih2 _ _ _)
      | (with_reducible exact ih3 _ _ _ _ _)
      | (with_reducible exact laws_typesOf.mono _ _)
      | (with_reducible exact laws_zzFits2.mono _ _)
      | (with_reducible exact spec_TypeOf.mono _ _ _)
      | (with_reducible exact LeO.refl _)
      | (with_reducible exact LeO.none _)
      | (with_reducible refine LeO.ite ?_ ?_)
      | (with_reducible refine LeO.bind ?_ (fun _ => ?_))
      | exact ih0 _ _ _
      | exact ih1 _ _ _
      | exact ih2 _ _ _
      | exact ih3 _ _ _ _ _
      | exact laws_typesOf.mono _ _
      | exact laws_zzFits2.mono _ _
      | exact spec_TypeOf.mono _ _ _
      | exact LeO.none _
      | refine LeO.ite ?_ ?_
      | refine LeO.bind ?_ (fun _ => ?_)
theorem laws_FnTypeSays.mono : ∀ a0 a1 k, LeO (laws_FnTypeSays.f k a0 a1) (laws_FnTypeSays.f (k + 1) a0 a1) := by
  intro a0 a1 k
  obtain ⟨ih0, ih1, ih2, ih3⟩ := laws_FnTypeSays.mono_l k
  unfold laws_FnTypeSays.f
  repeat' first
      | (with_reducible exact ih0 _ _ _)
      | (with_reducible exact ih1 _ _ _)
      | (with_reducible exact ih2 _ _ _)
      | (with_reducible exact ih3 _ _ _ _ _)
      | (with_reducible exact laws_typesOf.mono _ _)
      | (with_reducible exact laws_zzFits2.mono _ _)
      | (with_reducible exact spec_TypeOf.mono _ _ _)
      | (with_reducible exact LeO.refl _)
      | (with_reducible exact LeO.none _)
      | (with_reducible refine LeO.ite ?_ ?_)
      | (with_reducible refine LeO.bind ?_ (fun _ => ?_))
      | exact ih0 _ _ _
      | exact ih1 _ _ _
      | exact ih2 _ _ _
      | exact ih3 _ _ _ _ _
      | exact laws_typesOf.mono _ _
      | exact laws_zzFits2.mono _ _
      | exact spec_TypeOf.mono _ _ _
      | exact LeO.none _
      | refine LeO.ite ?_ ?_
      | refine LeO.bind ?_ (fun _ => ?_)
set_option maxHeartbeats 8000000 in
set_option maxRecDepth 100000 in
theorem laws_FnTypeSays.calls (k : Nat) (a0 : ByteArray) (A1 : Option Addr) (c1 : Nat) (l1 : List (S45)) (r : Bool) (w : World) (hr1 : Kd.C k45 w A1 l1.length l1) (hc1 : l1.length ≤ c1) (h : laws_FnTypeSays.f k a0 l1 = some r) :
    Calls Try.prog 13 #[.string a0, .slice A1 l1.length c1] w fun e w' => e = .returned (.bool r) ∧ Below w.heap.size w w' := by
  have hu45 := Try.underlying45
  have hu53 := Try.underlying53
  have HR1 := Aside0.mk hr1
  have HC1 := Aside0.mk hc1
  clear hr1 hc1
  have HB := Aside0.mk (Below.refl w.heap.size w)
  have H : (if (a0.size : Int) > 2147483647 then (laws_FnTypeSays.j0 k a0 l1 true) else ((laws_zzFits2.f k l1).bind fun t301 => (laws_FnTypeSays.j0 k a0 l1 (!t301)))) = some r := h
  clear h
  have HC3 := Aside0.mk H
  clear H
  go_enter Try.func13, Try.ntmps13
  go_upto_region 1 with (fail)
  go_cut [20] (fun v20 wc => ∃ (kq : Nat) (x20_2 : Bool), v20 = .bool x20_2 ∧ Aside0 (laws_FnTypeSays.j0 kq a0 l1 x20_2 = some r) ∧ Aside0 (kq ≤ k) ∧ Aside0 (Below w.heap.size w wc))
  case first =>
    have H := HC3.out
    clear HC3
    by_cases c4 : (a0.size : Int) > 2147483647
    · rw [if_pos c4] at H
      have c4b0 : decide (2147483647 < (a0.size : Int)) = true := decide_eq_true c4
      have c4b1 : decide (2147483647 < a0.size) = true := decide_eq_true (by omega)
      clear c4
      (first | rw [c4b0] | (simp only [i64_w, i32_w]; rw [c4b0]) | skip)
      have H' := Aside0.mk H
      clear H
      go_wp2
      go_meet
      case rel => exact ⟨_, (true), (by first | rfl | (simp; done) | (simp [*]; done) | (simp [Go.Proofs.YtjmcndbkmknemaaX.isEmpty_ne]; done)), H', ⟨by first | omega | exact Nat.le_refl _⟩, ⟨by repeat (first | (with_reducible first | exact HB.out | apply below_alloc | apply pw_below_drewN | apply below_drew1) | exact HB.out)⟩⟩
    · rw [if_neg c4] at H
      have c4b0 : decide (2147483647 < (a0.size : Int)) = false := decide_eq_false c4
      have c4b1 : decide (2147483647 < a0.size) = false := decide_eq_false (by omega)
      clear c4
      (first | rw [c4b0] | (simp only [i64_w, i32_w]; rw [c4b0]) | skip)
      replace H := Option.bind_eq_some_iff.mp H
      obtain ⟨t301, A50, H⟩ := H
      replace H : (laws_FnTypeSays.j0 k a0 l1 (!t301)) = some r := H
      have A5 := Aside0.mk A50
      clear A50
      have H' := Aside0.mk H
      clear H
      go_wp2_with (first | (go_at_call 27; (with_reducible refine (laws_zzFits2.calls k _ _ l1 t301 _ ?side1 ?side2 A5.out).mono ?_); (case side1 => repeat (first | exact (Kd.C_below HR1.out HB.out) | (with_reducible refine Kd.C_alloc ?_ _) | (with_reducible refine Kd.C_drewN ?_ _) | (with_reducible refine Kd.C_drew ?_))); (case side2 => exact HC1.out); rintro e w6 ⟨rfl, hb⟩; have n0_ := Aside0.mk (below_step (by repeat (first | (with_reducible first | exact HB.out | apply below_alloc | apply pw_below_drewN | apply below_drew1) | exact HB.out)) hb); clear HB; have HB := n0_; clear n0_; (try clear hb); (try clear hb2); (try clear hk); (try clear hi)))
      go_meet
      case rel => exact ⟨_, (!t301), (by first | rfl | (simp; done) | (simp [*]; done) | (simp [Go.Proofs.YtjmcndbkmknemaaX.isEmpty_ne]; done)), H', ⟨by first | omega | exact Nat.le_refl _⟩, ⟨by repeat (first | (with_reducible first | exact HB.out | apply below_alloc | apply pw_below_drewN | apply below_drew1) | exact HB.out)⟩⟩
  case rest =>
    clear HC3
    try clear c1
    try clear p2
    try clear c4
    try clear c4b0
    try clear c4b1
    obtain ⟨kq, x20_2, rfl, HA, HJ2, HB⟩ := hcut
    cases kq with
    | zero => exact absurd HA.out (by simp [laws_FnTypeSays.j0])
    | succ kj2 =>
      have H := HA.out
      clear HA
      simp only [laws_FnTypeSays.j0] at H
      by_cases c7 : x20_2 = true
      · subst c7
        have H1 : (some true) = some r := by rw [if_pos rfl] at H; exact H
        clear H
        have H := H1
        clear H1
        obtain rfl := Option.some.inj H
        go_wp2
        all_goals go_ret
        all_goals exact ⟨by first | rfl | (simp [errW_none, errW_some] <;> rfl) | (simp [*, errW_none, errW_some] <;> rfl), by repeat (first | (with_reducible first | exact HB.out | apply below_alloc | apply pw_below_drewN | apply below_drew1) | exact HB.out)⟩
      · replace c7 := Bool.eq_false_iff.mpr c7
        subst c7
        have H1 : ((laws_types.f).bind fun t302 => ((impl_TypeOf.f (⟨#[110, 117, 109, 98, 101, 114]⟩ : ByteArray) t302).bind fun bt305 => (if bt305.2.2.2.2 = true then (laws_FnTypeSays.j1 kj2 a0 l1 (bt305.1.toList != ([105, 110, 116] : List UInt8))) else (laws_FnTypeSays.j1 kj2 a0 l1 true)))) = some r := by rw [if_neg (show ¬ (false = true) by decide)] at H; exact H
        clear H
        have H := H1
        clear H1
        replace H := Option.bind_eq_some_iff.mp H
        obtain ⟨t302, A80, H⟩ := H
        replace H : ((impl_TypeOf.f (⟨#[110, 117, 109, 98, 101, 114]⟩ : ByteArray) t302).bind fun bt305 => (if bt305.2.2.2.2 = true then (laws_FnTypeSays.j1 kj2 a0 l1 (bt305.1.toList != ([105, 110, 116] : List UInt8))) else (laws_FnTypeSays.j1 kj2 a0 l1 true))) = some r := H
        have A8 := Aside0.mk A80
        clear A80
        replace H := Option.bind_eq_some_iff.mp H
        obtain ⟨⟨t305, t306, t307, t308, t309⟩, A90, H⟩ := H
        replace H : (if t309 = true then (laws_FnTypeSays.j1 kj2 a0 l1 (t305.toList != ([105, 110, 116] : List UInt8))) else (laws_FnTypeSays.j1 kj2 a0 l1 true)) = some r := H
        have A9 := Aside0.mk A90
        clear A90
        have HC10 := Aside0.mk H
        clear H
        go_upto_region 4 with (first | ((with_reducible refine gate_callee (f := 29) rfl ?_); refine goesL_ (some 22) rfl rfl Try.func29 (by kernel_rfl) rfl #[] rfl (by (try simp only [List.map_toArray, List.map_cons, List.map_nil]); first | done | rfl | (simp only [List.length_drop, List.length_take]; rfl)) ?_; (with_reducible refine (laws_types.calls  t302 _ A8.out).mono ?_); rintro e w11 ⟨v303, rfl, ho0, hb⟩; refine ⟨_, rfl, ?_⟩; have n0_ := Aside0.mk (Kd.R_lower ho0 (below_size (by repeat (first | (with_reducible first | exact HB.out | apply below_alloc | apply pw_below_drewN | apply below_drew1) | exact HB.out)))); have n1_ := Aside0.mk (below_step (by repeat (first | (with_reducible first | exact HB.out | apply below_alloc | apply pw_below_drewN | apply below_drew1) | exact HB.out)) hb); clear HB; have HO304 := n0_; have HB := n1_; clear n0_ n1_; (try clear hb); (try clear hb2); (try clear hk); (try clear hi); (try clear ho0); obtain ⟨Ao12, co12, eo12⟩ := Kd.R_slice HO304.out; subst eo12) | ((with_reducible refine gate_callee (f := 39) rfl ?_); refine goesL_ (some 23) rfl rfl Try.func39 (by kernel_rfl) rfl #[.string (⟨#[110, 117, 109, 98, 101, 114]⟩ : ByteArray), .slice Ao12 t302.length co12] rfl (by (try simp only [List.map_toArray, List.map_cons, List.map_nil]); first | done | rfl | (simp only [List.length_drop, List.length_take]; rfl)) ?_; (with_reducible refine (impl_TypeOf.calls (⟨#[110, 117, 109, 98, 101, 114]⟩ : ByteArray) _ _ t302 t305 t306 t307 t308 t309 _ ?side1 ?side2 A9.out).mono ?_); (case side1 => repeat (first | exact (Kd.R_reads' HO304.out).2.2 | (with_reducible refine Kd.C_alloc ?_ _) | (with_reducible refine Kd.C_drewN ?_ _) | (with_reducible refine Kd.C_drew ?_))); (case side2 => exact (Kd.R_reads' HO304.out).2.1); rintro e w13 ⟨rfl, hb⟩; refine ⟨_, rfl, ?_⟩; have n0_ := Aside0.mk (Kd.R_below (by (with_reducible repeat (first | apply Kd.R_alloc | apply Kd.R_drewN | apply Kd.R_drew)); exact HO304.out) hb); have n1_ := Aside0.mk (below_step (by repeat (first | (with_reducible first | exact HB.out | apply below_alloc | apply pw_below_drewN | apply below_drew1) | exact HB.out)) hb); clear HO304; clear HB; have HO304 := n0_; have HB := n1_; clear n0_ n1_; (try clear hb); (try clear hb2); (try clear hk); (try clear hi)) | ((with_reducible refine gate_dst (N := 5) rfl ?_); (try (refine gate_guard (by rfl) ?_; dsimp only)); refine box_event ?hg (N := 5) ?hd (cs := #[.string (⟨#[]⟩ : ByteArray), .string (⟨#[]⟩ : ByteArray), .bool false, .bool false]) (t := 45) ?hr ?_; (case hd => rfl); (case hg => rfl); (case hr => first | (go_simp; done) | (go_simp; rfl)); intro gb310 hg w14 hbox hb; have n0_ := Aside0.mk (Kd.R_below (Kd.R_elderB (by (with_reducible repeat (first | apply Kd.R_alloc | apply Kd.R_drewN | apply Kd.R_drew)); exact HO304.out) gb310 (Nat.le_of_eq hg.symm)) hb); have n1_ := Aside0.mk (below_step (by repeat (first | (with_reducible first | exact HB.out | apply below_alloc | apply pw_below_drewN | apply below_drew1) | exact HB.out)) hb); have n2_ := Aside0.mk (hbox); have n3_ := Aside0.mk ((by rw [hg]; exact (below_size (by repeat (first | (with_reducible first | exact HB.out | apply below_alloc | apply pw_below_drewN | apply below_drew1) | exact HB.out))) : w.heap.size ≤ gb310)); have n4_ := Aside0.mk ((by rw [hg]; exact (below_size (by repeat (first | (with_reducible first | exact HB.out | apply below_alloc | apply pw_below_drewN | apply below_drew1) | exact HB.out))) : w.heap.size ≤ gb310)); clear HO304; clear HB; have HO304 := n0_; have HB := n1_; have BK310 := n2_; have GW310 := n3_; have GE310 := n4_; clear n0_ n1_ n2_ n3_ n4_; clear hb hbox hg; have hcz15_0 : w14.cell? ⟨gb310, 0, none⟩ = some (.string (⟨#[]⟩ : ByteArray)) := (blk_cell BK310.out 0).trans rfl; have hcz15_1 : w14.cell? ⟨gb310, 1, none⟩ = some (.string (⟨#[]⟩ : ByteArray)) := (blk_cell BK310.out 1).trans rfl; have hcz15_2 : w14.cell? ⟨gb310, 2, none⟩ = some (.bool false) := (blk_cell BK310.out 2).trans rfl; have hcz15_3 : w14.cell? ⟨gb310, 3, none⟩ = some (.bool false) := (blk_cell BK310.out 3).trans rfl; have hfz15_0 := blk_frozen BK310.out 0; have hfz15_1 := blk_frozen BK310.out 1; have hfz15_2 := blk_frozen BK310.out 2; have hfz15_3 := blk_frozen BK310.out 3))
        (try simp only [Act.put, List.setIfInBounds_toArray, List.set_cons_zero, List.set_cons_succ])
        go_cut [32] (fun v32 wc => ∃ (kq : Nat) (x32_9 : Bool), v32 = .bool x32_9 ∧ Aside0 (laws_FnTypeSays.j1 kq a0 l1 x32_9 = some r) ∧ Aside0 (kq ≤ kj2) ∧ Aside0 (wc.heap[gb310]? = some (.cells #[.string t305, .string t306, .bool t307, .bool t308] 45 (0, 0))) ∧ Aside0 (Below w.heap.size w wc))
        case first =>
          have H := HC10.out
          clear HC10
          by_cases c16 : t309 = true
          · subst c16
            have H1 : (laws_FnTypeSays.j1 kj2 a0 l1 (t305.toList != ([105, 110, 116] : List UInt8))) = some r := by rw [if_pos rfl] at H; exact H
            clear H
            have H := H1
            clear H1
            have H' := Aside0.mk H
            clear H
            have hcz17_0 : w14.cell? ⟨gb310, 0, none⟩ = some (.string (⟨#[]⟩ : ByteArray)) := (blk_cell BK310.out 0).trans rfl
            have hcz17_1 : w14.cell? ⟨gb310, 1, none⟩ = some (.string (⟨#[]⟩ : ByteArray)) := (blk_cell BK310.out 1).trans rfl
            have hcz17_2 : w14.cell? ⟨gb310, 2, none⟩ = some (.bool false) := (blk_cell BK310.out 2).trans rfl
            have hcz17_3 : w14.cell? ⟨gb310, 3, none⟩ = some (.bool false) := (blk_cell BK310.out 3).trans rfl
            have hfz17_0 := blk_frozen BK310.out 0
            have hfz17_1 := blk_frozen BK310.out 1
            have hfz17_2 := blk_frozen BK310.out 2
            have hfz17_3 := blk_frozen BK310.out 3
            go_wp2
            go_meet
            case rel => exact ⟨_, ((t305.toList != ([105, 110, 116] : List UInt8))), (by first | rfl | (simp; done) | (simp [*]; done) | (simp [Go.Proofs.YtjmcndbkmknemaaX.isEmpty_ne]; done)), H', ⟨by have := HJ2.out; first | omega | exact Nat.le_refl _⟩, ⟨by (with_reducible repeat (first | refine blk_drewN ?_ _ | refine blk_drew ?_ | refine blk_alloc ?_ _)); refine blk_put (cs := #[.string t305, .string t306, .bool t307, .bool false]) ?_ 3 _ rfl; (with_reducible repeat (first | refine blk_drewN ?_ _ | refine blk_drew ?_ | refine blk_alloc ?_ _)); refine blk_put (cs := #[.string t305, .string t306, .bool false, .bool false]) ?_ 2 _ rfl; (with_reducible repeat (first | refine blk_drewN ?_ _ | refine blk_drew ?_ | refine blk_alloc ?_ _)); refine blk_put (cs := #[.string t305, .string (⟨#[]⟩ : ByteArray), .bool false, .bool false]) ?_ 1 _ rfl; (with_reducible repeat (first | refine blk_drewN ?_ _ | refine blk_drew ?_ | refine blk_alloc ?_ _)); refine blk_put (cs := #[.string (⟨#[]⟩ : ByteArray), .string (⟨#[]⟩ : ByteArray), .bool false, .bool false]) ?_ 0 _ rfl; (with_reducible repeat (first | refine blk_drewN ?_ _ | refine blk_drew ?_ | refine blk_alloc ?_ _)); exact BK310.out⟩, ⟨by repeat (first | (with_reducible first | exact HB.out | apply below_alloc | apply pw_below_drewN | apply below_drew1 | refine below_set ?_ GE310.out) | exact HB.out)⟩⟩
          · replace c16 := Bool.eq_false_iff.mpr c16
            subst c16
            have H1 : (laws_FnTypeSays.j1 kj2 a0 l1 true) = some r := by rw [if_neg (show ¬ (false = true) by decide)] at H; exact H
            clear H
            have H := H1
            clear H1
            have H' := Aside0.mk H
            clear H
            go_wp2
            go_meet
            case rel => exact ⟨_, (true), (by first | rfl | (simp; done) | (simp [*]; done) | (simp [Go.Proofs.YtjmcndbkmknemaaX.isEmpty_ne]; done)), H', ⟨by have := HJ2.out; first | omega | exact Nat.le_refl _⟩, ⟨by (with_reducible repeat (first | refine blk_drewN ?_ _ | refine blk_drew ?_ | refine blk_alloc ?_ _)); refine blk_put (cs := #[.string t305, .string t306, .bool t307, .bool false]) ?_ 3 _ rfl; (with_reducible repeat (first | refine blk_drewN ?_ _ | refine blk_drew ?_ | refine blk_alloc ?_ _)); refine blk_put (cs := #[.string t305, .string t306, .bool false, .bool false]) ?_ 2 _ rfl; (with_reducible repeat (first | refine blk_drewN ?_ _ | refine blk_drew ?_ | refine blk_alloc ?_ _)); refine blk_put (cs := #[.string t305, .string (⟨#[]⟩ : ByteArray), .bool false, .bool false]) ?_ 1 _ rfl; (with_reducible repeat (first | refine blk_drewN ?_ _ | refine blk_drew ?_ | refine blk_alloc ?_ _)); refine blk_put (cs := #[.string (⟨#[]⟩ : ByteArray), .string (⟨#[]⟩ : ByteArray), .bool false, .bool false]) ?_ 0 _ rfl; (with_reducible repeat (first | refine blk_drewN ?_ _ | refine blk_drew ?_ | refine blk_alloc ?_ _)); exact BK310.out⟩, ⟨by repeat (first | (with_reducible first | exact HB.out | apply below_alloc | apply pw_below_drewN | apply below_drew1 | refine below_set ?_ GE310.out) | exact HB.out)⟩⟩
        case rest =>
          clear HC10
          try clear c1
          try clear c2
          try clear p2
          try clear c3
          try clear c4
          try clear c4b0
          try clear c4b1
          try clear c7
          try clear c13
          try clear c16
          try clear hcz15_0
          try clear hcz15_1
          try clear hcz15_2
          try clear hcz15_3
          try clear hcz17_0
          try clear hcz17_1
          try clear hcz17_2
          try clear hcz17_3
          try clear hfz15_0
          try clear hfz15_1
          try clear hfz15_2
          try clear hfz15_3
          try clear hfz17_0
          try clear hfz17_1
          try clear hfz17_2
          try clear hfz17_3
          try clear p2
          obtain ⟨kq, x32_9, rfl, HA, HJ9, BK310, HB⟩ := hcut
          cases kq with
          | zero => exact absurd HA.out (by simp [laws_FnTypeSays.j1])
          | succ kj9 =>
            have H := HA.out
            clear HA
            simp only [laws_FnTypeSays.j1] at H
            by_cases c18 : x32_9 = true
            · subst c18
              have H1 : (some false) = some r := by rw [if_pos rfl] at H; exact H
              clear H
              have H := H1
              clear H1
              obtain rfl := Option.some.inj H
              go_wp2
              all_goals go_ret
              all_goals exact ⟨by first | rfl | (simp [errW_none, errW_some] <;> rfl) | (simp [*, errW_none, errW_some] <;> rfl), by repeat (first | (with_reducible first | exact HB.out | apply below_alloc | apply pw_below_drewN | apply below_drew1 | refine below_set ?_ GE310.out) | exact HB.out)⟩
            · replace c18 := Bool.eq_false_iff.mpr c18
              subst c18
              have H1 : (if a0.toList = ([] : List UInt8) then (laws_FnTypeSays.j2 kj9 a0 l1 true) else (laws_FnTypeSays.j2 kj9 a0 l1 (decide ((l1.length : Int) > 20)))) = some r := by rw [if_neg (show ¬ (false = true) by decide)] at H; exact H
              clear H
              have H := H1
              clear H1
              have HC19 := Aside0.mk H
              clear H
              go_upto_region 6 with (fail)
              go_cut [39] (fun v39 wc => ∃ (kq : Nat) (x39_18 : Bool), v39 = .bool x39_18 ∧ Aside0 (laws_FnTypeSays.j2 kq a0 l1 x39_18 = some r) ∧ Aside0 (kq ≤ kj9) ∧ Aside0 (wc.heap[gb310]? = some (.cells #[.string t305, .string t306, .bool t307, .bool t308] 45 (0, 0))) ∧ Aside0 (Below w.heap.size w wc))
              case first =>
                have H := HC19.out
                clear HC19
                by_cases c20 : a0.toList = ([] : List UInt8)
                · rw [if_pos c20] at H
                  have c20b0 : (a0.toList == ([] : List UInt8)) = true := beq_iff_eq.mpr c20
                  have c20b1 : (a0.toList != ([] : List UInt8)) = false := bne_eq_false_iff_eq.mpr c20
                  clear c20
                  (first | rw [c20b0] | (simp only [i64_w, i32_w]; rw [c20b0]) | skip)
                  have H' := Aside0.mk H
                  clear H
                  go_wp2
                  go_meet
                  case rel => exact ⟨_, (true), (by first | rfl | (simp; done) | (simp [*]; done) | (simp [Go.Proofs.YtjmcndbkmknemaaX.isEmpty_ne]; done)), H', ⟨by have := HJ2.out; have := HJ9.out; first | omega | exact Nat.le_refl _⟩, ⟨by (with_reducible repeat (first | refine blk_drewN ?_ _ | refine blk_drew ?_ | refine blk_alloc ?_ _)); exact BK310.out⟩, ⟨by repeat (first | (with_reducible first | exact HB.out | apply below_alloc | apply pw_below_drewN | apply below_drew1 | refine below_set ?_ GE310.out) | exact HB.out)⟩⟩
                · rw [if_neg c20] at H
                  have c20b0 : (a0.toList == ([] : List UInt8)) = false := beq_eq_false_iff_ne.mpr c20
                  have c20b1 : (a0.toList != ([] : List UInt8)) = true := bne_iff_ne.mpr c20
                  (first | rw [c20b0] | (simp only [i64_w, i32_w]; rw [c20b0]) | skip)
                  have H' := Aside0.mk H
                  clear H
                  go_wp2
                  go_meet
                  case rel => exact ⟨_, (decide ((l1.length : Int) > 20)), (by first | rfl | (simp; done) | (simp [*]; done) | (simp [Go.Proofs.YtjmcndbkmknemaaX.isEmpty_ne]; done)), H', ⟨by have := HJ2.out; have := HJ9.out; first | omega | exact Nat.le_refl _⟩, ⟨by (with_reducible repeat (first | refine blk_drewN ?_ _ | refine blk_drew ?_ | refine blk_alloc ?_ _)); exact BK310.out⟩, ⟨by repeat (first | (with_reducible first | exact HB.out | apply below_alloc | apply pw_below_drewN | apply below_drew1 | refine below_set ?_ GE310.out) | exact HB.out)⟩⟩
              case rest =>
                clear HC19
                try clear c1
                try clear c2
                try clear p2
                try clear c3
                try clear c4
                try clear c4b0
                try clear c4b1
                try clear c7
                try clear c13
                try clear c16
                try clear c18
                try clear c20
                try clear c20b0
                try clear c20b1
                try clear hcz15_0
                try clear hcz15_1
                try clear hcz15_2
                try clear hcz15_3
                try clear hcz17_0
                try clear hcz17_1
                try clear hcz17_2
                try clear hcz17_3
                try clear hfz15_0
                try clear hfz15_1
                try clear hfz15_2
                try clear hfz15_3
                try clear hfz17_0
                try clear hfz17_1
                try clear hfz17_2
                try clear hfz17_3
                try clear p2
                obtain ⟨kq, x39_18, rfl, HA, HJ18, BK310, HB⟩ := hcut
                cases kq with
                | zero => exact absurd HA.out (by simp [laws_FnTypeSays.j2])
                | succ kj18 =>
                  have H := HA.out
                  clear HA
                  simp only [laws_FnTypeSays.j2] at H
                  by_cases c21 : x39_18 = true
                  · subst c21
                    have H1 : (some true) = some r := by rw [if_pos rfl] at H; exact H
                    clear H
                    have H := H1
                    clear H1
                    obtain rfl := Option.some.inj H
                    go_wp2
                    all_goals go_ret
                    all_goals exact ⟨by first | rfl | (simp [errW_none, errW_some] <;> rfl) | (simp [*, errW_none, errW_some] <;> rfl), by repeat (first | (with_reducible first | exact HB.out | apply below_alloc | apply pw_below_drewN | apply below_drew1 | refine below_set ?_ GE310.out) | exact HB.out)⟩
                  · replace c21 := Bool.eq_false_iff.mpr c21
                    subst c21
                    have H1 : (laws_FnTypeSays.l0 kj18 a0 l1 l1 (l1.length : Int) 0) = some r := by rw [if_neg (show ¬ (false = true) by decide)] at H; exact H
                    clear H
                    have H := H1
                    clear H1
                    have H' := Aside0.mk H
                    clear H
                    go_wp2
                    go_loopg [42] kj18 (fun kq v42 w' => ∃ (x42_4 : Int), v42 = .int .i64 x42_4 ∧ Aside0 (laws_FnTypeSays.l0 kq a0 l1 l1 (l1.length : Int) x42_4 = some r) ∧ Aside0 (kq ≤ kj18) ∧ Aside0 (w'.heap[gb310]? = some (.cells #[.string t305, .string t306, .bool t307, .bool t308] 45 (0, 0))) ∧ Aside0 (Below w.heap.size w w'))
                    case atStart => exact ⟨(0), (by first | rfl | (simp; done) | (simp [*]; done) | (simp [Go.Proofs.YtjmcndbkmknemaaX.isEmpty_ne]; done)), H', ⟨Nat.le_refl _⟩, ⟨by (with_reducible repeat (first | refine blk_drewN ?_ _ | refine blk_drew ?_ | refine blk_alloc ?_ _)); exact BK310.out⟩, ⟨by repeat (first | (with_reducible first | exact HB.out | apply below_alloc | apply pw_below_drewN | apply below_drew1 | refine below_set ?_ GE310.out) | exact HB.out)⟩⟩
                    case round =>
                      clear H'
                      try clear c1
                      try clear c2
                      try clear p2
                      try clear c3
                      try clear c4
                      try clear c4b0
                      try clear c4b1
                      try clear c7
                      try clear c13
                      try clear c16
                      try clear c18
                      try clear c20
                      try clear c20b0
                      try clear c20b1
                      try clear c21
                      try clear hcz15_0
                      try clear hcz15_1
                      try clear hcz15_2
                      try clear hcz15_3
                      try clear hcz17_0
                      try clear hcz17_1
                      try clear hcz17_2
                      try clear hcz17_3
                      try clear hfz15_0
                      try clear hfz15_1
                      try clear hfz15_2
                      try clear hfz15_3
                      try clear hfz17_0
                      try clear hfz17_1
                      try clear hfz17_2
                      try clear hfz17_3
                      try clear p2
                      obtain ⟨x42_4, rfl, HA, HK4, BK310, HB⟩ := hrel
                      cases gk with
                      | zero => exact absurd HA.out (by simp [laws_FnTypeSays.l0])
                      | succ k4 =>
                        have H := HA.out
                        clear HA
                        simp only [laws_FnTypeSays.l0] at H
                        by_cases c22 : x42_4 < (l1.length : Int)
                        · rw [if_pos c22] at H
                          have c22b0 : decide (x42_4 < (l1.length : Int)) = true := decide_eq_true c22
                          clear c22
                          by_cases c23 : 0 ≤ x42_4
                          · rw [if_pos c23] at H
                            have c23b0 : decide (0 ≤ x42_4) = true := decide_eq_true c23
                            clear c23
                            by_cases c24 : x42_4 < (l1.length : Int)
                            · rw [if_pos c24] at H
                              have c24b0 : decide (x42_4 < (l1.length : Int)) = true := decide_eq_true c24
                              clear c24
                              by_cases c25 : ((rd_T45 l1 x42_4).f0).toList = ([] : List UInt8)
                              · rw [if_pos c25] at H
                                have c25b0 : (((rd_T45 l1 x42_4).f0).toList == ([] : List UInt8)) = true := beq_iff_eq.mpr c25
                                have c25b1 : (((rd_T45 l1 x42_4).f0).toList != ([] : List UInt8)) = false := bne_eq_false_iff_eq.mpr c25
                                clear c25
                                obtain rfl := Option.some.inj H
                                have p311 : 0 ≤ (x42_4 : Int) := of_decide_eq_true (by first | (with_reducible assumption) | assumption)
                                have q311 : x42_4 < (l1.length : Int) := of_decide_eq_true (by first | (with_reducible assumption) | assumption)
                                obtain ⟨ad311, e311, hx311_0, hx311_1, hx311_2, hx311_3⟩ := at_T45 HR1.out x42_4 p311 q311
                                cases e311
                                replace hx311_0 := (HB.out.cell (World.block_lt_of_cell? w _ hx311_0)).trans hx311_0
                                replace hx311_1 := (HB.out.cell (World.block_lt_of_cell? w _ hx311_1)).trans hx311_1
                                replace hx311_2 := (HB.out.cell (World.block_lt_of_cell? w _ hx311_2)).trans hx311_2
                                replace hx311_3 := (HB.out.cell (World.block_lt_of_cell? w _ hx311_3)).trans hx311_3
                                replace p311 := eq_true p311
                                replace q311 := eq_true q311
                                go_wp2_with (first | ((with_reducible refine gate_dst (N := 8) rfl ?_); (try (refine gate_guard (by rfl) ?_; dsimp only)); refine box_event ?hg (N := 8) ?hd (cs := #[.string (⟨#[]⟩ : ByteArray), .string (⟨#[]⟩ : ByteArray), .bool false, .bool false]) (t := 45) ?hr ?_; (case hd => rfl); (case hg => rfl); (case hr => first | (go_simp; done) | (go_simp; rfl)); intro gb312 hg w26 hbox hb; have n0_ := Aside0.mk (blk_below (g := gb310) (o := .cells #[.string t305, .string t306, .bool t307, .bool t308] 45 (0, 0)) (by (with_reducible repeat (first | refine blk_drewN ?_ _ | refine blk_drew ?_ | refine blk_alloc ?_ _)); exact BK310.out) hb); have n1_ := Aside0.mk (below_step (by repeat (first | (with_reducible first | exact HB.out | apply below_alloc | apply pw_below_drewN | apply below_drew1 | refine below_set ?_ GE310.out) | exact HB.out)) hb); have n2_ := Aside0.mk (hbox); have n3_ := Aside0.mk ((by rw [hg]; exact (below_size (by repeat (first | (with_reducible first | exact HB.out | apply below_alloc | apply pw_below_drewN | apply below_drew1 | refine below_set ?_ GE310.out) | exact HB.out))) : w.heap.size ≤ gb312)); have n4_ := Aside0.mk ((by rw [hg]; exact (below_size (by repeat (first | (with_reducible first | exact HB.out | apply below_alloc | apply pw_below_drewN | apply below_drew1 | refine below_set ?_ GE310.out) | exact HB.out))) : w.heap.size ≤ gb312)); have n5_ := Aside0.mk ((by rw [hg]; exact Nat.ne_of_lt (blk_lt (g := gb310) (o := .cells #[.string t305, .string t306, .bool t307, .bool t308] 45 (0, 0)) (by (with_reducible repeat (first | refine blk_drewN ?_ _ | refine blk_drew ?_ | refine blk_alloc ?_ _)); exact BK310.out)) : gb310 ≠ gb312)); have n6_ := Aside0.mk ((by rw [hg]; exact Nat.ne_of_gt (blk_lt (g := gb310) (o := .cells #[.string t305, .string t306, .bool t307, .bool t308] 45 (0, 0)) (by (with_reducible repeat (first | refine blk_drewN ?_ _ | refine blk_drew ?_ | refine blk_alloc ?_ _)); exact BK310.out)) : gb312 ≠ gb310)); clear BK310; clear HB; have BK310 := n0_; have HB := n1_; have BK312 := n2_; have GW312 := n3_; have GE312 := n4_; have NB310_312 := n5_; have NB312_310 := n6_; clear n0_ n1_ n2_ n3_ n4_ n5_ n6_; clear hb hbox hg; have hnb27 := NB312_310.out; have hnc27 := NB310_312.out; have hcz28_0 : w26.cell? ⟨gb312, 0, none⟩ = some (.string (⟨#[]⟩ : ByteArray)) := (blk_cell BK312.out 0).trans rfl; have hcz28_1 : w26.cell? ⟨gb312, 1, none⟩ = some (.string (⟨#[]⟩ : ByteArray)) := (blk_cell BK312.out 1).trans rfl; have hcz28_2 : w26.cell? ⟨gb312, 2, none⟩ = some (.bool false) := (blk_cell BK312.out 2).trans rfl; have hcz28_3 : w26.cell? ⟨gb312, 3, none⟩ = some (.bool false) := (blk_cell BK312.out 3).trans rfl; have hfz28_0 := blk_frozen BK312.out 0; have hfz28_1 := blk_frozen BK312.out 1; have hfz28_2 := blk_frozen BK312.out 2; have hfz28_3 := blk_frozen BK312.out 3))
                                all_goals go_ret
                                all_goals exact ⟨by first | rfl | (simp [errW_none, errW_some] <;> rfl) | (simp [*, errW_none, errW_some] <;> rfl), by repeat (first | (with_reducible first | exact HB.out | apply below_alloc | apply pw_below_drewN | apply below_drew1 | refine below_set ?_ GE310.out | refine below_set ?_ GE312.out) | exact HB.out)⟩
                              · rw [if_neg c25] at H
                                have c25b0 : (((rd_T45 l1 x42_4).f0).toList == ([] : List UInt8)) = false := beq_eq_false_iff_ne.mpr c25
                                have c25b1 : (((rd_T45 l1 x42_4).f0).toList != ([] : List UInt8)) = true := bne_iff_ne.mpr c25
                                have H' := Aside0.mk H
                                clear H
                                have p311 : 0 ≤ (x42_4 : Int) := of_decide_eq_true (by first | (with_reducible assumption) | assumption)
                                have q311 : x42_4 < (l1.length : Int) := of_decide_eq_true (by first | (with_reducible assumption) | assumption)
                                obtain ⟨ad311, e311, hx311_0, hx311_1, hx311_2, hx311_3⟩ := at_T45 HR1.out x42_4 p311 q311
                                cases e311
                                replace hx311_0 := (HB.out.cell (World.block_lt_of_cell? w _ hx311_0)).trans hx311_0
                                replace hx311_1 := (HB.out.cell (World.block_lt_of_cell? w _ hx311_1)).trans hx311_1
                                replace hx311_2 := (HB.out.cell (World.block_lt_of_cell? w _ hx311_2)).trans hx311_2
                                replace hx311_3 := (HB.out.cell (World.block_lt_of_cell? w _ hx311_3)).trans hx311_3
                                replace p311 := eq_true p311
                                replace q311 := eq_true q311
                                go_wp2_with (first | ((with_reducible refine gate_dst (N := 8) rfl ?_); (try (refine gate_guard (by rfl) ?_; dsimp only)); refine box_event ?hg (N := 8) ?hd (cs := #[.string (⟨#[]⟩ : ByteArray), .string (⟨#[]⟩ : ByteArray), .bool false, .bool false]) (t := 45) ?hr ?_; (case hd => rfl); (case hg => rfl); (case hr => first | (go_simp; done) | (go_simp; rfl)); intro gb312 hg w29 hbox hb; have n0_ := Aside0.mk (blk_below (g := gb310) (o := .cells #[.string t305, .string t306, .bool t307, .bool t308] 45 (0, 0)) (by (with_reducible repeat (first | refine blk_drewN ?_ _ | refine blk_drew ?_ | refine blk_alloc ?_ _)); exact BK310.out) hb); have n1_ := Aside0.mk (below_step (by repeat (first | (with_reducible first | exact HB.out | apply below_alloc | apply pw_below_drewN | apply below_drew1 | refine below_set ?_ GE310.out) | exact HB.out)) hb); have n2_ := Aside0.mk (hbox); have n3_ := Aside0.mk ((by rw [hg]; exact (below_size (by repeat (first | (with_reducible first | exact HB.out | apply below_alloc | apply pw_below_drewN | apply below_drew1 | refine below_set ?_ GE310.out) | exact HB.out))) : w.heap.size ≤ gb312)); have n4_ := Aside0.mk ((by rw [hg]; exact (below_size (by repeat (first | (with_reducible first | exact HB.out | apply below_alloc | apply pw_below_drewN | apply below_drew1 | refine below_set ?_ GE310.out) | exact HB.out))) : w.heap.size ≤ gb312)); have n5_ := Aside0.mk ((by rw [hg]; exact Nat.ne_of_lt (blk_lt (g := gb310) (o := .cells #[.string t305, .string t306, .bool t307, .bool t308] 45 (0, 0)) (by (with_reducible repeat (first | refine blk_drewN ?_ _ | refine blk_drew ?_ | refine blk_alloc ?_ _)); exact BK310.out)) : gb310 ≠ gb312)); have n6_ := Aside0.mk ((by rw [hg]; exact Nat.ne_of_gt (blk_lt (g := gb310) (o := .cells #[.string t305, .string t306, .bool t307, .bool t308] 45 (0, 0)) (by (with_reducible repeat (first | refine blk_drewN ?_ _ | refine blk_drew ?_ | refine blk_alloc ?_ _)); exact BK310.out)) : gb312 ≠ gb310)); clear BK310; clear HB; have BK310 := n0_; have HB := n1_; have BK312 := n2_; have GW312 := n3_; have GE312 := n4_; have NB310_312 := n5_; have NB312_310 := n6_; clear n0_ n1_ n2_ n3_ n4_ n5_ n6_; clear hb hbox hg; have hnb30 := NB312_310.out; have hnc30 := NB310_312.out; have hcz31_0 : w29.cell? ⟨gb312, 0, none⟩ = some (.string (⟨#[]⟩ : ByteArray)) := (blk_cell BK312.out 0).trans rfl; have hcz31_1 : w29.cell? ⟨gb312, 1, none⟩ = some (.string (⟨#[]⟩ : ByteArray)) := (blk_cell BK312.out 1).trans rfl; have hcz31_2 : w29.cell? ⟨gb312, 2, none⟩ = some (.bool false) := (blk_cell BK312.out 2).trans rfl; have hcz31_3 : w29.cell? ⟨gb312, 3, none⟩ = some (.bool false) := (blk_cell BK312.out 3).trans rfl; have hfz31_0 := blk_frozen BK312.out 0; have hfz31_1 := blk_frozen BK312.out 1; have hfz31_2 := blk_frozen BK312.out 2; have hfz31_3 := blk_frozen BK312.out 3))
                                go_roundg k4
                                case measure => have := HJ2.out; have := HJ9.out; have := HJ18.out; have := HK4.out; omega
                                case rel => exact ⟨(wrap64 (x42_4 + 1)), (by first | rfl | (simp; done) | (simp [*]; done) | (simp [Go.Proofs.YtjmcndbkmknemaaX.isEmpty_ne]; done)), H', ⟨by have := HJ2.out; have := HJ9.out; have := HJ18.out; have := HK4.out; omega⟩, ⟨by (with_reducible repeat (first | refine blk_drewN ?_ _ | refine blk_drew ?_ | refine blk_alloc ?_ _)); refine blk_far ?_ NB310_312.out _; (with_reducible repeat (first | refine blk_drewN ?_ _ | refine blk_drew ?_ | refine blk_alloc ?_ _)); refine blk_far ?_ NB310_312.out _; (with_reducible repeat (first | refine blk_drewN ?_ _ | refine blk_drew ?_ | refine blk_alloc ?_ _)); refine blk_far ?_ NB310_312.out _; (with_reducible repeat (first | refine blk_drewN ?_ _ | refine blk_drew ?_ | refine blk_alloc ?_ _)); refine blk_far ?_ NB310_312.out _; (with_reducible repeat (first | refine blk_drewN ?_ _ | refine blk_drew ?_ | refine blk_alloc ?_ _)); exact BK310.out⟩, ⟨by repeat (first | (with_reducible first | exact HB.out | apply below_alloc | apply pw_below_drewN | apply below_drew1 | refine below_set ?_ GE310.out | refine below_set ?_ GE312.out) | exact HB.out)⟩⟩
                            · rw [if_neg c24] at H
                              exact absurd H (by simp)
                          · rw [if_neg c23] at H
                            exact absurd H (by simp)
                        · rw [if_neg c22] at H
                          have c22b0 : decide (x42_4 < (l1.length : Int)) = false := decide_eq_false c22
                          clear c22
                          replace H := Option.bind_eq_some_iff.mp H
                          obtain ⟨⟨t313, t314, t315, t316, t317⟩, A320, H⟩ := H
                          replace H : ((laws_typesOf.f k4 l1).bind fun t319 => ((spec_TypeOf.f k4 a0 t319).bind fun bt322 => (if (t317 == bt322.2.2.2.2) = true then (if t317 = true then (some (t313.toList == bt322.1.toList && (t314.toList == bt322.2.1.toList && (t315 == bt322.2.2.1 && (t316 == bt322.2.2.2.1))))) else (some true)) else (some false)))) = some r := H
                          have A32 := Aside0.mk A320
                          clear A320
                          replace H := Option.bind_eq_some_iff.mp H
                          obtain ⟨t319, A330, H⟩ := H
                          replace H : ((spec_TypeOf.f k4 a0 t319).bind fun bt322 => (if (t317 == bt322.2.2.2.2) = true then (if t317 = true then (some (t313.toList == bt322.1.toList && (t314.toList == bt322.2.1.toList && (t315 == bt322.2.2.1 && (t316 == bt322.2.2.2.1))))) else (some true)) else (some false))) = some r := H
                          have A33 := Aside0.mk A330
                          clear A330
                          replace H := Option.bind_eq_some_iff.mp H
                          obtain ⟨⟨t322, t323, t324, t325, t326⟩, A340, H⟩ := H
                          replace H : (if (t317 == t326) = true then (if t317 = true then (some (t313.toList == t322.toList && (t314.toList == t323.toList && (t315 == t324 && (t316 == t325))))) else (some true)) else (some false)) = some r := H
                          have A34 := Aside0.mk A340
                          clear A340
                          by_cases c35 : (t317 == t326) = true
                          · rw [if_pos c35] at H
                            have c35b0 : (t317 == t326) = true := c35
                            (try (have c35b1 : decide (t317 = t326) = true := by simpa using c35))
                            (try (have c35b2 : (t317 == t326) = true := by simpa using c35))
                            clear c35
                            by_cases c36 : t317 = true
                            · subst c36
                              have H1 : (some (t313.toList == t322.toList && (t314.toList == t323.toList && (t315 == t324 && (t316 == t325))))) = some r := by rw [if_pos rfl] at H; exact H
                              clear H
                              have H := H1
                              clear H1
                              obtain rfl := Option.some.inj H
                              go_wp2_with (first | ((with_reducible refine gate_callee (f := 39) rfl ?_); refine goesL_ (some 53) rfl rfl Try.func39 (by kernel_rfl) rfl #[.string a0, .slice A1 l1.length c1] rfl (by (try simp only [List.map_toArray, List.map_cons, List.map_nil]); first | done | rfl | (simp only [List.length_drop, List.length_take]; rfl)) ?_; (with_reducible refine (impl_TypeOf.calls a0 _ _ l1 t313 t314 t315 t316 true _ ?side1 ?side2 A32.out).mono ?_); (case side1 => repeat (first | exact (Kd.C_below HR1.out HB.out) | (with_reducible refine Kd.C_alloc ?_ _) | (with_reducible refine Kd.C_drewN ?_ _) | (with_reducible refine Kd.C_drew ?_))); (case side2 => exact HC1.out); rintro e w37 ⟨rfl, hb⟩; refine ⟨_, rfl, ?_⟩; have n0_ := Aside0.mk (blk_below (g := gb310) (o := .cells #[.string t305, .string t306, .bool t307, .bool t308] 45 (0, 0)) (by (with_reducible repeat (first | refine blk_drewN ?_ _ | refine blk_drew ?_ | refine blk_alloc ?_ _)); exact BK310.out) hb); have n1_ := Aside0.mk (below_step (by repeat (first | (with_reducible first | exact HB.out | apply below_alloc | apply pw_below_drewN | apply below_drew1 | refine below_set ?_ GE310.out) | exact HB.out)) hb); clear BK310; clear HB; have BK310 := n0_; have HB := n1_; clear n0_ n1_; (try clear hb); (try clear hb2); (try clear hk); (try clear hi)) | ((with_reducible refine gate_dst (N := 9) rfl ?_); (try (refine gate_guard (by rfl) ?_; dsimp only)); refine box_event ?hg (N := 9) ?hd (cs := #[.string (⟨#[]⟩ : ByteArray), .string (⟨#[]⟩ : ByteArray), .bool false, .bool false]) (t := 45) ?hr ?_; (case hd => rfl); (case hg => rfl); (case hr => first | (go_simp; done) | (go_simp; rfl)); intro gb318 hg w38 hbox hb; have n0_ := Aside0.mk (blk_below (g := gb310) (o := .cells #[.string t305, .string t306, .bool t307, .bool t308] 45 (0, 0)) (by (with_reducible repeat (first | refine blk_drewN ?_ _ | refine blk_drew ?_ | refine blk_alloc ?_ _)); exact BK310.out) hb); have n1_ := Aside0.mk (below_step (by repeat (first | (with_reducible first | exact HB.out | apply below_alloc | apply pw_below_drewN | apply below_drew1 | refine below_set ?_ GE310.out) | exact HB.out)) hb); have n2_ := Aside0.mk (hbox); have n3_ := Aside0.mk ((by rw [hg]; exact (below_size (by repeat (first | (with_reducible first | exact HB.out | apply below_alloc | apply pw_below_drewN | apply below_drew1 | refine below_set ?_ GE310.out) | exact HB.out))) : w.heap.size ≤ gb318)); have n4_ := Aside0.mk ((by rw [hg]; exact (below_size (by repeat (first | (with_reducible first | exact HB.out | apply below_alloc | apply pw_below_drewN | apply below_drew1 | refine below_set ?_ GE310.out) | exact HB.out))) : w.heap.size ≤ gb318)); have n5_ := Aside0.mk ((by rw [hg]; exact Nat.ne_of_lt (blk_lt (g := gb310) (o := .cells #[.string t305, .string t306, .bool t307, .bool t308] 45 (0, 0)) (by (with_reducible repeat (first | refine blk_drewN ?_ _ | refine blk_drew ?_ | refine blk_alloc ?_ _)); exact BK310.out)) : gb310 ≠ gb318)); have n6_ := Aside0.mk ((by rw [hg]; exact Nat.ne_of_gt (blk_lt (g := gb310) (o := .cells #[.string t305, .string t306, .bool t307, .bool t308] 45 (0, 0)) (by (with_reducible repeat (first | refine blk_drewN ?_ _ | refine blk_drew ?_ | refine blk_alloc ?_ _)); exact BK310.out)) : gb318 ≠ gb310)); clear BK310; clear HB; have BK310 := n0_; have HB := n1_; have BK318 := n2_; have GW318 := n3_; have GE318 := n4_; have NB310_318 := n5_; have NB318_310 := n6_; clear n0_ n1_ n2_ n3_ n4_ n5_ n6_; clear hb hbox hg; have hnb39 := NB318_310.out; have hnc39 := NB310_318.out; have hcz40_0 : w38.cell? ⟨gb318, 0, none⟩ = some (.string (⟨#[]⟩ : ByteArray)) := (blk_cell BK318.out 0).trans rfl; have hcz40_1 : w38.cell? ⟨gb318, 1, none⟩ = some (.string (⟨#[]⟩ : ByteArray)) := (blk_cell BK318.out 1).trans rfl; have hcz40_2 : w38.cell? ⟨gb318, 2, none⟩ = some (.bool false) := (blk_cell BK318.out 2).trans rfl; have hcz40_3 : w38.cell? ⟨gb318, 3, none⟩ = some (.bool false) := (blk_cell BK318.out 3).trans rfl; have hfz40_0 := blk_frozen BK318.out 0; have hfz40_1 := blk_frozen BK318.out 1; have hfz40_2 := blk_frozen BK318.out 2; have hfz40_3 := blk_frozen BK318.out 3) | ((with_reducible refine gate_callee (f := 41) rfl ?_); refine goesL_ (some 59) rfl rfl Try.func41 (by kernel_rfl) rfl #[.slice A1 l1.length c1] rfl (by (try simp only [List.map_toArray, List.map_cons, List.map_nil]); first | done | rfl | (simp only [List.length_drop, List.length_take]; rfl)) ?_; (with_reducible refine (laws_typesOf.calls k4 _ _ l1 t319 _ ?side1 ?side2 A33.out).mono ?_); (case side1 => exact Kd.C_below HR1.out (by repeat (first | (with_reducible first | exact HB.out | apply below_alloc | apply pw_below_drewN | apply below_drew1 | refine below_set ?_ GE310.out | refine below_set ?_ GE318.out) | exact HB.out))); (case side2 => exact HC1.out); rintro e w41 ⟨v320, rfl, ho0, hb⟩; refine ⟨_, rfl, ?_⟩; have n0_ := Aside0.mk (Kd.R_lower ho0 (below_size (by repeat (first | (with_reducible first | exact HB.out | apply below_alloc | apply pw_below_drewN | apply below_drew1 | refine below_set ?_ GE310.out | refine below_set ?_ GE318.out) | exact HB.out)))); have n1_ := Aside0.mk (blk_below (g := gb310) (o := .cells #[.string t305, .string t306, .bool t307, .bool t308] 45 (0, 0)) (by (with_reducible repeat (first | refine blk_drewN ?_ _ | refine blk_drew ?_ | refine blk_alloc ?_ _)); refine blk_far ?_ NB310_318.out _; (with_reducible repeat (first | refine blk_drewN ?_ _ | refine blk_drew ?_ | refine blk_alloc ?_ _)); refine blk_far ?_ NB310_318.out _; (with_reducible repeat (first | refine blk_drewN ?_ _ | refine blk_drew ?_ | refine blk_alloc ?_ _)); refine blk_far ?_ NB310_318.out _; (with_reducible repeat (first | refine blk_drewN ?_ _ | refine blk_drew ?_ | refine blk_alloc ?_ _)); refine blk_far ?_ NB310_318.out _; (with_reducible repeat (first | refine blk_drewN ?_ _ | refine blk_drew ?_ | refine blk_alloc ?_ _)); exact BK310.out) hb); have n2_ := Aside0.mk (blk_below (g := gb318) (o := .cells #[.string t313, .string t314, .bool t315, .bool t316] 45 (0, 0)) (by (with_reducible repeat (first | refine blk_drewN ?_ _ | refine blk_drew ?_ | refine blk_alloc ?_ _)); refine blk_put (cs := #[.string t313, .string t314, .bool t315, .bool false]) ?_ 3 _ rfl; (with_reducible repeat (first | refine blk_drewN ?_ _ | refine blk_drew ?_ | refine blk_alloc ?_ _)); refine blk_put (cs := #[.string t313, .string t314, .bool false, .bool false]) ?_ 2 _ rfl; (with_reducible repeat (first | refine blk_drewN ?_ _ | refine blk_drew ?_ | refine blk_alloc ?_ _)); refine blk_put (cs := #[.string t313, .string (⟨#[]⟩ : ByteArray), .bool false, .bool false]) ?_ 1 _ rfl; (with_reducible repeat (first | refine blk_drewN ?_ _ | refine blk_drew ?_ | refine blk_alloc ?_ _)); refine blk_put (cs := #[.string (⟨#[]⟩ : ByteArray), .string (⟨#[]⟩ : ByteArray), .bool false, .bool false]) ?_ 0 _ rfl; (with_reducible repeat (first | refine blk_drewN ?_ _ | refine blk_drew ?_ | refine blk_alloc ?_ _)); exact BK318.out) hb); have n3_ := Aside0.mk (below_step (by repeat (first | (with_reducible first | exact HB.out | apply below_alloc | apply pw_below_drewN | apply below_drew1 | refine below_set ?_ GE310.out | refine below_set ?_ GE318.out) | exact HB.out)) hb); clear BK310; clear BK318; clear HB; have HO321 := n0_; have BK310 := n1_; have BK318 := n2_; have HB := n3_; clear n0_ n1_ n2_ n3_; (try clear hb); (try clear hb2); (try clear hk); (try clear hi); (try clear ho0); obtain ⟨Ao42, co42, eo42⟩ := Kd.R_slice HO321.out; subst eo42) | ((with_reducible refine gate_callee (f := 40) rfl ?_); refine goesL_ (some 60) rfl rfl Try.func40 (by kernel_rfl) rfl #[.string a0, .slice Ao42 t319.length co42] rfl (by (try simp only [List.map_toArray, List.map_cons, List.map_nil]); first | done | rfl | (simp only [List.length_drop, List.length_take]; rfl)) ?_; (with_reducible refine (spec_TypeOf.calls k4 a0 _ _ t319 t322 t323 t324 t325 t326 _ ?side1 ?side2 A34.out).mono ?_); (case side1 => repeat (first | exact (Kd.R_reads' HO321.out).2.2 | (with_reducible refine Kd.C_alloc ?_ _) | (with_reducible refine Kd.C_drewN ?_ _) | (with_reducible refine Kd.C_drew ?_))); (case side2 => exact (Kd.R_reads' HO321.out).2.1); rintro e w43 ⟨rfl, hb⟩; refine ⟨_, rfl, ?_⟩; have n0_ := Aside0.mk (Kd.R_below (by (with_reducible repeat (first | apply Kd.R_alloc | apply Kd.R_drewN | apply Kd.R_drew)); exact HO321.out) hb); have n1_ := Aside0.mk (blk_below (g := gb310) (o := .cells #[.string t305, .string t306, .bool t307, .bool t308] 45 (0, 0)) (by (with_reducible repeat (first | refine blk_drewN ?_ _ | refine blk_drew ?_ | refine blk_alloc ?_ _)); exact BK310.out) hb); have n2_ := Aside0.mk (blk_below (g := gb318) (o := .cells #[.string t313, .string t314, .bool t315, .bool t316] 45 (0, 0)) (by (with_reducible repeat (first | refine blk_drewN ?_ _ | refine blk_drew ?_ | refine blk_alloc ?_ _)); exact BK318.out) hb); have n3_ := Aside0.mk (below_step (by repeat (first | (with_reducible first | exact HB.out | apply below_alloc | apply pw_below_drewN | apply below_drew1 | refine below_set ?_ GE310.out | refine below_set ?_ GE318.out) | exact HB.out)) hb); clear HO321; clear BK310; clear BK318; clear HB; have HO321 := n0_; have BK310 := n1_; have BK318 := n2_; have HB := n3_; clear n0_ n1_ n2_ n3_; (try clear hb); (try clear hb2); (try clear hk); (try clear hi)) | ((with_reducible refine gate_dst (N := 11) rfl ?_); (try (refine gate_guard (by rfl) ?_; dsimp only)); refine box_event ?hg (N := 11) ?hd (cs := #[.string (⟨#[]⟩ : ByteArray), .string (⟨#[]⟩ : ByteArray), .bool false, .bool false]) (t := 53) ?hr ?_; (case hd => rfl); (case hg => rfl); (case hr => first | (go_simp; done) | (go_simp; rfl)); intro gb327 hg w44 hbox hb; have n0_ := Aside0.mk (Kd.R_below (Kd.R_elderB (by (with_reducible repeat (first | apply Kd.R_alloc | apply Kd.R_drewN | apply Kd.R_drew)); exact HO321.out) gb327 (Nat.le_of_eq hg.symm)) hb); have n1_ := Aside0.mk (blk_below (g := gb310) (o := .cells #[.string t305, .string t306, .bool t307, .bool t308] 45 (0, 0)) (by (with_reducible repeat (first | refine blk_drewN ?_ _ | refine blk_drew ?_ | refine blk_alloc ?_ _)); exact BK310.out) hb); have n2_ := Aside0.mk (blk_below (g := gb318) (o := .cells #[.string t313, .string t314, .bool t315, .bool t316] 45 (0, 0)) (by (with_reducible repeat (first | refine blk_drewN ?_ _ | refine blk_drew ?_ | refine blk_alloc ?_ _)); exact BK318.out) hb); have n3_ := Aside0.mk (below_step (by repeat (first | (with_reducible first | exact HB.out | apply below_alloc | apply pw_below_drewN | apply below_drew1 | refine below_set ?_ GE310.out | refine below_set ?_ GE318.out) | exact HB.out)) hb); have n4_ := Aside0.mk (hbox); have n5_ := Aside0.mk ((by rw [hg]; exact (below_size (by repeat (first | (with_reducible first | exact HB.out | apply below_alloc | apply pw_below_drewN | apply below_drew1 | refine below_set ?_ GE310.out | refine below_set ?_ GE318.out) | exact HB.out))) : w.heap.size ≤ gb327)); have n6_ := Aside0.mk ((by rw [hg]; exact (below_size (by repeat (first | (with_reducible first | exact HB.out | apply below_alloc | apply pw_below_drewN | apply below_drew1 | refine below_set ?_ GE310.out | refine below_set ?_ GE318.out) | exact HB.out))) : w.heap.size ≤ gb327)); have n7_ := Aside0.mk ((by rw [hg]; exact Nat.ne_of_lt (blk_lt (g := gb310) (o := .cells #[.string t305, .string t306, .bool t307, .bool t308] 45 (0, 0)) (by (with_reducible repeat (first | refine blk_drewN ?_ _ | refine blk_drew ?_ | refine blk_alloc ?_ _)); exact BK310.out)) : gb310 ≠ gb327)); have n8_ := Aside0.mk ((by rw [hg]; exact Nat.ne_of_gt (blk_lt (g := gb310) (o := .cells #[.string t305, .string t306, .bool t307, .bool t308] 45 (0, 0)) (by (with_reducible repeat (first | refine blk_drewN ?_ _ | refine blk_drew ?_ | refine blk_alloc ?_ _)); exact BK310.out)) : gb327 ≠ gb310)); have n9_ := Aside0.mk ((by rw [hg]; exact Nat.ne_of_lt (blk_lt (g := gb318) (o := .cells #[.string t313, .string t314, .bool t315, .bool t316] 45 (0, 0)) (by (with_reducible repeat (first | refine blk_drewN ?_ _ | refine blk_drew ?_ | refine blk_alloc ?_ _)); exact BK318.out)) : gb318 ≠ gb327)); have n10_ := Aside0.mk ((by rw [hg]; exact Nat.ne_of_gt (blk_lt (g := gb318) (o := .cells #[.string t313, .string t314, .bool t315, .bool t316] 45 (0, 0)) (by (with_reducible repeat (first | refine blk_drewN ?_ _ | refine blk_drew ?_ | refine blk_alloc ?_ _)); exact BK318.out)) : gb327 ≠ gb318)); clear HO321; clear BK310; clear BK318; clear HB; have HO321 := n0_; have BK310 := n1_; have BK318 := n2_; have HB := n3_; have BK327 := n4_; have GW327 := n5_; have GE327 := n6_; have NB310_327 := n7_; have NB327_310 := n8_; have NB318_327 := n9_; have NB327_318 := n10_; clear n0_ n1_ n2_ n3_ n4_ n5_ n6_ n7_ n8_ n9_ n10_; clear hb hbox hg; have hnb45 := NB327_310.out; have hnc45 := NB310_327.out; have hnb46 := NB327_318.out; have hnc46 := NB318_327.out; have hcz47_0 : w44.cell? ⟨gb327, 0, none⟩ = some (.string (⟨#[]⟩ : ByteArray)) := (blk_cell BK327.out 0).trans rfl; have hcz47_1 : w44.cell? ⟨gb327, 1, none⟩ = some (.string (⟨#[]⟩ : ByteArray)) := (blk_cell BK327.out 1).trans rfl; have hcz47_2 : w44.cell? ⟨gb327, 2, none⟩ = some (.bool false) := (blk_cell BK327.out 2).trans rfl; have hcz47_3 : w44.cell? ⟨gb327, 3, none⟩ = some (.bool false) := (blk_cell BK327.out 3).trans rfl; have hfz47_0 := blk_frozen BK327.out 0; have hfz47_1 := blk_frozen BK327.out 1; have hfz47_2 := blk_frozen BK327.out 2; have hfz47_3 := blk_frozen BK327.out 3; have hcz48_0 : w44.cell? ⟨gb318, 0, none⟩ = some (.string t313) := (blk_cell BK318.out 0).trans rfl; have hcz48_1 : w44.cell? ⟨gb318, 1, none⟩ = some (.string t314) := (blk_cell BK318.out 1).trans rfl; have hcz48_2 : w44.cell? ⟨gb318, 2, none⟩ = some (.bool t315) := (blk_cell BK318.out 2).trans rfl; have hcz48_3 : w44.cell? ⟨gb318, 3, none⟩ = some (.bool t316) := (blk_cell BK318.out 3).trans rfl; have hfz48_0 := blk_frozen BK318.out 0; have hfz48_1 := blk_frozen BK318.out 1; have hfz48_2 := blk_frozen BK318.out 2; have hfz48_3 := blk_frozen BK318.out 3))
                              all_goals go_ret
                              all_goals exact ⟨by first | rfl | (simp [errW_none, errW_some] <;> rfl) | (simp [*, errW_none, errW_some] <;> rfl), by repeat (first | (with_reducible first | exact HB.out | apply below_alloc | apply pw_below_drewN | apply below_drew1 | refine below_set ?_ GE310.out | refine below_set ?_ GE318.out | refine below_set ?_ GE327.out) | exact HB.out)⟩
                            · replace c36 := Bool.eq_false_iff.mpr c36
                              subst c36
                              have H1 : (some true) = some r := by rw [if_neg (show ¬ (false = true) by decide)] at H; exact H
                              clear H
                              have H := H1
                              clear H1
                              obtain rfl := Option.some.inj H
                              go_wp2_with (first | ((with_reducible refine gate_callee (f := 39) rfl ?_); refine goesL_ (some 53) rfl rfl Try.func39 (by kernel_rfl) rfl #[.string a0, .slice A1 l1.length c1] rfl (by (try simp only [List.map_toArray, List.map_cons, List.map_nil]); first | done | rfl | (simp only [List.length_drop, List.length_take]; rfl)) ?_; (with_reducible refine (impl_TypeOf.calls a0 _ _ l1 t313 t314 t315 t316 false _ ?side1 ?side2 A32.out).mono ?_); (case side1 => repeat (first | exact (Kd.C_below HR1.out HB.out) | (with_reducible refine Kd.C_alloc ?_ _) | (with_reducible refine Kd.C_drewN ?_ _) | (with_reducible refine Kd.C_drew ?_))); (case side2 => exact HC1.out); rintro e w49 ⟨rfl, hb⟩; refine ⟨_, rfl, ?_⟩; have n0_ := Aside0.mk (blk_below (g := gb310) (o := .cells #[.string t305, .string t306, .bool t307, .bool t308] 45 (0, 0)) (by (with_reducible repeat (first | refine blk_drewN ?_ _ | refine blk_drew ?_ | refine blk_alloc ?_ _)); exact BK310.out) hb); have n1_ := Aside0.mk (below_step (by repeat (first | (with_reducible first | exact HB.out | apply below_alloc | apply pw_below_drewN | apply below_drew1 | refine below_set ?_ GE310.out) | exact HB.out)) hb); clear BK310; clear HB; have BK310 := n0_; have HB := n1_; clear n0_ n1_; (try clear hb); (try clear hb2); (try clear hk); (try clear hi)) | ((with_reducible refine gate_dst (N := 9) rfl ?_); (try (refine gate_guard (by rfl) ?_; dsimp only)); refine box_event ?hg (N := 9) ?hd (cs := #[.string (⟨#[]⟩ : ByteArray), .string (⟨#[]⟩ : ByteArray), .bool false, .bool false]) (t := 45) ?hr ?_; (case hd => rfl); (case hg => rfl); (case hr => first | (go_simp; done) | (go_simp; rfl)); intro gb318 hg w50 hbox hb; have n0_ := Aside0.mk (blk_below (g := gb310) (o := .cells #[.string t305, .string t306, .bool t307, .bool t308] 45 (0, 0)) (by (with_reducible repeat (first | refine blk_drewN ?_ _ | refine blk_drew ?_ | refine blk_alloc ?_ _)); exact BK310.out) hb); have n1_ := Aside0.mk (below_step (by repeat (first | (with_reducible first | exact HB.out | apply below_alloc | apply pw_below_drewN | apply below_drew1 | refine below_set ?_ GE310.out) | exact HB.out)) hb); have n2_ := Aside0.mk (hbox); have n3_ := Aside0.mk ((by rw [hg]; exact (below_size (by repeat (first | (with_reducible first | exact HB.out | apply below_alloc | apply pw_below_drewN | apply below_drew1 | refine below_set ?_ GE310.out) | exact HB.out))) : w.heap.size ≤ gb318)); have n4_ := Aside0.mk ((by rw [hg]; exact (below_size (by repeat (first | (with_reducible first | exact HB.out | apply below_alloc | apply pw_below_drewN | apply below_drew1 | refine below_set ?_ GE310.out) | exact HB.out))) : w.heap.size ≤ gb318)); have n5_ := Aside0.mk ((by rw [hg]; exact Nat.ne_of_lt (blk_lt (g := gb310) (o := .cells #[.string t305, .string t306, .bool t307, .bool t308] 45 (0, 0)) (by (with_reducible repeat (first | refine blk_drewN ?_ _ | refine blk_drew ?_ | refine blk_alloc ?_ _)); exact BK310.out)) : gb310 ≠ gb318)); have n6_ := Aside0.mk ((by rw [hg]; exact Nat.ne_of_gt (blk_lt (g := gb310) (o := .cells #[.string t305, .string t306, .bool t307, .bool t308] 45 (0, 0)) (by (with_reducible repeat (first | refine blk_drewN ?_ _ | refine blk_drew ?_ | refine blk_alloc ?_ _)); exact BK310.out)) : gb318 ≠ gb310)); clear BK310; clear HB; have BK310 := n0_; have HB := n1_; have BK318 := n2_; have GW318 := n3_; have GE318 := n4_; have NB310_318 := n5_; have NB318_310 := n6_; clear n0_ n1_ n2_ n3_ n4_ n5_ n6_; clear hb hbox hg; have hnb51 := NB318_310.out; have hnc51 := NB310_318.out; have hcz52_0 : w50.cell? ⟨gb318, 0, none⟩ = some (.string (⟨#[]⟩ : ByteArray)) := (blk_cell BK318.out 0).trans rfl; have hcz52_1 : w50.cell? ⟨gb318, 1, none⟩ = some (.string (⟨#[]⟩ : ByteArray)) := (blk_cell BK318.out 1).trans rfl; have hcz52_2 : w50.cell? ⟨gb318, 2, none⟩ = some (.bool false) := (blk_cell BK318.out 2).trans rfl; have hcz52_3 : w50.cell? ⟨gb318, 3, none⟩ = some (.bool false) := (blk_cell BK318.out 3).trans rfl; have hfz52_0 := blk_frozen BK318.out 0; have hfz52_1 := blk_frozen BK318.out 1; have hfz52_2 := blk_frozen BK318.out 2; have hfz52_3 := blk_frozen BK318.out 3) | ((with_reducible refine gate_callee (f := 41) rfl ?_); refine goesL_ (some 59) rfl rfl Try.func41 (by kernel_rfl) rfl #[.slice A1 l1.length c1] rfl (by (try simp only [List.map_toArray, List.map_cons, List.map_nil]); first | done | rfl | (simp only [List.length_drop, List.length_take]; rfl)) ?_; (with_reducible refine (laws_typesOf.calls k4 _ _ l1 t319 _ ?side1 ?side2 A33.out).mono ?_); (case side1 => exact Kd.C_below HR1.out (by repeat (first | (with_reducible first | exact HB.out | apply below_alloc | apply pw_below_drewN | apply below_drew1 | refine below_set ?_ GE310.out | refine below_set ?_ GE318.out) | exact HB.out))); (case side2 => exact HC1.out); rintro e w53 ⟨v320, rfl, ho0, hb⟩; refine ⟨_, rfl, ?_⟩; have n0_ := Aside0.mk (Kd.R_lower ho0 (below_size (by repeat (first | (with_reducible first | exact HB.out | apply below_alloc | apply pw_below_drewN | apply below_drew1 | refine below_set ?_ GE310.out | refine below_set ?_ GE318.out) | exact HB.out)))); have n1_ := Aside0.mk (blk_below (g := gb310) (o := .cells #[.string t305, .string t306, .bool t307, .bool t308] 45 (0, 0)) (by (with_reducible repeat (first | refine blk_drewN ?_ _ | refine blk_drew ?_ | refine blk_alloc ?_ _)); refine blk_far ?_ NB310_318.out _; (with_reducible repeat (first | refine blk_drewN ?_ _ | refine blk_drew ?_ | refine blk_alloc ?_ _)); refine blk_far ?_ NB310_318.out _; (with_reducible repeat (first | refine blk_drewN ?_ _ | refine blk_drew ?_ | refine blk_alloc ?_ _)); refine blk_far ?_ NB310_318.out _; (with_reducible repeat (first | refine blk_drewN ?_ _ | refine blk_drew ?_ | refine blk_alloc ?_ _)); refine blk_far ?_ NB310_318.out _; (with_reducible repeat (first | refine blk_drewN ?_ _ | refine blk_drew ?_ | refine blk_alloc ?_ _)); exact BK310.out) hb); have n2_ := Aside0.mk (blk_below (g := gb318) (o := .cells #[.string t313, .string t314, .bool t315, .bool t316] 45 (0, 0)) (by (with_reducible repeat (first | refine blk_drewN ?_ _ | refine blk_drew ?_ | refine blk_alloc ?_ _)); refine blk_put (cs := #[.string t313, .string t314, .bool t315, .bool false]) ?_ 3 _ rfl; (with_reducible repeat (first | refine blk_drewN ?_ _ | refine blk_drew ?_ | refine blk_alloc ?_ _)); refine blk_put (cs := #[.string t313, .string t314, .bool false, .bool false]) ?_ 2 _ rfl; (with_reducible repeat (first | refine blk_drewN ?_ _ | refine blk_drew ?_ | refine blk_alloc ?_ _)); refine blk_put (cs := #[.string t313, .string (⟨#[]⟩ : ByteArray), .bool false, .bool false]) ?_ 1 _ rfl; (with_reducible repeat (first | refine blk_drewN ?_ _ | refine blk_drew ?_ | refine blk_alloc ?_ _)); refine blk_put (cs := #[.string (⟨#[]⟩ : ByteArray), .string (⟨#[]⟩ : ByteArray), .bool false, .bool false]) ?_ 0 _ rfl; (with_reducible repeat (first | refine blk_drewN ?_ _ | refine blk_drew ?_ | refine blk_alloc ?_ _)); exact BK318.out) hb); have n3_ := Aside0.mk (below_step (by repeat (first | (with_reducible first | exact HB.out | apply below_alloc | apply pw_below_drewN | apply below_drew1 | refine below_set ?_ GE310.out | refine below_set ?_ GE318.out) | exact HB.out)) hb); clear BK310; clear BK318; clear HB; have HO321 := n0_; have BK310 := n1_; have BK318 := n2_; have HB := n3_; clear n0_ n1_ n2_ n3_; (try clear hb); (try clear hb2); (try clear hk); (try clear hi); (try clear ho0); obtain ⟨Ao54, co54, eo54⟩ := Kd.R_slice HO321.out; subst eo54) | ((with_reducible refine gate_callee (f := 40) rfl ?_); refine goesL_ (some 60) rfl rfl Try.func40 (by kernel_rfl) rfl #[.string a0, .slice Ao54 t319.length co54] rfl (by (try simp only [List.map_toArray, List.map_cons, List.map_nil]); first | done | rfl | (simp only [List.length_drop, List.length_take]; rfl)) ?_; (with_reducible refine (spec_TypeOf.calls k4 a0 _ _ t319 t322 t323 t324 t325 t326 _ ?side1 ?side2 A34.out).mono ?_); (case side1 => repeat (first | exact (Kd.R_reads' HO321.out).2.2 | (with_reducible refine Kd.C_alloc ?_ _) | (with_reducible refine Kd.C_drewN ?_ _) | (with_reducible refine Kd.C_drew ?_))); (case side2 => exact (Kd.R_reads' HO321.out).2.1); rintro e w55 ⟨rfl, hb⟩; refine ⟨_, rfl, ?_⟩; have n0_ := Aside0.mk (Kd.R_below (by (with_reducible repeat (first | apply Kd.R_alloc | apply Kd.R_drewN | apply Kd.R_drew)); exact HO321.out) hb); have n1_ := Aside0.mk (blk_below (g := gb310) (o := .cells #[.string t305, .string t306, .bool t307, .bool t308] 45 (0, 0)) (by (with_reducible repeat (first | refine blk_drewN ?_ _ | refine blk_drew ?_ | refine blk_alloc ?_ _)); exact BK310.out) hb); have n2_ := Aside0.mk (blk_below (g := gb318) (o := .cells #[.string t313, .string t314, .bool t315, .bool t316] 45 (0, 0)) (by (with_reducible repeat (first | refine blk_drewN ?_ _ | refine blk_drew ?_ | refine blk_alloc ?_ _)); exact BK318.out) hb); have n3_ := Aside0.mk (below_step (by repeat (first | (with_reducible first | exact HB.out | apply below_alloc | apply pw_below_drewN | apply below_drew1 | refine below_set ?_ GE310.out | refine below_set ?_ GE318.out) | exact HB.out)) hb); clear HO321; clear BK310; clear BK318; clear HB; have HO321 := n0_; have BK310 := n1_; have BK318 := n2_; have HB := n3_; clear n0_ n1_ n2_ n3_; (try clear hb); (try clear hb2); (try clear hk); (try clear hi)) | ((with_reducible refine gate_dst (N := 11) rfl ?_); (try (refine gate_guard (by rfl) ?_; dsimp only)); refine box_event ?hg (N := 11) ?hd (cs := #[.string (⟨#[]⟩ : ByteArray), .string (⟨#[]⟩ : ByteArray), .bool false, .bool false]) (t := 53) ?hr ?_; (case hd => rfl); (case hg => rfl); (case hr => first | (go_simp; done) | (go_simp; rfl)); intro gb327 hg w56 hbox hb; have n0_ := Aside0.mk (Kd.R_below (Kd.R_elderB (by (with_reducible repeat (first | apply Kd.R_alloc | apply Kd.R_drewN | apply Kd.R_drew)); exact HO321.out) gb327 (Nat.le_of_eq hg.symm)) hb); have n1_ := Aside0.mk (blk_below (g := gb310) (o := .cells #[.string t305, .string t306, .bool t307, .bool t308] 45 (0, 0)) (by (with_reducible repeat (first | refine blk_drewN ?_ _ | refine blk_drew ?_ | refine blk_alloc ?_ _)); exact BK310.out) hb); have n2_ := Aside0.mk (blk_below (g := gb318) (o := .cells #[.string t313, .string t314, .bool t315, .bool t316] 45 (0, 0)) (by (with_reducible repeat (first | refine blk_drewN ?_ _ | refine blk_drew ?_ | refine blk_alloc ?_ _)); exact BK318.out) hb); have n3_ := Aside0.mk (below_step (by repeat (first | (with_reducible first | exact HB.out | apply below_alloc | apply pw_below_drewN | apply below_drew1 | refine below_set ?_ GE310.out | refine below_set ?_ GE318.out) | exact HB.out)) hb); have n4_ := Aside0.mk (hbox); have n5_ := Aside0.mk ((by rw [hg]; exact (below_size (by repeat (first | (with_reducible first | exact HB.out | apply below_alloc | apply pw_below_drewN | apply below_drew1 | refine below_set ?_ GE310.out | refine below_set ?_ GE318.out) | exact HB.out))) : w.heap.size ≤ gb327)); have n6_ := Aside0.mk ((by rw [hg]; exact (below_size (by repeat (first | (with_reducible first | exact HB.out | apply below_alloc | apply pw_below_drewN | apply below_drew1 | refine below_set ?_ GE310.out | refine below_set ?_ GE318.out) | exact HB.out))) : w.heap.size ≤ gb327)); have n7_ := Aside0.mk ((by rw [hg]; exact Nat.ne_of_lt (blk_lt (g := gb310) (o := .cells #[.string t305, .string t306, .bool t307, .bool t308] 45 (0, 0)) (by (with_reducible repeat (first | refine blk_drewN ?_ _ | refine blk_drew ?_ | refine blk_alloc ?_ _)); exact BK310.out)) : gb310 ≠ gb327)); have n8_ := Aside0.mk ((by rw [hg]; exact Nat.ne_of_gt (blk_lt (g := gb310) (o := .cells #[.string t305, .string t306, .bool t307, .bool t308] 45 (0, 0)) (by (with_reducible repeat (first | refine blk_drewN ?_ _ | refine blk_drew ?_ | refine blk_alloc ?_ _)); exact BK310.out)) : gb327 ≠ gb310)); have n9_ := Aside0.mk ((by rw [hg]; exact Nat.ne_of_lt (blk_lt (g := gb318) (o := .cells #[.string t313, .string t314, .bool t315, .bool t316] 45 (0, 0)) (by (with_reducible repeat (first | refine blk_drewN ?_ _ | refine blk_drew ?_ | refine blk_alloc ?_ _)); exact BK318.out)) : gb318 ≠ gb327)); have n10_ := Aside0.mk ((by rw [hg]; exact Nat.ne_of_gt (blk_lt (g := gb318) (o := .cells #[.string t313, .string t314, .bool t315, .bool t316] 45 (0, 0)) (by (with_reducible repeat (first | refine blk_drewN ?_ _ | refine blk_drew ?_ | refine blk_alloc ?_ _)); exact BK318.out)) : gb327 ≠ gb318)); clear HO321; clear BK310; clear BK318; clear HB; have HO321 := n0_; have BK310 := n1_; have BK318 := n2_; have HB := n3_; have BK327 := n4_; have GW327 := n5_; have GE327 := n6_; have NB310_327 := n7_; have NB327_310 := n8_; have NB318_327 := n9_; have NB327_318 := n10_; clear n0_ n1_ n2_ n3_ n4_ n5_ n6_ n7_ n8_ n9_ n10_; clear hb hbox hg; have hnb57 := NB327_310.out; have hnc57 := NB310_327.out; have hnb58 := NB327_318.out; have hnc58 := NB318_327.out; have hcz59_0 : w56.cell? ⟨gb327, 0, none⟩ = some (.string (⟨#[]⟩ : ByteArray)) := (blk_cell BK327.out 0).trans rfl; have hcz59_1 : w56.cell? ⟨gb327, 1, none⟩ = some (.string (⟨#[]⟩ : ByteArray)) := (blk_cell BK327.out 1).trans rfl; have hcz59_2 : w56.cell? ⟨gb327, 2, none⟩ = some (.bool false) := (blk_cell BK327.out 2).trans rfl; have hcz59_3 : w56.cell? ⟨gb327, 3, none⟩ = some (.bool false) := (blk_cell BK327.out 3).trans rfl; have hfz59_0 := blk_frozen BK327.out 0; have hfz59_1 := blk_frozen BK327.out 1; have hfz59_2 := blk_frozen BK327.out 2; have hfz59_3 := blk_frozen BK327.out 3))
                              all_goals go_ret
                              all_goals exact ⟨by first | rfl | (simp [errW_none, errW_some] <;> rfl) | (simp [*, errW_none, errW_some] <;> rfl), by repeat (first | (with_reducible first | exact HB.out | apply below_alloc | apply pw_below_drewN | apply below_drew1 | refine below_set ?_ GE310.out | refine below_set ?_ GE318.out | refine below_set ?_ GE327.out) | exact HB.out)⟩
                          · rw [if_neg c35] at H
                            have c35b0 : (t317 == t326) = false := by simpa using c35
                            (try (have c35b1 : decide (t317 = t326) = false := by simpa using c35))
                            (try (have c35b2 : (t317 == t326) = false := by simpa using c35))
                            (try (have c35b3 : ¬ (t317 = t326) := by simpa using c35))
                            clear c35
                            obtain rfl := Option.some.inj H
                            go_wp2_with (first | ((with_reducible refine gate_callee (f := 39) rfl ?_); refine goesL_ (some 53) rfl rfl Try.func39 (by kernel_rfl) rfl #[.string a0, .slice A1 l1.length c1] rfl (by (try simp only [List.map_toArray, List.map_cons, List.map_nil]); first | done | rfl | (simp only [List.length_drop, List.length_take]; rfl)) ?_; (with_reducible refine (impl_TypeOf.calls a0 _ _ l1 t313 t314 t315 t316 t317 _ ?side1 ?side2 A32.out).mono ?_); (case side1 => repeat (first | exact (Kd.C_below HR1.out HB.out) | (with_reducible refine Kd.C_alloc ?_ _) | (with_reducible refine Kd.C_drewN ?_ _) | (with_reducible refine Kd.C_drew ?_))); (case side2 => exact HC1.out); rintro e w60 ⟨rfl, hb⟩; refine ⟨_, rfl, ?_⟩; have n0_ := Aside0.mk (blk_below (g := gb310) (o := .cells #[.string t305, .string t306, .bool t307, .bool t308] 45 (0, 0)) (by (with_reducible repeat (first | refine blk_drewN ?_ _ | refine blk_drew ?_ | refine blk_alloc ?_ _)); exact BK310.out) hb); have n1_ := Aside0.mk (below_step (by repeat (first | (with_reducible first | exact HB.out | apply below_alloc | apply pw_below_drewN | apply below_drew1 | refine below_set ?_ GE310.out) | exact HB.out)) hb); clear BK310; clear HB; have BK310 := n0_; have HB := n1_; clear n0_ n1_; (try clear hb); (try clear hb2); (try clear hk); (try clear hi)) | ((with_reducible refine gate_dst (N := 9) rfl ?_); (try (refine gate_guard (by rfl) ?_; dsimp only)); refine box_event ?hg (N := 9) ?hd (cs := #[.string (⟨#[]⟩ : ByteArray), .string (⟨#[]⟩ : ByteArray), .bool false, .bool false]) (t := 45) ?hr ?_; (case hd => rfl); (case hg => rfl); (case hr => first | (go_simp; done) | (go_simp; rfl)); intro gb318 hg w61 hbox hb; have n0_ := Aside0.mk (blk_below (g := gb310) (o := .cells #[.string t305, .string t306, .bool t307, .bool t308] 45 (0, 0)) (by (with_reducible repeat (first | refine blk_drewN ?_ _ | refine blk_drew ?_ | refine blk_alloc ?_ _)); exact BK310.out) hb); have n1_ := Aside0.mk (below_step (by repeat (first | (with_reducible first | exact HB.out | apply below_alloc | apply pw_below_drewN | apply below_drew1 | refine below_set ?_ GE310.out) | exact HB.out)) hb); have n2_ := Aside0.mk (hbox); have n3_ := Aside0.mk ((by rw [hg]; exact (below_size (by repeat (first | (with_reducible first | exact HB.out | apply below_alloc | apply pw_below_drewN | apply below_drew1 | refine below_set ?_ GE310.out) | exact HB.out))) : w.heap.size ≤ gb318)); have n4_ := Aside0.mk ((by rw [hg]; exact (below_size (by repeat (first | (with_reducible first | exact HB.out | apply below_alloc | apply pw_below_drewN | apply below_drew1 | refine below_set ?_ GE310.out) | exact HB.out))) : w.heap.size ≤ gb318)); have n5_ := Aside0.mk ((by rw [hg]; exact Nat.ne_of_lt (blk_lt (g := gb310) (o := .cells #[.string t305, .string t306, .bool t307, .bool t308] 45 (0, 0)) (by (with_reducible repeat (first | refine blk_drewN ?_ _ | refine blk_drew ?_ | refine blk_alloc ?_ _)); exact BK310.out)) : gb310 ≠ gb318)); have n6_ := Aside0.mk ((by rw [hg]; exact Nat.ne_of_gt (blk_lt (g := gb310) (o := .cells #[.string t305, .string t306, .bool t307, .bool t308] 45 (0, 0)) (by (with_reducible repeat (first | refine blk_drewN ?_ _ | refine blk_drew ?_ | refine blk_alloc ?_ _)); exact BK310.out)) : gb318 ≠ gb310)); clear BK310; clear HB; have BK310 := n0_; have HB := n1_; have BK318 := n2_; have GW318 := n3_; have GE318 := n4_; have NB310_318 := n5_; have NB318_310 := n6_; clear n0_ n1_ n2_ n3_ n4_ n5_ n6_; clear hb hbox hg; have hnb62 := NB318_310.out; have hnc62 := NB310_318.out; have hcz63_0 : w61.cell? ⟨gb318, 0, none⟩ = some (.string (⟨#[]⟩ : ByteArray)) := (blk_cell BK318.out 0).trans rfl; have hcz63_1 : w61.cell? ⟨gb318, 1, none⟩ = some (.string (⟨#[]⟩ : ByteArray)) := (blk_cell BK318.out 1).trans rfl; have hcz63_2 : w61.cell? ⟨gb318, 2, none⟩ = some (.bool false) := (blk_cell BK318.out 2).trans rfl; have hcz63_3 : w61.cell? ⟨gb318, 3, none⟩ = some (.bool false) := (blk_cell BK318.out 3).trans rfl; have hfz63_0 := blk_frozen BK318.out 0; have hfz63_1 := blk_frozen BK318.out 1; have hfz63_2 := blk_frozen BK318.out 2; have hfz63_3 := blk_frozen BK318.out 3) | ((with_reducible refine gate_callee (f := 41) rfl ?_); refine goesL_ (some 59) rfl rfl Try.func41 (by kernel_rfl) rfl #[.slice A1 l1.length c1] rfl (by (try simp only [List.map_toArray, List.map_cons, List.map_nil]); first | done | rfl | (simp only [List.length_drop, List.length_take]; rfl)) ?_; (with_reducible refine (laws_typesOf.calls k4 _ _ l1 t319 _ ?side1 ?side2 A33.out).mono ?_); (case side1 => exact Kd.C_below HR1.out (by repeat (first | (with_reducible first | exact HB.out | apply below_alloc | apply pw_below_drewN | apply below_drew1 | refine below_set ?_ GE310.out | refine below_set ?_ GE318.out) | exact HB.out))); (case side2 => exact HC1.out); rintro e w64 ⟨v320, rfl, ho0, hb⟩; refine ⟨_, rfl, ?_⟩; have n0_ := Aside0.mk (Kd.R_lower ho0 (below_size (by repeat (first | (with_reducible first | exact HB.out | apply below_alloc | apply pw_below_drewN | apply below_drew1 | refine below_set ?_ GE310.out | refine below_set ?_ GE318.out) | exact HB.out)))); have n1_ := Aside0.mk (blk_below (g := gb310) (o := .cells #[.string t305, .string t306, .bool t307, .bool t308] 45 (0, 0)) (by (with_reducible repeat (first | refine blk_drewN ?_ _ | refine blk_drew ?_ | refine blk_alloc ?_ _)); refine blk_far ?_ NB310_318.out _; (with_reducible repeat (first | refine blk_drewN ?_ _ | refine blk_drew ?_ | refine blk_alloc ?_ _)); refine blk_far ?_ NB310_318.out _; (with_reducible repeat (first | refine blk_drewN ?_ _ | refine blk_drew ?_ | refine blk_alloc ?_ _)); refine blk_far ?_ NB310_318.out _; (with_reducible repeat (first | refine blk_drewN ?_ _ | refine blk_drew ?_ | refine blk_alloc ?_ _)); refine blk_far ?_ NB310_318.out _; (with_reducible repeat (first | refine blk_drewN ?_ _ | refine blk_drew ?_ | refine blk_alloc ?_ _)); exact BK310.out) hb); have n2_ := Aside0.mk (blk_below (g := gb318) (o := .cells #[.string t313, .string t314, .bool t315, .bool t316] 45 (0, 0)) (by (with_reducible repeat (first | refine blk_drewN ?_ _ | refine blk_drew ?_ | refine blk_alloc ?_ _)); refine blk_put (cs := #[.string t313, .string t314, .bool t315, .bool false]) ?_ 3 _ rfl; (with_reducible repeat (first | refine blk_drewN ?_ _ | refine blk_drew ?_ | refine blk_alloc ?_ _)); refine blk_put (cs := #[.string t313, .string t314, .bool false, .bool false]) ?_ 2 _ rfl; (with_reducible repeat (first | refine blk_drewN ?_ _ | refine blk_drew ?_ | refine blk_alloc ?_ _)); refine blk_put (cs := #[.string t313, .string (⟨#[]⟩ : ByteArray), .bool false, .bool false]) ?_ 1 _ rfl; (with_reducible repeat (first | refine blk_drewN ?_ _ | refine blk_drew ?_ | refine blk_alloc ?_ _)); refine blk_put (cs := #[.string (⟨#[]⟩ : ByteArray), .string (⟨#[]⟩ : ByteArray), .bool false, .bool false]) ?_ 0 _ rfl; (with_reducible repeat (first | refine blk_drewN ?_ _ | refine blk_drew ?_ | refine blk_alloc ?_ _)); exact BK318.out) hb); have n3_ := Aside0.mk (below_step (by repeat (first | (with_reducible first | exact HB.out | apply below_alloc | apply pw_below_drewN | apply below_drew1 | refine below_set ?_ GE310.out | refine below_set ?_ GE318.out) | exact HB.out)) hb); clear BK310; clear BK318; clear HB; have HO321 := n0_; have BK310 := n1_; have BK318 := n2_; have HB := n3_; clear n0_ n1_ n2_ n3_; (try clear hb); (try clear hb2); (try clear hk); (try clear hi); (try clear ho0); obtain ⟨Ao65, co65, eo65⟩ := Kd.R_slice HO321.out; subst eo65) | ((with_reducible refine gate_callee (f := 40) rfl ?_); refine goesL_ (some 60) rfl rfl Try.func40 (by kernel_rfl) rfl #[.string a0, .slice Ao65 t319.length co65] rfl (by (try simp only [List.map_toArray, List.map_cons, List.map_nil]); first | done | rfl | (simp only [List.length_drop, List.length_take]; rfl)) ?_; (with_reducible refine (spec_TypeOf.calls k4 a0 _ _ t319 t322 t323 t324 t325 t326 _ ?side1 ?side2 A34.out).mono ?_); (case side1 => repeat (first | exact (Kd.R_reads' HO321.out).2.2 | (with_reducible refine Kd.C_alloc ?_ _) | (with_reducible refine Kd.C_drewN ?_ _) | (with_reducible refine Kd.C_drew ?_))); (case side2 => exact (Kd.R_reads' HO321.out).2.1); rintro e w66 ⟨rfl, hb⟩; refine ⟨_, rfl, ?_⟩; have n0_ := Aside0.mk (Kd.R_below (by (with_reducible repeat (first | apply Kd.R_alloc | apply Kd.R_drewN | apply Kd.R_drew)); exact HO321.out) hb); have n1_ := Aside0.mk (blk_below (g := gb310) (o := .cells #[.string t305, .string t306, .bool t307, .bool t308] 45 (0, 0)) (by (with_reducible repeat (first | refine blk_drewN ?_ _ | refine blk_drew ?_ | refine blk_alloc ?_ _)); exact BK310.out) hb); have n2_ := Aside0.mk (blk_below (g := gb318) (o := .cells #[.string t313, .string t314, .bool t315, .bool t316] 45 (0, 0)) (by (with_reducible repeat (first | refine blk_drewN ?_ _ | refine blk_drew ?_ | refine blk_alloc ?_ _)); exact BK318.out) hb); have n3_ := Aside0.mk (below_step (by repeat (first | (with_reducible first | exact HB.out | apply below_alloc | apply pw_below_drewN | apply below_drew1 | refine below_set ?_ GE310.out | refine below_set ?_ GE318.out) | exact HB.out)) hb); clear HO321; clear BK310; clear BK318; clear HB; have HO321 := n0_; have BK310 := n1_; have BK318 := n2_; have HB := n3_; clear n0_ n1_ n2_ n3_; (try clear hb); (try clear hb2); (try clear hk); (try clear hi)) | ((with_reducible refine gate_dst (N := 11) rfl ?_); (try (refine gate_guard (by rfl) ?_; dsimp only)); refine box_event ?hg (N := 11) ?hd (cs := #[.string (⟨#[]⟩ : ByteArray), .string (⟨#[]⟩ : ByteArray), .bool false, .bool false]) (t := 53) ?hr ?_; (case hd => rfl); (case hg => rfl); (case hr => first | (go_simp; done) | (go_simp; rfl)); intro gb327 hg w67 hbox hb; have n0_ := Aside0.mk (Kd.R_below (Kd.R_elderB (by (with_reducible repeat (first | apply Kd.R_alloc | apply Kd.R_drewN | apply Kd.R_drew)); exact HO321.out) gb327 (Nat.le_of_eq hg.symm)) hb); have n1_ := Aside0.mk (blk_below (g := gb310) (o := .cells #[.string t305, .string t306, .bool t307, .bool t308] 45 (0, 0)) (by (with_reducible repeat (first | refine blk_drewN ?_ _ | refine blk_drew ?_ | refine blk_alloc ?_ _)); exact BK310.out) hb); have n2_ := Aside0.mk (blk_below (g := gb318) (o := .cells #[.string t313, .string t314, .bool t315, .bool t316] 45 (0, 0)) (by (with_reducible repeat (first | refine blk_drewN ?_ _ | refine blk_drew ?_ | refine blk_alloc ?_ _)); exact BK318.out) hb); have n3_ := Aside0.mk (below_step (by repeat (first | (with_reducible first | exact HB.out | apply below_alloc | apply pw_below_drewN | apply below_drew1 | refine below_set ?_ GE310.out | refine below_set ?_ GE318.out) | exact HB.out)) hb); have n4_ := Aside0.mk (hbox); have n5_ := Aside0.mk ((by rw [hg]; exact (below_size (by repeat (first | (with_reducible first | exact HB.out | apply below_alloc | apply pw_below_drewN | apply below_drew1 | refine below_set ?_ GE310.out | refine below_set ?_ GE318.out) | exact HB.out))) : w.heap.size ≤ gb327)); have n6_ := Aside0.mk ((by rw [hg]; exact (below_size (by repeat (first | (with_reducible first | exact HB.out | apply below_alloc | apply pw_below_drewN | apply below_drew1 | refine below_set ?_ GE310.out | refine below_set ?_ GE318.out) | exact HB.out))) : w.heap.size ≤ gb327)); have n7_ := Aside0.mk ((by rw [hg]; exact Nat.ne_of_lt (blk_lt (g := gb310) (o := .cells #[.string t305, .string t306, .bool t307, .bool t308] 45 (0, 0)) (by (with_reducible repeat (first | refine blk_drewN ?_ _ | refine blk_drew ?_ | refine blk_alloc ?_ _)); exact BK310.out)) : gb310 ≠ gb327)); have n8_ := Aside0.mk ((by rw [hg]; exact Nat.ne_of_gt (blk_lt (g := gb310) (o := .cells #[.string t305, .string t306, .bool t307, .bool t308] 45 (0, 0)) (by (with_reducible repeat (first | refine blk_drewN ?_ _ | refine blk_drew ?_ | refine blk_alloc ?_ _)); exact BK310.out)) : gb327 ≠ gb310)); have n9_ := Aside0.mk ((by rw [hg]; exact Nat.ne_of_lt (blk_lt (g := gb318) (o := .cells #[.string t313, .string t314, .bool t315, .bool t316] 45 (0, 0)) (by (with_reducible repeat (first | refine blk_drewN ?_ _ | refine blk_drew ?_ | refine blk_alloc ?_ _)); exact BK318.out)) : gb318 ≠ gb327)); have n10_ := Aside0.mk ((by rw [hg]; exact Nat.ne_of_gt (blk_lt (g := gb318) (o := .cells #[.string t313, .string t314, .bool t315, .bool t316] 45 (0, 0)) (by (with_reducible repeat (first | refine blk_drewN ?_ _ | refine blk_drew ?_ | refine blk_alloc ?_ _)); exact BK318.out)) : gb327 ≠ gb318)); clear HO321; clear BK310; clear BK318; clear HB; have HO321 := n0_; have BK310 := n1_; have BK318 := n2_; have HB := n3_; have BK327 := n4_; have GW327 := n5_; have GE327 := n6_; have NB310_327 := n7_; have NB327_310 := n8_; have NB318_327 := n9_; have NB327_318 := n10_; clear n0_ n1_ n2_ n3_ n4_ n5_ n6_ n7_ n8_ n9_ n10_; clear hb hbox hg; have hnb68 := NB327_310.out; have hnc68 := NB310_327.out; have hnb69 := NB327_318.out; have hnc69 := NB318_327.out; have hcz70_0 : w67.cell? ⟨gb327, 0, none⟩ = some (.string (⟨#[]⟩ : ByteArray)) := (blk_cell BK327.out 0).trans rfl; have hcz70_1 : w67.cell? ⟨gb327, 1, none⟩ = some (.string (⟨#[]⟩ : ByteArray)) := (blk_cell BK327.out 1).trans rfl; have hcz70_2 : w67.cell? ⟨gb327, 2, none⟩ = some (.bool false) := (blk_cell BK327.out 2).trans rfl; have hcz70_3 : w67.cell? ⟨gb327, 3, none⟩ = some (.bool false) := (blk_cell BK327.out 3).trans rfl; have hfz70_0 := blk_frozen BK327.out 0; have hfz70_1 := blk_frozen BK327.out 1; have hfz70_2 := blk_frozen BK327.out 2; have hfz70_3 := blk_frozen BK327.out 3))
                            all_goals go_ret
                            all_goals exact ⟨by first | rfl | (simp [errW_none, errW_some] <;> rfl) | (simp [*, errW_none, errW_some] <;> rfl), by repeat (first | (with_reducible first | exact HB.out | apply below_alloc | apply pw_below_drewN | apply below_drew1 | refine below_set ?_ GE310.out | refine below_set ?_ GE318.out | refine below_set ?_ GE327.out) | exact HB.out)⟩

end Go.Proofs.Ytjmcndbkmknemaa.Q
