-- Written by a program of this session out of the translation, with the kit's printer. Not trusted: Lean checks it.
import Derived.Test.YtjmcndbkmknemaaQ0
import Derived.Test.YtjmcndbkmknemaaQ1
import Derived.Test.YtjmcndbkmknemaaQ19
namespace Go.Proofs.Ytjmcndbkmknemaa.Q
open Go.RowKit Go.Proofs.YtjmcndbkmknemaaW.PrintWords Go.Proofs.YtjmcndbkmknemaaW.PrintLast Go.Proofs.YtjmcndbkmknemaaW.PrintMore
attribute [local go_sem] max2_int min2_int max_two min_two max_three min_three max_four min_four   -- for this text's walks alone
set_option linter.unusedVariables false
set_option linter.unusedSimpArgs false

attribute [local go_sem high] eqA45
/-! ### laws_FnFirstType: function 9 -/
mutual
def laws_FnFirstType.j0 : Nat → List (S45) → Bool → Option (Bool)
  | 0, _, _ => none
  | k + 1, x0, x23 => if x23 = true then (some false) else ((impl_FirstType.f x0).bind fun bt204 => (laws_FnFirstType.l0 k x0 bt204.2.2.2.2 x0 (x0.length : Int) 0 bt204.1 bt204.2.1 bt204.2.2.1 bt204.2.2.2.1))
def laws_FnFirstType.l0 : Nat → List (S45) → Bool → List (S45) → Int → Int → ByteArray → ByteArray → Bool → Bool → Option (Bool)
  | 0, _, _, _, _, _, _, _, _, _ => none
  | k + 1, x0, x6, x29, x30, x31, x210000, x210001, x210002, x210003 => if x31 < x30 then (if 0 ≤ x31 then (if x31 < (x29.length : Int) then (if (rd_T45 x29 x31).f2 = true then (if x6 = true then (some (x210000.toList == (((rd_T45 x29 x31).f0).toList) && (x210001.toList == (((rd_T45 x29 x31).f1).toList) && (x210002 == ((rd_T45 x29 x31).f2) && (x210003 == ((rd_T45 x29 x31).f3)))))) else (some false)) else (laws_FnFirstType.l0 k x0 x6 x29 x30 (wrap64 (x31 + 1)) x210000 x210001 x210002 x210003)) else (none)) else (none)) else (if (x0.length : Int) > 0 then (some true) else (some (!x6)))
end
def laws_FnFirstType.f (k : Nat) (l0 : List (S45)) : Option (Bool) := (laws_zzFits2.f k l0).bind fun t194 => (if t194 = true then ((laws_types.f).bind fun t195 => ((impl_FirstType.f t195).bind fun bt198 => (if bt198.2.2.2.2 = true then (laws_FnFirstType.j0 k l0 (bt198.1.toList != ([115, 116, 114, 105, 110, 103] : List UInt8))) else (laws_FnFirstType.j0 k l0 true)))) else (some true))
theorem laws_FnFirstType.mono_l : ∀ k, (∀ y0 y1, LeO (laws_FnFirstType.j0 k y0 y1) (laws_FnFirstType.j0 (k + 1) y0 y1)) ∧ (∀ y0 y1 y2 y3 y4 y5 y6 y7 y8, LeO (laws_FnFirstType.l0 k y0 y1 y2 y3 y4 y5 y6 y7 y8) (laws_FnFirstType.l0 (k + 1) y0 y1 y2 y3 y4 y5 y6 y7 y8))
  | 0 => ⟨fun _ _ r h => by simp [laws_FnFirstType.j0] at h, fun _ _ _ _ _ _ _ _ _ r h => by simp [laws_FnFirstType.l0] at h⟩
  | k + 1 => by
    obtain ⟨ih0, ih1⟩ := laws_FnFirstType.mono_l k
    refine ⟨?_, ?_⟩
    · intro y0 y1
      unfold laws_FnFirstType.j0
      repeat' first
      | (with_reducible exact ih0 _ _)
      | (with_reducible exact ih1 _ _ _ _ _ _ _ _ _)
      | (with_reducible exact laws_zzFits2.mono _ _)
      | (with_reducible exact LeO.refl _)
      | (with_reducible exact LeO.none _)
      | (with_reducible refine LeO.ite ?_ ?_)
      | (with_reducible refine LeO.bind ?_ (fun _ => ?_))
      | exact ih0 _ _
      | exact ih1 _ _ _ _ _ _ _ _ _
      | exact laws_zzFits2.mono _ _
      | exact LeO.none _
      | refine LeO.ite ?_ ?_
      | refine LeO.bind ?_ (fun _ => ?_)
    · intro y0 y1 y2 y3 y4 y5 y6 y7 y8
      unfold laws_FnFirstType.l0
      repeat' first
      | (with_reducible exact ih0 _ _)
      | (with_reducible exact ih1 _ _ _ _ _ _ _ _ _)
      | (with_reducible exact laws_zzFits2.mono _ _)
      | (with_reducible exact LeO.refl _)
      | (with_reducible exact LeO.none _)
      | (with_reducible refine LeO.ite ?_ ?_)
      | (with_reducible refine LeO.bind ?_ (fun _ => ?_))
      | exact ih0 _ _
      | exact ih1 _ _ _ _ _ _ _ _ _
      | exact laws_zzFits2.mono _ _
      | exact LeO.none _
      | refine LeO.ite ?_ ?_
      | refine LeO.bind ?_ (fun _ => ?_)
theorem laws_FnFirstType.mono : ∀ a0 k, LeO (laws_FnFirstType.f k a0) (laws_FnFirstType.f (k + 1) a0) := by
  intro a0 k
  obtain ⟨ih0, ih1⟩ := laws_FnFirstType.mono_l k
  unfold laws_FnFirstType.f
  repeat' first
      | (with_reducible exact ih0 _ _)
      | (with_reducible exact ih1 _ _ _ _ _ _ _ _ _)
      | (with_reducible exact laws_zzFits2.mono _ _)
      | (with_reducible exact LeO.refl _)
      | (with_reducible exact LeO.none _)
      | (with_reducible refine LeO.ite ?_ ?_)
      | (with_reducible refine LeO.bind ?_ (fun _ => ?_))
      | exact ih0 _ _
      | exact ih1 _ _ _ _ _ _ _ _ _
      | exact laws_zzFits2.mono _ _
      | exact LeO.none _
      | refine LeO.ite ?_ ?_
      | refine LeO.bind ?_ (fun _ => ?_)
set_option maxHeartbeats 8000000 in
set_option maxRecDepth 100000 in
theorem laws_FnFirstType.calls (k : Nat) (A0 : Option Addr) (c0 : Nat) (l0 : List (S45)) (r : Bool) (w : World) (hr0 : Kd.C k45 w A0 l0.length l0) (hc0 : l0.length ≤ c0) (h : laws_FnFirstType.f k l0 = some r) :
    Calls Try.prog 9 #[.slice A0 l0.length c0] w fun e w' => e = .returned (.bool r) ∧ Below w.heap.size w w' := by
  have hu45 := Try.underlying45
  have HR0 := Aside0.mk hr0
  have HC0 := Aside0.mk hc0
  clear hr0 hc0
  have HB := Aside0.mk (Below.refl w.heap.size w)
  have H : ((laws_zzFits2.f k l0).bind fun t194 => (if t194 = true then ((laws_types.f).bind fun t195 => ((impl_FirstType.f t195).bind fun bt198 => (if bt198.2.2.2.2 = true then (laws_FnFirstType.j0 k l0 (bt198.1.toList != ([115, 116, 114, 105, 110, 103] : List UInt8))) else (laws_FnFirstType.j0 k l0 true)))) else (some true))) = some r := h
  clear h
  replace H := Option.bind_eq_some_iff.mp H
  obtain ⟨t194, A20, H⟩ := H
  replace H : (if t194 = true then ((laws_types.f).bind fun t195 => ((impl_FirstType.f t195).bind fun bt198 => (if bt198.2.2.2.2 = true then (laws_FnFirstType.j0 k l0 (bt198.1.toList != ([115, 116, 114, 105, 110, 103] : List UInt8))) else (laws_FnFirstType.j0 k l0 true)))) else (some true)) = some r := H
  have A2 := Aside0.mk A20
  clear A20
  by_cases c3 : t194 = true
  · subst c3
    have H1 : ((laws_types.f).bind fun t195 => ((impl_FirstType.f t195).bind fun bt198 => (if bt198.2.2.2.2 = true then (laws_FnFirstType.j0 k l0 (bt198.1.toList != ([115, 116, 114, 105, 110, 103] : List UInt8))) else (laws_FnFirstType.j0 k l0 true)))) = some r := by rw [if_pos rfl] at H; exact H
    clear H
    have H := H1
    clear H1
    replace H := Option.bind_eq_some_iff.mp H
    obtain ⟨t195, A40, H⟩ := H
    replace H : ((impl_FirstType.f t195).bind fun bt198 => (if bt198.2.2.2.2 = true then (laws_FnFirstType.j0 k l0 (bt198.1.toList != ([115, 116, 114, 105, 110, 103] : List UInt8))) else (laws_FnFirstType.j0 k l0 true))) = some r := H
    have A4 := Aside0.mk A40
    clear A40
    replace H := Option.bind_eq_some_iff.mp H
    obtain ⟨⟨t198, t199, t200, t201, t202⟩, A50, H⟩ := H
    replace H : (if t202 = true then (laws_FnFirstType.j0 k l0 (t198.toList != ([115, 116, 114, 105, 110, 103] : List UInt8))) else (laws_FnFirstType.j0 k l0 true)) = some r := H
    have A5 := Aside0.mk A50
    clear A50
    have HC6 := Aside0.mk H
    clear H
    go_enter Try.func9, Try.ntmps9
    go_upto_region 4 with (first | ((with_reducible refine gate_callee (f := 27) rfl ?_); refine goesL_ (some 10) rfl rfl Try.func27 (by kernel_rfl) rfl #[.slice A0 l0.length c0] rfl (by (try simp only [List.map_toArray, List.map_cons, List.map_nil]); first | done | rfl | (simp only [List.length_drop, List.length_take]; rfl)) ?_; (with_reducible refine (laws_zzFits2.calls k _ _ l0 true _ ?side1 ?side2 A2.out).mono ?_); (case side1 => repeat (first | exact HR0.out | (with_reducible refine Kd.C_alloc ?_ _) | (with_reducible refine Kd.C_drewN ?_ _) | (with_reducible refine Kd.C_drew ?_))); (case side2 => exact HC0.out); rintro e w7 ⟨rfl, hb⟩; refine ⟨_, rfl, ?_⟩; have n0_ := Aside0.mk (below_step (by repeat (first | (with_reducible first | exact HB.out | apply below_alloc | apply pw_below_drewN | apply below_drew1) | exact HB.out)) hb); clear HB; have HB := n0_; clear n0_; (try clear hb); (try clear hb2); (try clear hk); (try clear hi)) | ((with_reducible refine gate_callee (f := 29) rfl ?_); refine goesL_ (some 13) rfl rfl Try.func29 (by kernel_rfl) rfl #[] rfl (by (try simp only [List.map_toArray, List.map_cons, List.map_nil]); first | done | rfl | (simp only [List.length_drop, List.length_take]; rfl)) ?_; (with_reducible refine (laws_types.calls  t195 _ A4.out).mono ?_); rintro e w8 ⟨v196, rfl, ho0, hb⟩; refine ⟨_, rfl, ?_⟩; have n0_ := Aside0.mk (Kd.R_lower ho0 (below_size (by repeat (first | (with_reducible first | exact HB.out | apply below_alloc | apply pw_below_drewN | apply below_drew1) | exact HB.out)))); have n1_ := Aside0.mk (below_step (by repeat (first | (with_reducible first | exact HB.out | apply below_alloc | apply pw_below_drewN | apply below_drew1) | exact HB.out)) hb); clear HB; have HO197 := n0_; have HB := n1_; clear n0_ n1_; (try clear hb); (try clear hb2); (try clear hk); (try clear hi); (try clear ho0); obtain ⟨Ao9, co9, eo9⟩ := Kd.R_slice HO197.out; subst eo9) | ((with_reducible refine gate_callee (f := 28) rfl ?_); refine goesL_ (some 14) rfl rfl Try.func28 (by kernel_rfl) rfl #[.slice Ao9 t195.length co9] rfl (by (try simp only [List.map_toArray, List.map_cons, List.map_nil]); first | done | rfl | (simp only [List.length_drop, List.length_take]; rfl)) ?_; (with_reducible refine (impl_FirstType.calls _ _ t195 t198 t199 t200 t201 t202 _ ?side1 ?side2 A5.out).mono ?_); (case side1 => repeat (first | exact (Kd.R_reads' HO197.out).2.2 | (with_reducible refine Kd.C_alloc ?_ _) | (with_reducible refine Kd.C_drewN ?_ _) | (with_reducible refine Kd.C_drew ?_))); (case side2 => exact (Kd.R_reads' HO197.out).2.1); rintro e w10 ⟨rfl, hb⟩; refine ⟨_, rfl, ?_⟩; have n0_ := Aside0.mk (Kd.R_below (by (with_reducible repeat (first | apply Kd.R_alloc | apply Kd.R_drewN | apply Kd.R_drew)); exact HO197.out) hb); have n1_ := Aside0.mk (below_step (by repeat (first | (with_reducible first | exact HB.out | apply below_alloc | apply pw_below_drewN | apply below_drew1) | exact HB.out)) hb); clear HO197; clear HB; have HO197 := n0_; have HB := n1_; clear n0_ n1_; (try clear hb); (try clear hb2); (try clear hk); (try clear hi)) | ((with_reducible refine gate_dst (N := 3) rfl ?_); refine box_event ?hg (N := 3) ?hd (cs := #[.string (⟨#[]⟩ : ByteArray), .string (⟨#[]⟩ : ByteArray), .bool false, .bool false]) (t := 45) ?hr ?_; (case hd => rfl); (case hg => rfl); (case hr => first | (go_simp; done) | (go_simp; rfl)); intro gb203 hg w11 hbox hb; have n0_ := Aside0.mk (Kd.R_below (Kd.R_elderB (by (with_reducible repeat (first | apply Kd.R_alloc | apply Kd.R_drewN | apply Kd.R_drew)); exact HO197.out) gb203 (Nat.le_of_eq hg.symm)) hb); have n1_ := Aside0.mk (below_step (by repeat (first | (with_reducible first | exact HB.out | apply below_alloc | apply pw_below_drewN | apply below_drew1) | exact HB.out)) hb); have n2_ := Aside0.mk (hbox); have n3_ := Aside0.mk ((by rw [hg]; exact (below_size (by repeat (first | (with_reducible first | exact HB.out | apply below_alloc | apply pw_below_drewN | apply below_drew1) | exact HB.out))) : w.heap.size ≤ gb203)); have n4_ := Aside0.mk ((by rw [hg]; exact (below_size (by repeat (first | (with_reducible first | exact HB.out | apply below_alloc | apply pw_below_drewN | apply below_drew1) | exact HB.out))) : w.heap.size ≤ gb203)); clear HO197; clear HB; have HO197 := n0_; have HB := n1_; have BK203 := n2_; have GW203 := n3_; have GE203 := n4_; clear n0_ n1_ n2_ n3_ n4_; clear hb hbox hg; have hcz12_0 : w11.cell? ⟨gb203, 0, none⟩ = some (.string (⟨#[]⟩ : ByteArray)) := (blk_cell BK203.out 0).trans rfl; have hcz12_1 : w11.cell? ⟨gb203, 1, none⟩ = some (.string (⟨#[]⟩ : ByteArray)) := (blk_cell BK203.out 1).trans rfl; have hcz12_2 : w11.cell? ⟨gb203, 2, none⟩ = some (.bool false) := (blk_cell BK203.out 2).trans rfl; have hcz12_3 : w11.cell? ⟨gb203, 3, none⟩ = some (.bool false) := (blk_cell BK203.out 3).trans rfl; have hfz12_0 := blk_frozen BK203.out 0; have hfz12_1 := blk_frozen BK203.out 1; have hfz12_2 := blk_frozen BK203.out 2; have hfz12_3 := blk_frozen BK203.out 3))
    (try simp only [Act.put, List.setIfInBounds_toArray, List.set_cons_zero, List.set_cons_succ])
    go_cut [23] (fun v23 wc => ∃ (kq : Nat) (x23_5 : Bool), v23 = .bool x23_5 ∧ Aside0 (laws_FnFirstType.j0 kq l0 x23_5 = some r) ∧ Aside0 (kq ≤ k) ∧ Aside0 (wc.heap[gb203]? = some (.cells #[.string t198, .string t199, .bool t200, .bool t201] 45 (0, 0))) ∧ Aside0 (Below w.heap.size w wc))
    case first =>
      have H := HC6.out
      clear HC6
      by_cases c13 : t202 = true
      · subst c13
        have H1 : (laws_FnFirstType.j0 k l0 (t198.toList != ([115, 116, 114, 105, 110, 103] : List UInt8))) = some r := by rw [if_pos rfl] at H; exact H
        clear H
        have H := H1
        clear H1
        have H' := Aside0.mk H
        clear H
        have hcz14_0 : w11.cell? ⟨gb203, 0, none⟩ = some (.string (⟨#[]⟩ : ByteArray)) := (blk_cell BK203.out 0).trans rfl
        have hcz14_1 : w11.cell? ⟨gb203, 1, none⟩ = some (.string (⟨#[]⟩ : ByteArray)) := (blk_cell BK203.out 1).trans rfl
        have hcz14_2 : w11.cell? ⟨gb203, 2, none⟩ = some (.bool false) := (blk_cell BK203.out 2).trans rfl
        have hcz14_3 : w11.cell? ⟨gb203, 3, none⟩ = some (.bool false) := (blk_cell BK203.out 3).trans rfl
        have hfz14_0 := blk_frozen BK203.out 0
        have hfz14_1 := blk_frozen BK203.out 1
        have hfz14_2 := blk_frozen BK203.out 2
        have hfz14_3 := blk_frozen BK203.out 3
        go_wp2
        go_meet
        case rel => exact ⟨_, ((t198.toList != ([115, 116, 114, 105, 110, 103] : List UInt8))), (by first | rfl | (simp; done) | (simp [*]; done) | (simp [Go.Proofs.YtjmcndbkmknemaaX.isEmpty_ne]; done)), H', ⟨by first | omega | exact Nat.le_refl _⟩, ⟨by (with_reducible repeat (first | refine blk_drewN ?_ _ | refine blk_drew ?_ | refine blk_alloc ?_ _)); refine blk_put (cs := #[.string t198, .string t199, .bool t200, .bool false]) ?_ 3 _ rfl; (with_reducible repeat (first | refine blk_drewN ?_ _ | refine blk_drew ?_ | refine blk_alloc ?_ _)); refine blk_put (cs := #[.string t198, .string t199, .bool false, .bool false]) ?_ 2 _ rfl; (with_reducible repeat (first | refine blk_drewN ?_ _ | refine blk_drew ?_ | refine blk_alloc ?_ _)); refine blk_put (cs := #[.string t198, .string (⟨#[]⟩ : ByteArray), .bool false, .bool false]) ?_ 1 _ rfl; (with_reducible repeat (first | refine blk_drewN ?_ _ | refine blk_drew ?_ | refine blk_alloc ?_ _)); refine blk_put (cs := #[.string (⟨#[]⟩ : ByteArray), .string (⟨#[]⟩ : ByteArray), .bool false, .bool false]) ?_ 0 _ rfl; (with_reducible repeat (first | refine blk_drewN ?_ _ | refine blk_drew ?_ | refine blk_alloc ?_ _)); exact BK203.out⟩, ⟨by repeat (first | (with_reducible first | exact HB.out | apply below_alloc | apply pw_below_drewN | apply below_drew1 | refine below_set ?_ GE203.out) | exact HB.out)⟩⟩
      · replace c13 := Bool.eq_false_iff.mpr c13
        subst c13
        have H1 : (laws_FnFirstType.j0 k l0 true) = some r := by rw [if_neg (show ¬ (false = true) by decide)] at H; exact H
        clear H
        have H := H1
        clear H1
        have H' := Aside0.mk H
        clear H
        go_wp2
        go_meet
        case rel => exact ⟨_, (true), (by first | rfl | (simp; done) | (simp [*]; done) | (simp [Go.Proofs.YtjmcndbkmknemaaX.isEmpty_ne]; done)), H', ⟨by first | omega | exact Nat.le_refl _⟩, ⟨by (with_reducible repeat (first | refine blk_drewN ?_ _ | refine blk_drew ?_ | refine blk_alloc ?_ _)); refine blk_put (cs := #[.string t198, .string t199, .bool t200, .bool false]) ?_ 3 _ rfl; (with_reducible repeat (first | refine blk_drewN ?_ _ | refine blk_drew ?_ | refine blk_alloc ?_ _)); refine blk_put (cs := #[.string t198, .string t199, .bool false, .bool false]) ?_ 2 _ rfl; (with_reducible repeat (first | refine blk_drewN ?_ _ | refine blk_drew ?_ | refine blk_alloc ?_ _)); refine blk_put (cs := #[.string t198, .string (⟨#[]⟩ : ByteArray), .bool false, .bool false]) ?_ 1 _ rfl; (with_reducible repeat (first | refine blk_drewN ?_ _ | refine blk_drew ?_ | refine blk_alloc ?_ _)); refine blk_put (cs := #[.string (⟨#[]⟩ : ByteArray), .string (⟨#[]⟩ : ByteArray), .bool false, .bool false]) ?_ 0 _ rfl; (with_reducible repeat (first | refine blk_drewN ?_ _ | refine blk_drew ?_ | refine blk_alloc ?_ _)); exact BK203.out⟩, ⟨by repeat (first | (with_reducible first | exact HB.out | apply below_alloc | apply pw_below_drewN | apply below_drew1 | refine below_set ?_ GE203.out) | exact HB.out)⟩⟩
    case rest =>
      clear HC6
      try clear c1
      try clear c2
      try clear p2
      try clear c3
      try clear c9
      try clear c13
      try clear hcz12_0
      try clear hcz12_1
      try clear hcz12_2
      try clear hcz12_3
      try clear hcz14_0
      try clear hcz14_1
      try clear hcz14_2
      try clear hcz14_3
      try clear hfz12_0
      try clear hfz12_1
      try clear hfz12_2
      try clear hfz12_3
      try clear hfz14_0
      try clear hfz14_1
      try clear hfz14_2
      try clear hfz14_3
      obtain ⟨kq, x23_5, rfl, HA, HJ5, BK203, HB⟩ := hcut
      cases kq with
      | zero => exact absurd HA.out (by simp [laws_FnFirstType.j0])
      | succ kj5 =>
        have H := HA.out
        clear HA
        simp only [laws_FnFirstType.j0] at H
        by_cases c15 : x23_5 = true
        · subst c15
          have H1 : (some false) = some r := by rw [if_pos rfl] at H; exact H
          clear H
          have H := H1
          clear H1
          obtain rfl := Option.some.inj H
          go_wp2
          go_ret
          exact ⟨by first | rfl | (simp [errW_none, errW_some] <;> rfl) | (simp [*, errW_none, errW_some] <;> rfl), by repeat (first | (with_reducible first | exact HB.out | apply below_alloc | apply pw_below_drewN | apply below_drew1 | refine below_set ?_ GE203.out) | exact HB.out)⟩
        · replace c15 := Bool.eq_false_iff.mpr c15
          subst c15
          have H1 : ((impl_FirstType.f l0).bind fun bt204 => (laws_FnFirstType.l0 kj5 l0 bt204.2.2.2.2 l0 (l0.length : Int) 0 bt204.1 bt204.2.1 bt204.2.2.1 bt204.2.2.2.1)) = some r := by rw [if_neg (show ¬ (false = true) by decide)] at H; exact H
          clear H
          have H := H1
          clear H1
          replace H := Option.bind_eq_some_iff.mp H
          obtain ⟨⟨t204, t205, t206, t207, t208⟩, A160, H⟩ := H
          replace H : (laws_FnFirstType.l0 kj5 l0 t208 l0 (l0.length : Int) 0 t204 t205 t206 t207) = some r := H
          have A16 := Aside0.mk A160
          clear A160
          have H' := Aside0.mk H
          clear H
          go_wp2_with (first | ((with_reducible refine gate_callee (f := 28) rfl ?_); refine goesL_ (some 26) rfl rfl Try.func28 (by kernel_rfl) rfl #[.slice A0 l0.length c0] rfl (by (try simp only [List.map_toArray, List.map_cons, List.map_nil]); first | done | rfl | (simp only [List.length_drop, List.length_take]; rfl)) ?_; (with_reducible refine (impl_FirstType.calls _ _ l0 t204 t205 t206 t207 t208 _ ?side1 ?side2 A16.out).mono ?_); (case side1 => repeat (first | exact (Kd.C_below HR0.out HB.out) | (with_reducible refine Kd.C_alloc ?_ _) | (with_reducible refine Kd.C_drewN ?_ _) | (with_reducible refine Kd.C_drew ?_))); (case side2 => exact HC0.out); rintro e w17 ⟨rfl, hb⟩; refine ⟨_, rfl, ?_⟩; have n0_ := Aside0.mk (blk_below (g := gb203) (o := .cells #[.string t198, .string t199, .bool t200, .bool t201] 45 (0, 0)) (by (with_reducible repeat (first | refine blk_drewN ?_ _ | refine blk_drew ?_ | refine blk_alloc ?_ _)); exact BK203.out) hb); have n1_ := Aside0.mk (below_step (by repeat (first | (with_reducible first | exact HB.out | apply below_alloc | apply pw_below_drewN | apply below_drew1 | refine below_set ?_ GE203.out) | exact HB.out)) hb); clear BK203; clear HB; have BK203 := n0_; have HB := n1_; clear n0_ n1_; (try clear hb); (try clear hb2); (try clear hk); (try clear hi)) | ((with_reducible refine gate_dst (N := 5) rfl ?_); refine box_event ?hg (N := 5) ?hd (cs := #[.string (⟨#[]⟩ : ByteArray), .string (⟨#[]⟩ : ByteArray), .bool false, .bool false]) (t := 45) ?hr ?_; (case hd => rfl); (case hg => rfl); (case hr => first | (go_simp; done) | (go_simp; rfl)); intro gb209 hg w18 hbox hb; have n0_ := Aside0.mk (blk_below (g := gb203) (o := .cells #[.string t198, .string t199, .bool t200, .bool t201] 45 (0, 0)) (by (with_reducible repeat (first | refine blk_drewN ?_ _ | refine blk_drew ?_ | refine blk_alloc ?_ _)); exact BK203.out) hb); have n1_ := Aside0.mk (below_step (by repeat (first | (with_reducible first | exact HB.out | apply below_alloc | apply pw_below_drewN | apply below_drew1 | refine below_set ?_ GE203.out) | exact HB.out)) hb); have n2_ := Aside0.mk (hbox); have n3_ := Aside0.mk ((by rw [hg]; exact (below_size (by repeat (first | (with_reducible first | exact HB.out | apply below_alloc | apply pw_below_drewN | apply below_drew1 | refine below_set ?_ GE203.out) | exact HB.out))) : w.heap.size ≤ gb209)); have n4_ := Aside0.mk ((by rw [hg]; exact (below_size (by repeat (first | (with_reducible first | exact HB.out | apply below_alloc | apply pw_below_drewN | apply below_drew1 | refine below_set ?_ GE203.out) | exact HB.out))) : w.heap.size ≤ gb209)); have n5_ := Aside0.mk ((by rw [hg]; exact Nat.ne_of_lt (blk_lt (g := gb203) (o := .cells #[.string t198, .string t199, .bool t200, .bool t201] 45 (0, 0)) (by (with_reducible repeat (first | refine blk_drewN ?_ _ | refine blk_drew ?_ | refine blk_alloc ?_ _)); exact BK203.out)) : gb203 ≠ gb209)); have n6_ := Aside0.mk ((by rw [hg]; exact Nat.ne_of_gt (blk_lt (g := gb203) (o := .cells #[.string t198, .string t199, .bool t200, .bool t201] 45 (0, 0)) (by (with_reducible repeat (first | refine blk_drewN ?_ _ | refine blk_drew ?_ | refine blk_alloc ?_ _)); exact BK203.out)) : gb209 ≠ gb203)); clear BK203; clear HB; have BK203 := n0_; have HB := n1_; have BK209 := n2_; have GW209 := n3_; have GE209 := n4_; have NB203_209 := n5_; have NB209_203 := n6_; clear n0_ n1_ n2_ n3_ n4_ n5_ n6_; clear hb hbox hg; have hnb19 := NB209_203.out; have hnc19 := NB203_209.out; have hcz20_0 : w18.cell? ⟨gb209, 0, none⟩ = some (.string (⟨#[]⟩ : ByteArray)) := (blk_cell BK209.out 0).trans rfl; have hcz20_1 : w18.cell? ⟨gb209, 1, none⟩ = some (.string (⟨#[]⟩ : ByteArray)) := (blk_cell BK209.out 1).trans rfl; have hcz20_2 : w18.cell? ⟨gb209, 2, none⟩ = some (.bool false) := (blk_cell BK209.out 2).trans rfl; have hcz20_3 : w18.cell? ⟨gb209, 3, none⟩ = some (.bool false) := (blk_cell BK209.out 3).trans rfl; have hfz20_0 := blk_frozen BK209.out 0; have hfz20_1 := blk_frozen BK209.out 1; have hfz20_2 := blk_frozen BK209.out 2; have hfz20_3 := blk_frozen BK209.out 3))
          go_loopg [31] kj5 (fun kq v31 w' => ∃ (x31_2 : Int), v31 = .int .i64 x31_2 ∧ Aside0 (laws_FnFirstType.l0 kq l0 t208 l0 (l0.length : Int) x31_2 t204 t205 t206 t207 = some r) ∧ Aside0 (kq ≤ kj5) ∧ Aside0 (w'.heap[gb203]? = some (.cells #[.string t198, .string t199, .bool t200, .bool t201] 45 (0, 0))) ∧ Aside0 (w'.heap[gb209]? = some (.cells #[.string t204, .string t205, .bool t206, .bool t207] 45 (0, 0))) ∧ Aside0 (Below w.heap.size w w'))
          case atStart => exact ⟨(0), (by first | rfl | (simp; done) | (simp [*]; done) | (simp [Go.Proofs.YtjmcndbkmknemaaX.isEmpty_ne]; done)), H', ⟨Nat.le_refl _⟩, ⟨by (with_reducible repeat (first | refine blk_drewN ?_ _ | refine blk_drew ?_ | refine blk_alloc ?_ _)); refine blk_far ?_ NB203_209.out _; (with_reducible repeat (first | refine blk_drewN ?_ _ | refine blk_drew ?_ | refine blk_alloc ?_ _)); refine blk_far ?_ NB203_209.out _; (with_reducible repeat (first | refine blk_drewN ?_ _ | refine blk_drew ?_ | refine blk_alloc ?_ _)); refine blk_far ?_ NB203_209.out _; (with_reducible repeat (first | refine blk_drewN ?_ _ | refine blk_drew ?_ | refine blk_alloc ?_ _)); refine blk_far ?_ NB203_209.out _; (with_reducible repeat (first | refine blk_drewN ?_ _ | refine blk_drew ?_ | refine blk_alloc ?_ _)); exact BK203.out⟩, ⟨by (with_reducible repeat (first | refine blk_drewN ?_ _ | refine blk_drew ?_ | refine blk_alloc ?_ _)); refine blk_put (cs := #[.string t204, .string t205, .bool t206, .bool false]) ?_ 3 _ rfl; (with_reducible repeat (first | refine blk_drewN ?_ _ | refine blk_drew ?_ | refine blk_alloc ?_ _)); refine blk_put (cs := #[.string t204, .string t205, .bool false, .bool false]) ?_ 2 _ rfl; (with_reducible repeat (first | refine blk_drewN ?_ _ | refine blk_drew ?_ | refine blk_alloc ?_ _)); refine blk_put (cs := #[.string t204, .string (⟨#[]⟩ : ByteArray), .bool false, .bool false]) ?_ 1 _ rfl; (with_reducible repeat (first | refine blk_drewN ?_ _ | refine blk_drew ?_ | refine blk_alloc ?_ _)); refine blk_put (cs := #[.string (⟨#[]⟩ : ByteArray), .string (⟨#[]⟩ : ByteArray), .bool false, .bool false]) ?_ 0 _ rfl; (with_reducible repeat (first | refine blk_drewN ?_ _ | refine blk_drew ?_ | refine blk_alloc ?_ _)); exact BK209.out⟩, ⟨by repeat (first | (with_reducible first | exact HB.out | apply below_alloc | apply pw_below_drewN | apply below_drew1 | refine below_set ?_ GE203.out | refine below_set ?_ GE209.out) | exact HB.out)⟩⟩
          case round =>
            clear H'
            try clear c1
            try clear c2
            try clear p2
            try clear c3
            try clear c9
            try clear c13
            try clear c15
            try clear c19
            try clear hcz12_0
            try clear hcz12_1
            try clear hcz12_2
            try clear hcz12_3
            try clear hcz14_0
            try clear hcz14_1
            try clear hcz14_2
            try clear hcz14_3
            try clear hcz20_0
            try clear hcz20_1
            try clear hcz20_2
            try clear hcz20_3
            try clear hfz12_0
            try clear hfz12_1
            try clear hfz12_2
            try clear hfz12_3
            try clear hfz14_0
            try clear hfz14_1
            try clear hfz14_2
            try clear hfz14_3
            try clear hfz20_0
            try clear hfz20_1
            try clear hfz20_2
            try clear hfz20_3
            try clear p2
            obtain ⟨x31_2, rfl, HA, HK2, BK203, BK209, HB⟩ := hrel
            cases gk with
            | zero => exact absurd HA.out (by simp [laws_FnFirstType.l0])
            | succ k2 =>
              have H := HA.out
              clear HA
              simp only [laws_FnFirstType.l0] at H
              by_cases c21 : x31_2 < (l0.length : Int)
              · rw [if_pos c21] at H
                have c21b0 : decide (x31_2 < (l0.length : Int)) = true := decide_eq_true c21
                clear c21
                by_cases c22 : 0 ≤ x31_2
                · rw [if_pos c22] at H
                  have c22b0 : decide (0 ≤ x31_2) = true := decide_eq_true c22
                  clear c22
                  by_cases c23 : x31_2 < (l0.length : Int)
                  · rw [if_pos c23] at H
                    have c23b0 : decide (x31_2 < (l0.length : Int)) = true := decide_eq_true c23
                    clear c23
                    obtain ⟨bq24, hbq24⟩ : ∃ b_ : Bool, b_ = ((rd_T45 l0 x31_2).f2) := ⟨_, rfl⟩
                    replace H : (if bq24 = true then (if t208 = true then (some (t204.toList == (((rd_T45 l0 x31_2).f0).toList) && (t205.toList == (((rd_T45 l0 x31_2).f1).toList) && (t206 == (bq24) && (t207 == ((rd_T45 l0 x31_2).f3)))))) else (some false)) else (laws_FnFirstType.l0 k2 l0 t208 l0 (l0.length : Int) (wrap64 (x31_2 + 1)) t204 t205 t206 t207)) = some r := by rw [← hbq24] at H; exact H
                    have Nbq24 := Aside0.mk hbq24
                    clear hbq24
                    by_cases c25 : bq24 = true
                    · subst c25
                      have H1 : (if t208 = true then (some (t204.toList == (((rd_T45 l0 x31_2).f0).toList) && (t205.toList == (((rd_T45 l0 x31_2).f1).toList) && (t206 == (true) && (t207 == ((rd_T45 l0 x31_2).f3)))))) else (some false)) = some r := by rw [if_pos rfl] at H; exact H
                      clear H
                      have H := H1
                      clear H1
                      by_cases c26 : t208 = true
                      · subst c26
                        have H1 : (some (t204.toList == (((rd_T45 l0 x31_2).f0).toList) && (t205.toList == (((rd_T45 l0 x31_2).f1).toList) && (t206 == (true) && (t207 == ((rd_T45 l0 x31_2).f3)))))) = some r := by rw [if_pos rfl] at H; exact H
                        clear H
                        have H := H1
                        clear H1
                        obtain rfl := Option.some.inj H
                        have p210 : 0 ≤ (x31_2 : Int) := of_decide_eq_true (by first | (with_reducible assumption) | assumption)
                        have q210 : x31_2 < (l0.length : Int) := of_decide_eq_true (by first | (with_reducible assumption) | assumption)
                        obtain ⟨ad210, e210, hx210_0, hx210_1, hx210_2, hx210_3⟩ := at_T45 HR0.out x31_2 p210 q210
                        (try rw [← Nbq24.out] at hx210_2)
                        (try rw [← Nbq24.out] at hx210_3)
                        cases e210
                        replace hx210_0 := (HB.out.cell (World.block_lt_of_cell? w _ hx210_0)).trans hx210_0
                        replace hx210_1 := (HB.out.cell (World.block_lt_of_cell? w _ hx210_1)).trans hx210_1
                        replace hx210_2 := (HB.out.cell (World.block_lt_of_cell? w _ hx210_2)).trans hx210_2
                        replace hx210_3 := (HB.out.cell (World.block_lt_of_cell? w _ hx210_3)).trans hx210_3
                        replace p210 := eq_true p210
                        replace q210 := eq_true q210
                        go_wp2_with (first | ((with_reducible refine gate_dst (N := 8) rfl ?_); refine box_event ?hg (N := 8) ?hd (cs := #[.string (⟨#[]⟩ : ByteArray), .string (⟨#[]⟩ : ByteArray), .bool false, .bool false]) (t := 45) ?hr ?_; (case hd => rfl); (case hg => rfl); (case hr => first | (go_simp; done) | (go_simp; rfl)); intro gb211 hg w27 hbox hb; have n0_ := Aside0.mk (blk_below (g := gb203) (o := .cells #[.string t198, .string t199, .bool t200, .bool t201] 45 (0, 0)) (by (with_reducible repeat (first | refine blk_drewN ?_ _ | refine blk_drew ?_ | refine blk_alloc ?_ _)); exact BK203.out) hb); have n1_ := Aside0.mk (blk_below (g := gb209) (o := .cells #[.string t204, .string t205, .bool t206, .bool t207] 45 (0, 0)) (by (with_reducible repeat (first | refine blk_drewN ?_ _ | refine blk_drew ?_ | refine blk_alloc ?_ _)); exact BK209.out) hb); have n2_ := Aside0.mk (below_step (by repeat (first | (with_reducible first | exact HB.out | apply below_alloc | apply pw_below_drewN | apply below_drew1 | refine below_set ?_ GE203.out | refine below_set ?_ GE209.out) | exact HB.out)) hb); have n3_ := Aside0.mk (hbox); have n4_ := Aside0.mk ((by rw [hg]; exact (below_size (by repeat (first | (with_reducible first | exact HB.out | apply below_alloc | apply pw_below_drewN | apply below_drew1 | refine below_set ?_ GE203.out | refine below_set ?_ GE209.out) | exact HB.out))) : w.heap.size ≤ gb211)); have n5_ := Aside0.mk ((by rw [hg]; exact (below_size (by repeat (first | (with_reducible first | exact HB.out | apply below_alloc | apply pw_below_drewN | apply below_drew1 | refine below_set ?_ GE203.out | refine below_set ?_ GE209.out) | exact HB.out))) : w.heap.size ≤ gb211)); have n6_ := Aside0.mk ((by rw [hg]; exact Nat.ne_of_lt (blk_lt (g := gb203) (o := .cells #[.string t198, .string t199, .bool t200, .bool t201] 45 (0, 0)) (by (with_reducible repeat (first | refine blk_drewN ?_ _ | refine blk_drew ?_ | refine blk_alloc ?_ _)); exact BK203.out)) : gb203 ≠ gb211)); have n7_ := Aside0.mk ((by rw [hg]; exact Nat.ne_of_gt (blk_lt (g := gb203) (o := .cells #[.string t198, .string t199, .bool t200, .bool t201] 45 (0, 0)) (by (with_reducible repeat (first | refine blk_drewN ?_ _ | refine blk_drew ?_ | refine blk_alloc ?_ _)); exact BK203.out)) : gb211 ≠ gb203)); have n8_ := Aside0.mk ((by rw [hg]; exact Nat.ne_of_lt (blk_lt (g := gb209) (o := .cells #[.string t204, .string t205, .bool t206, .bool t207] 45 (0, 0)) (by (with_reducible repeat (first | refine blk_drewN ?_ _ | refine blk_drew ?_ | refine blk_alloc ?_ _)); exact BK209.out)) : gb209 ≠ gb211)); have n9_ := Aside0.mk ((by rw [hg]; exact Nat.ne_of_gt (blk_lt (g := gb209) (o := .cells #[.string t204, .string t205, .bool t206, .bool t207] 45 (0, 0)) (by (with_reducible repeat (first | refine blk_drewN ?_ _ | refine blk_drew ?_ | refine blk_alloc ?_ _)); exact BK209.out)) : gb211 ≠ gb209)); clear BK203; clear BK209; clear HB; have BK203 := n0_; have BK209 := n1_; have HB := n2_; have BK211 := n3_; have GW211 := n4_; have GE211 := n5_; have NB203_211 := n6_; have NB211_203 := n7_; have NB209_211 := n8_; have NB211_209 := n9_; clear n0_ n1_ n2_ n3_ n4_ n5_ n6_ n7_ n8_ n9_; clear hb hbox hg; have hnb28 := NB211_203.out; have hnc28 := NB203_211.out; have hnb29 := NB211_209.out; have hnc29 := NB209_211.out; have hcz30_0 : w27.cell? ⟨gb211, 0, none⟩ = some (.string (⟨#[]⟩ : ByteArray)) := (blk_cell BK211.out 0).trans rfl; have hcz30_1 : w27.cell? ⟨gb211, 1, none⟩ = some (.string (⟨#[]⟩ : ByteArray)) := (blk_cell BK211.out 1).trans rfl; have hcz30_2 : w27.cell? ⟨gb211, 2, none⟩ = some (.bool false) := (blk_cell BK211.out 2).trans rfl; have hcz30_3 : w27.cell? ⟨gb211, 3, none⟩ = some (.bool false) := (blk_cell BK211.out 3).trans rfl; have hfz30_0 := blk_frozen BK211.out 0; have hfz30_1 := blk_frozen BK211.out 1; have hfz30_2 := blk_frozen BK211.out 2; have hfz30_3 := blk_frozen BK211.out 3; have hnb31 := NB209_203.out; have hnc31 := NB203_209.out; have hcz32_0 : w27.cell? ⟨gb209, 0, none⟩ = some (.string t204) := (blk_cell BK209.out 0).trans rfl; have hcz32_1 : w27.cell? ⟨gb209, 1, none⟩ = some (.string t205) := (blk_cell BK209.out 1).trans rfl; have hcz32_2 : w27.cell? ⟨gb209, 2, none⟩ = some (.bool t206) := (blk_cell BK209.out 2).trans rfl; have hcz32_3 : w27.cell? ⟨gb209, 3, none⟩ = some (.bool t207) := (blk_cell BK209.out 3).trans rfl; have hfz32_0 := blk_frozen BK209.out 0; have hfz32_1 := blk_frozen BK209.out 1; have hfz32_2 := blk_frozen BK209.out 2; have hfz32_3 := blk_frozen BK209.out 3))
                        go_ret
                        exact ⟨by first | rfl | (simp [errW_none, errW_some] <;> rfl) | (simp [*, errW_none, errW_some] <;> rfl), by repeat (first | (with_reducible first | exact HB.out | apply below_alloc | apply pw_below_drewN | apply below_drew1 | refine below_set ?_ GE203.out | refine below_set ?_ GE209.out | refine below_set ?_ GE211.out) | exact HB.out)⟩
                      · replace c26 := Bool.eq_false_iff.mpr c26
                        subst c26
                        have H1 : (some false) = some r := by rw [if_neg (show ¬ (false = true) by decide)] at H; exact H
                        clear H
                        have H := H1
                        clear H1
                        obtain rfl := Option.some.inj H
                        have p210 : 0 ≤ (x31_2 : Int) := of_decide_eq_true (by first | (with_reducible assumption) | assumption)
                        have q210 : x31_2 < (l0.length : Int) := of_decide_eq_true (by first | (with_reducible assumption) | assumption)
                        obtain ⟨ad210, e210, hx210_0, hx210_1, hx210_2, hx210_3⟩ := at_T45 HR0.out x31_2 p210 q210
                        (try rw [← Nbq24.out] at hx210_2)
                        (try rw [← Nbq24.out] at hx210_3)
                        cases e210
                        replace hx210_0 := (HB.out.cell (World.block_lt_of_cell? w _ hx210_0)).trans hx210_0
                        replace hx210_1 := (HB.out.cell (World.block_lt_of_cell? w _ hx210_1)).trans hx210_1
                        replace hx210_2 := (HB.out.cell (World.block_lt_of_cell? w _ hx210_2)).trans hx210_2
                        replace hx210_3 := (HB.out.cell (World.block_lt_of_cell? w _ hx210_3)).trans hx210_3
                        replace p210 := eq_true p210
                        replace q210 := eq_true q210
                        go_wp2_with (first | ((with_reducible refine gate_dst (N := 8) rfl ?_); refine box_event ?hg (N := 8) ?hd (cs := #[.string (⟨#[]⟩ : ByteArray), .string (⟨#[]⟩ : ByteArray), .bool false, .bool false]) (t := 45) ?hr ?_; (case hd => rfl); (case hg => rfl); (case hr => first | (go_simp; done) | (go_simp; rfl)); intro gb211 hg w33 hbox hb; have n0_ := Aside0.mk (blk_below (g := gb203) (o := .cells #[.string t198, .string t199, .bool t200, .bool t201] 45 (0, 0)) (by (with_reducible repeat (first | refine blk_drewN ?_ _ | refine blk_drew ?_ | refine blk_alloc ?_ _)); exact BK203.out) hb); have n1_ := Aside0.mk (blk_below (g := gb209) (o := .cells #[.string t204, .string t205, .bool t206, .bool t207] 45 (0, 0)) (by (with_reducible repeat (first | refine blk_drewN ?_ _ | refine blk_drew ?_ | refine blk_alloc ?_ _)); exact BK209.out) hb); have n2_ := Aside0.mk (below_step (by repeat (first | (with_reducible first | exact HB.out | apply below_alloc | apply pw_below_drewN | apply below_drew1 | refine below_set ?_ GE203.out | refine below_set ?_ GE209.out) | exact HB.out)) hb); have n3_ := Aside0.mk (hbox); have n4_ := Aside0.mk ((by rw [hg]; exact (below_size (by repeat (first | (with_reducible first | exact HB.out | apply below_alloc | apply pw_below_drewN | apply below_drew1 | refine below_set ?_ GE203.out | refine below_set ?_ GE209.out) | exact HB.out))) : w.heap.size ≤ gb211)); have n5_ := Aside0.mk ((by rw [hg]; exact (below_size (by repeat (first | (with_reducible first | exact HB.out | apply below_alloc | apply pw_below_drewN | apply below_drew1 | refine below_set ?_ GE203.out | refine below_set ?_ GE209.out) | exact HB.out))) : w.heap.size ≤ gb211)); have n6_ := Aside0.mk ((by rw [hg]; exact Nat.ne_of_lt (blk_lt (g := gb203) (o := .cells #[.string t198, .string t199, .bool t200, .bool t201] 45 (0, 0)) (by (with_reducible repeat (first | refine blk_drewN ?_ _ | refine blk_drew ?_ | refine blk_alloc ?_ _)); exact BK203.out)) : gb203 ≠ gb211)); have n7_ := Aside0.mk ((by rw [hg]; exact Nat.ne_of_gt (blk_lt (g := gb203) (o := .cells #[.string t198, .string t199, .bool t200, .bool t201] 45 (0, 0)) (by (with_reducible repeat (first | refine blk_drewN ?_ _ | refine blk_drew ?_ | refine blk_alloc ?_ _)); exact BK203.out)) : gb211 ≠ gb203)); have n8_ := Aside0.mk ((by rw [hg]; exact Nat.ne_of_lt (blk_lt (g := gb209) (o := .cells #[.string t204, .string t205, .bool t206, .bool t207] 45 (0, 0)) (by (with_reducible repeat (first | refine blk_drewN ?_ _ | refine blk_drew ?_ | refine blk_alloc ?_ _)); exact BK209.out)) : gb209 ≠ gb211)); have n9_ := Aside0.mk ((by rw [hg]; exact Nat.ne_of_gt (blk_lt (g := gb209) (o := .cells #[.string t204, .string t205, .bool t206, .bool t207] 45 (0, 0)) (by (with_reducible repeat (first | refine blk_drewN ?_ _ | refine blk_drew ?_ | refine blk_alloc ?_ _)); exact BK209.out)) : gb211 ≠ gb209)); clear BK203; clear BK209; clear HB; have BK203 := n0_; have BK209 := n1_; have HB := n2_; have BK211 := n3_; have GW211 := n4_; have GE211 := n5_; have NB203_211 := n6_; have NB211_203 := n7_; have NB209_211 := n8_; have NB211_209 := n9_; clear n0_ n1_ n2_ n3_ n4_ n5_ n6_ n7_ n8_ n9_; clear hb hbox hg; have hnb34 := NB211_203.out; have hnc34 := NB203_211.out; have hnb35 := NB211_209.out; have hnc35 := NB209_211.out; have hcz36_0 : w33.cell? ⟨gb211, 0, none⟩ = some (.string (⟨#[]⟩ : ByteArray)) := (blk_cell BK211.out 0).trans rfl; have hcz36_1 : w33.cell? ⟨gb211, 1, none⟩ = some (.string (⟨#[]⟩ : ByteArray)) := (blk_cell BK211.out 1).trans rfl; have hcz36_2 : w33.cell? ⟨gb211, 2, none⟩ = some (.bool false) := (blk_cell BK211.out 2).trans rfl; have hcz36_3 : w33.cell? ⟨gb211, 3, none⟩ = some (.bool false) := (blk_cell BK211.out 3).trans rfl; have hfz36_0 := blk_frozen BK211.out 0; have hfz36_1 := blk_frozen BK211.out 1; have hfz36_2 := blk_frozen BK211.out 2; have hfz36_3 := blk_frozen BK211.out 3))
                        go_ret
                        exact ⟨by first | rfl | (simp [errW_none, errW_some] <;> rfl) | (simp [*, errW_none, errW_some] <;> rfl), by repeat (first | (with_reducible first | exact HB.out | apply below_alloc | apply pw_below_drewN | apply below_drew1 | refine below_set ?_ GE203.out | refine below_set ?_ GE209.out | refine below_set ?_ GE211.out) | exact HB.out)⟩
                    · replace c25 := Bool.eq_false_iff.mpr c25
                      subst c25
                      have H1 : (laws_FnFirstType.l0 k2 l0 t208 l0 (l0.length : Int) (wrap64 (x31_2 + 1)) t204 t205 t206 t207) = some r := by rw [if_neg (show ¬ (false = true) by decide)] at H; exact H
                      clear H
                      have H := H1
                      clear H1
                      have H' := Aside0.mk H
                      clear H
                      have p210 : 0 ≤ (x31_2 : Int) := of_decide_eq_true (by first | (with_reducible assumption) | assumption)
                      have q210 : x31_2 < (l0.length : Int) := of_decide_eq_true (by first | (with_reducible assumption) | assumption)
                      obtain ⟨ad210, e210, hx210_0, hx210_1, hx210_2, hx210_3⟩ := at_T45 HR0.out x31_2 p210 q210
                      (try rw [← Nbq24.out] at hx210_2)
                      (try rw [← Nbq24.out] at hx210_3)
                      cases e210
                      replace hx210_0 := (HB.out.cell (World.block_lt_of_cell? w _ hx210_0)).trans hx210_0
                      replace hx210_1 := (HB.out.cell (World.block_lt_of_cell? w _ hx210_1)).trans hx210_1
                      replace hx210_2 := (HB.out.cell (World.block_lt_of_cell? w _ hx210_2)).trans hx210_2
                      replace hx210_3 := (HB.out.cell (World.block_lt_of_cell? w _ hx210_3)).trans hx210_3
                      replace p210 := eq_true p210
                      replace q210 := eq_true q210
                      go_wp2_with (first | ((with_reducible refine gate_dst (N := 8) rfl ?_); refine box_event ?hg (N := 8) ?hd (cs := #[.string (⟨#[]⟩ : ByteArray), .string (⟨#[]⟩ : ByteArray), .bool false, .bool false]) (t := 45) ?hr ?_; (case hd => rfl); (case hg => rfl); (case hr => first | (go_simp; done) | (go_simp; rfl)); intro gb211 hg w37 hbox hb; have n0_ := Aside0.mk (blk_below (g := gb203) (o := .cells #[.string t198, .string t199, .bool t200, .bool t201] 45 (0, 0)) (by (with_reducible repeat (first | refine blk_drewN ?_ _ | refine blk_drew ?_ | refine blk_alloc ?_ _)); exact BK203.out) hb); have n1_ := Aside0.mk (blk_below (g := gb209) (o := .cells #[.string t204, .string t205, .bool t206, .bool t207] 45 (0, 0)) (by (with_reducible repeat (first | refine blk_drewN ?_ _ | refine blk_drew ?_ | refine blk_alloc ?_ _)); exact BK209.out) hb); have n2_ := Aside0.mk (below_step (by repeat (first | (with_reducible first | exact HB.out | apply below_alloc | apply pw_below_drewN | apply below_drew1 | refine below_set ?_ GE203.out | refine below_set ?_ GE209.out) | exact HB.out)) hb); have n3_ := Aside0.mk (hbox); have n4_ := Aside0.mk ((by rw [hg]; exact (below_size (by repeat (first | (with_reducible first | exact HB.out | apply below_alloc | apply pw_below_drewN | apply below_drew1 | refine below_set ?_ GE203.out | refine below_set ?_ GE209.out) | exact HB.out))) : w.heap.size ≤ gb211)); have n5_ := Aside0.mk ((by rw [hg]; exact (below_size (by repeat (first | (with_reducible first | exact HB.out | apply below_alloc | apply pw_below_drewN | apply below_drew1 | refine below_set ?_ GE203.out | refine below_set ?_ GE209.out) | exact HB.out))) : w.heap.size ≤ gb211)); have n6_ := Aside0.mk ((by rw [hg]; exact Nat.ne_of_lt (blk_lt (g := gb203) (o := .cells #[.string t198, .string t199, .bool t200, .bool t201] 45 (0, 0)) (by (with_reducible repeat (first | refine blk_drewN ?_ _ | refine blk_drew ?_ | refine blk_alloc ?_ _)); exact BK203.out)) : gb203 ≠ gb211)); have n7_ := Aside0.mk ((by rw [hg]; exact Nat.ne_of_gt (blk_lt (g := gb203) (o := .cells #[.string t198, .string t199, .bool t200, .bool t201] 45 (0, 0)) (by (with_reducible repeat (first | refine blk_drewN ?_ _ | refine blk_drew ?_ | refine blk_alloc ?_ _)); exact BK203.out)) : gb211 ≠ gb203)); have n8_ := Aside0.mk ((by rw [hg]; exact Nat.ne_of_lt (blk_lt (g := gb209) (o := .cells #[.string t204, .string t205, .bool t206, .bool t207] 45 (0, 0)) (by (with_reducible repeat (first | refine blk_drewN ?_ _ | refine blk_drew ?_ | refine blk_alloc ?_ _)); exact BK209.out)) : gb209 ≠ gb211)); have n9_ := Aside0.mk ((by rw [hg]; exact Nat.ne_of_gt (blk_lt (g := gb209) (o := .cells #[.string t204, .string t205, .bool t206, .bool t207] 45 (0, 0)) (by (with_reducible repeat (first | refine blk_drewN ?_ _ | refine blk_drew ?_ | refine blk_alloc ?_ _)); exact BK209.out)) : gb211 ≠ gb209)); clear BK203; clear BK209; clear HB; have BK203 := n0_; have BK209 := n1_; have HB := n2_; have BK211 := n3_; have GW211 := n4_; have GE211 := n5_; have NB203_211 := n6_; have NB211_203 := n7_; have NB209_211 := n8_; have NB211_209 := n9_; clear n0_ n1_ n2_ n3_ n4_ n5_ n6_ n7_ n8_ n9_; clear hb hbox hg; have hnb38 := NB211_203.out; have hnc38 := NB203_211.out; have hnb39 := NB211_209.out; have hnc39 := NB209_211.out; have hcz40_0 : w37.cell? ⟨gb211, 0, none⟩ = some (.string (⟨#[]⟩ : ByteArray)) := (blk_cell BK211.out 0).trans rfl; have hcz40_1 : w37.cell? ⟨gb211, 1, none⟩ = some (.string (⟨#[]⟩ : ByteArray)) := (blk_cell BK211.out 1).trans rfl; have hcz40_2 : w37.cell? ⟨gb211, 2, none⟩ = some (.bool false) := (blk_cell BK211.out 2).trans rfl; have hcz40_3 : w37.cell? ⟨gb211, 3, none⟩ = some (.bool false) := (blk_cell BK211.out 3).trans rfl; have hfz40_0 := blk_frozen BK211.out 0; have hfz40_1 := blk_frozen BK211.out 1; have hfz40_2 := blk_frozen BK211.out 2; have hfz40_3 := blk_frozen BK211.out 3))
                      go_roundg k2
                      case measure => have := HJ5.out; have := HK2.out; omega
                      case rel => exact ⟨(wrap64 (x31_2 + 1)), (by first | rfl | (simp; done) | (simp [*]; done) | (simp [Go.Proofs.YtjmcndbkmknemaaX.isEmpty_ne]; done)), H', ⟨by have := HJ5.out; have := HK2.out; omega⟩, ⟨by (with_reducible repeat (first | refine blk_drewN ?_ _ | refine blk_drew ?_ | refine blk_alloc ?_ _)); refine blk_far ?_ NB203_211.out _; (with_reducible repeat (first | refine blk_drewN ?_ _ | refine blk_drew ?_ | refine blk_alloc ?_ _)); refine blk_far ?_ NB203_211.out _; (with_reducible repeat (first | refine blk_drewN ?_ _ | refine blk_drew ?_ | refine blk_alloc ?_ _)); refine blk_far ?_ NB203_211.out _; (with_reducible repeat (first | refine blk_drewN ?_ _ | refine blk_drew ?_ | refine blk_alloc ?_ _)); refine blk_far ?_ NB203_211.out _; (with_reducible repeat (first | refine blk_drewN ?_ _ | refine blk_drew ?_ | refine blk_alloc ?_ _)); exact BK203.out⟩, ⟨by (with_reducible repeat (first | refine blk_drewN ?_ _ | refine blk_drew ?_ | refine blk_alloc ?_ _)); refine blk_far ?_ NB209_211.out _; (with_reducible repeat (first | refine blk_drewN ?_ _ | refine blk_drew ?_ | refine blk_alloc ?_ _)); refine blk_far ?_ NB209_211.out _; (with_reducible repeat (first | refine blk_drewN ?_ _ | refine blk_drew ?_ | refine blk_alloc ?_ _)); refine blk_far ?_ NB209_211.out _; (with_reducible repeat (first | refine blk_drewN ?_ _ | refine blk_drew ?_ | refine blk_alloc ?_ _)); refine blk_far ?_ NB209_211.out _; (with_reducible repeat (first | refine blk_drewN ?_ _ | refine blk_drew ?_ | refine blk_alloc ?_ _)); exact BK209.out⟩, ⟨by repeat (first | (with_reducible first | exact HB.out | apply below_alloc | apply pw_below_drewN | apply below_drew1 | refine below_set ?_ GE203.out | refine below_set ?_ GE209.out | refine below_set ?_ GE211.out) | exact HB.out)⟩⟩
                  · rw [if_neg c23] at H
                    exact absurd H (by simp)
                · rw [if_neg c22] at H
                  exact absurd H (by simp)
              · rw [if_neg c21] at H
                have c21b0 : decide (x31_2 < (l0.length : Int)) = false := decide_eq_false c21
                clear c21
                by_cases c41 : (l0.length : Int) > 0
                · rw [if_pos c41] at H
                  have c41b0 : decide (0 < (l0.length : Int)) = true := decide_eq_true c41
                  have c41b1 : decide (0 < l0.length) = true := decide_eq_true (by omega)
                  clear c41
                  obtain rfl := Option.some.inj H
                  go_wp2
                  go_ret
                  exact ⟨by first | rfl | (simp [errW_none, errW_some] <;> rfl) | (simp [*, errW_none, errW_some] <;> rfl), by repeat (first | (with_reducible first | exact HB.out | apply below_alloc | apply pw_below_drewN | apply below_drew1 | refine below_set ?_ GE203.out | refine below_set ?_ GE209.out) | exact HB.out)⟩
                · rw [if_neg c41] at H
                  have c41b0 : decide (0 < (l0.length : Int)) = false := decide_eq_false c41
                  have c41b1 : decide (0 < l0.length) = false := decide_eq_false (by omega)
                  clear c41
                  obtain rfl := Option.some.inj H
                  go_wp2
                  go_ret
                  exact ⟨by first | rfl | (simp [errW_none, errW_some] <;> rfl) | (simp [*, errW_none, errW_some] <;> rfl), by repeat (first | (with_reducible first | exact HB.out | apply below_alloc | apply pw_below_drewN | apply below_drew1 | refine below_set ?_ GE203.out | refine below_set ?_ GE209.out) | exact HB.out)⟩
  · replace c3 := Bool.eq_false_iff.mpr c3
    subst c3
    have H1 : (some true) = some r := by rw [if_neg (show ¬ (false = true) by decide)] at H; exact H
    clear H
    have H := H1
    clear H1
    obtain rfl := Option.some.inj H
    go_enter Try.func9, Try.ntmps9
    go_wp2_with (first | ((with_reducible refine gate_callee (f := 27) rfl ?_); refine goesL_ (some 10) rfl rfl Try.func27 (by kernel_rfl) rfl #[.slice A0 l0.length c0] rfl (by (try simp only [List.map_toArray, List.map_cons, List.map_nil]); first | done | rfl | (simp only [List.length_drop, List.length_take]; rfl)) ?_; (with_reducible refine (laws_zzFits2.calls k _ _ l0 false _ ?side1 ?side2 A2.out).mono ?_); (case side1 => repeat (first | exact HR0.out | (with_reducible refine Kd.C_alloc ?_ _) | (with_reducible refine Kd.C_drewN ?_ _) | (with_reducible refine Kd.C_drew ?_))); (case side2 => exact HC0.out); rintro e w42 ⟨rfl, hb⟩; refine ⟨_, rfl, ?_⟩; have n0_ := Aside0.mk (below_step (by repeat (first | (with_reducible first | exact HB.out | apply below_alloc | apply pw_below_drewN | apply below_drew1) | exact HB.out)) hb); clear HB; have HB := n0_; clear n0_; (try clear hb); (try clear hb2); (try clear hk); (try clear hi)))
    go_ret
    exact ⟨by first | rfl | (simp [errW_none, errW_some] <;> rfl) | (simp [*, errW_none, errW_some] <;> rfl), by repeat (first | (with_reducible first | exact HB.out | apply below_alloc | apply pw_below_drewN | apply below_drew1) | exact HB.out)⟩

end Go.Proofs.Ytjmcndbkmknemaa.Q
