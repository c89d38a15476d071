import Derived.Test.YtjklempjljikpaaQ0
import Derived.Test.YtjklempjljikpaaQ5
import Derived.Test.YtjklempjljikpaaQ9
import Derived.Test.YtjklempjljikpaaQ14
import Derived.Test.YtjklempjljikpaaQ17
-- Written by a program of this session out of the translation, with the kit's printer. Not trusted: Lean checks it.
namespace Go.Proofs.Ytjklempjljikpaa.Q
open Go.RowKit Go.Proofs.YtjklempjljikpaaW.PrintWords Go.Proofs.YtjklempjljikpaaW.PrintLast Go.Proofs.YtjklempjljikpaaW.PrintMore
attribute [local go_sem] max2_int min2_int max_two min_two max_three min_three max_four min_four   -- for this text's walks alone
set_option linter.unusedVariables false
set_option linter.unusedSimpArgs false

/-! ### laws_FnArgsBack: function 8 -/
def laws_FnArgsBack.l0 : Nat → List (S36) → List (S36) → Int → Int → Option (Bool)
  | 0, _, _, _, _ => none
  | k + 1, x0, x13, x14, x15 => if x15 < x14 then (if 0 ≤ x15 then (if x15 < (x13.length : Int) then (if ((rd_T36 x13 x15).f0).toList = ([] : List UInt8) then (some true) else (if (rd_T36 x13 x15).f2 = true then (if ((rd_T36 x13 x15).f1).toList = ([] : List UInt8) then (laws_FnArgsBack.l0 k x0 x13 x14 (wrap64 (x15 + 1))) else (some true)) else (laws_FnArgsBack.l0 k x0 x13 x14 (wrap64 (x15 + 1))))) else (none)) else (none)) else ((impl_ArgsText.f x0).bind fun t332 => ((impl_ArgsOf.f t332).bind fun t333 => ((laws_sameArgs.f k t333 x0).bind fun t336 => (some t336))))
def laws_FnArgsBack.f (k : Nat) (l0 : List (S36)) : Option (Bool) := (laws_zzFits7.f k l0).bind fun t327 => (if t327 = true then ((laws_reads.f k).bind fun t328 => (if t328 = true then ((laws_few.f k l0).bind fun t329 => (if t329 = true then (laws_FnArgsBack.l0 k l0 l0 (l0.length : Int) 0) else (some true))) else (some false))) else (some true))
theorem laws_FnArgsBack.mono_l : ∀ k, (∀ y0 y1 y2 y3, LeO (laws_FnArgsBack.l0 k y0 y1 y2 y3) (laws_FnArgsBack.l0 (k + 1) y0 y1 y2 y3))
  | 0 => fun _ _ _ _ r h => by simp [laws_FnArgsBack.l0] at h
  | k + 1 => by
    have ih0 := laws_FnArgsBack.mono_l k
    · intro y0 y1 y2 y3
      unfold laws_FnArgsBack.l0
      repeat' first
      | (with_reducible exact ih0 _ _ _ _)
      | (with_reducible exact laws_few.mono _ _)
      | (with_reducible exact laws_reads.mono _)
      | (with_reducible exact laws_sameArgs.mono _ _ _)
      | (with_reducible exact laws_zzFits7.mono _ _)
      | (with_reducible exact LeO.refl _)
      | (with_reducible exact LeO.none _)
      | (with_reducible refine LeO.ite ?_ ?_)
      | (with_reducible refine LeO.bind ?_ (fun _ => ?_))
      | exact ih0 _ _ _ _
      | exact laws_few.mono _ _
      | exact laws_reads.mono _
      | exact laws_sameArgs.mono _ _ _
      | exact laws_zzFits7.mono _ _
      | exact LeO.none _
      | refine LeO.ite ?_ ?_
      | refine LeO.bind ?_ (fun _ => ?_)
theorem laws_FnArgsBack.mono : ∀ a0 k, LeO (laws_FnArgsBack.f k a0) (laws_FnArgsBack.f (k + 1) a0) := by
  intro a0 k
  have ih0 := laws_FnArgsBack.mono_l k
  unfold laws_FnArgsBack.f
  repeat' first
      | (with_reducible exact ih0 _ _ _ _)
      | (with_reducible exact laws_few.mono _ _)
      | (with_reducible exact laws_reads.mono _)
      | (with_reducible exact laws_sameArgs.mono _ _ _)
      | (with_reducible exact laws_zzFits7.mono _ _)
      | (with_reducible exact LeO.refl _)
      | (with_reducible exact LeO.none _)
      | (with_reducible refine LeO.ite ?_ ?_)
      | (with_reducible refine LeO.bind ?_ (fun _ => ?_))
      | exact ih0 _ _ _ _
      | exact laws_few.mono _ _
      | exact laws_reads.mono _
      | exact laws_sameArgs.mono _ _ _
      | exact laws_zzFits7.mono _ _
      | exact LeO.none _
      | refine LeO.ite ?_ ?_
      | refine LeO.bind ?_ (fun _ => ?_)
set_option maxHeartbeats 8000000 in
set_option maxRecDepth 100000 in
theorem laws_FnArgsBack.calls (k : Nat) (A0 : Option Addr) (c0 : Nat) (l0 : List (S36)) (r : Bool) (w : World) (hr0 : Kd.C k36 w A0 l0.length l0) (hc0 : l0.length ≤ c0) (h : laws_FnArgsBack.f k l0 = some r) :
    Calls Try.prog 8 #[.slice A0 l0.length c0] w fun e w' => e = .returned (.bool r) ∧ Below w.heap.size w w' := by
  have hu36 := Try.underlying36
  have HR0 := Aside0.mk hr0
  have HC0 := Aside0.mk hc0
  clear hr0 hc0
  have HB := Aside0.mk (Below.refl w.heap.size w)
  have H : ((laws_zzFits7.f k l0).bind fun t327 => (if t327 = true then ((laws_reads.f k).bind fun t328 => (if t328 = true then ((laws_few.f k l0).bind fun t329 => (if t329 = true then (laws_FnArgsBack.l0 k l0 l0 (l0.length : Int) 0) else (some true))) else (some false))) else (some true))) = some r := h
  clear h
  replace H := Option.bind_eq_some_iff.mp H
  obtain ⟨t327, A20, H⟩ := H
  replace H : (if t327 = true then ((laws_reads.f k).bind fun t328 => (if t328 = true then ((laws_few.f k l0).bind fun t329 => (if t329 = true then (laws_FnArgsBack.l0 k l0 l0 (l0.length : Int) 0) else (some true))) else (some false))) else (some true)) = some r := H
  have A2 := Aside0.mk A20
  clear A20
  by_cases c3 : t327 = true
  · subst c3
    have H1 : ((laws_reads.f k).bind fun t328 => (if t328 = true then ((laws_few.f k l0).bind fun t329 => (if t329 = true then (laws_FnArgsBack.l0 k l0 l0 (l0.length : Int) 0) else (some true))) else (some false))) = some r := by rw [if_pos rfl] at H; exact H
    clear H
    have H := H1
    clear H1
    replace H := Option.bind_eq_some_iff.mp H
    obtain ⟨t328, A40, H⟩ := H
    replace H : (if t328 = true then ((laws_few.f k l0).bind fun t329 => (if t329 = true then (laws_FnArgsBack.l0 k l0 l0 (l0.length : Int) 0) else (some true))) else (some false)) = some r := H
    have A4 := Aside0.mk A40
    clear A40
    by_cases c5 : t328 = true
    · subst c5
      have H1 : ((laws_few.f k l0).bind fun t329 => (if t329 = true then (laws_FnArgsBack.l0 k l0 l0 (l0.length : Int) 0) else (some true))) = some r := by rw [if_pos rfl] at H; exact H
      clear H
      have H := H1
      clear H1
      replace H := Option.bind_eq_some_iff.mp H
      obtain ⟨t329, A60, H⟩ := H
      replace H : (if t329 = true then (laws_FnArgsBack.l0 k l0 l0 (l0.length : Int) 0) else (some true)) = some r := H
      have A6 := Aside0.mk A60
      clear A60
      by_cases c7 : t329 = true
      · subst c7
        have H1 : (laws_FnArgsBack.l0 k l0 l0 (l0.length : Int) 0) = some r := by rw [if_pos rfl] at H; exact H
        clear H
        have H := H1
        clear H1
        have H' := Aside0.mk H
        clear H
        go_enter Try.func8, Try.ntmps8
        go_wp2_with (first | ((with_reducible refine gate_callee (f := 26) rfl ?_); refine goesL_ (some 6) rfl rfl Try.func26 (by kernel_rfl) rfl #[.slice A0 l0.length c0] rfl (by (try simp only [List.map_toArray, List.map_cons, List.map_nil]); first | done | rfl | (simp only [List.length_drop, List.length_take]; rfl)) ?_; (with_reducible refine (laws_zzFits7.calls k _ _ l0 true _ ?side1 ?side2 A2.out).mono ?_); (case side1 => repeat (first | exact HR0.out | (with_reducible refine Kd.C_alloc ?_ _) | (with_reducible refine Kd.C_drewN ?_ _) | (with_reducible refine Kd.C_drew ?_))); (case side2 => exact HC0.out); rintro e w8 ⟨rfl, hb⟩; refine ⟨_, rfl, ?_⟩; have n0_ := Aside0.mk (below_step (by repeat (first | (with_reducible first | exact HB.out | apply below_alloc | apply pw_below_drewN | apply below_drew1) | exact HB.out)) hb); clear HB; have HB := n0_; clear n0_; (try clear hb); (try clear hb2); (try clear hk); (try clear hi)) | ((with_reducible refine gate_callee (f := 22) rfl ?_); refine goesL_ (some 8) rfl rfl Try.func22 (by kernel_rfl) rfl #[] rfl (by (try simp only [List.map_toArray, List.map_cons, List.map_nil]); first | done | rfl | (simp only [List.length_drop, List.length_take]; rfl)) ?_; (with_reducible refine (laws_reads.calls k  true _ A4.out).mono ?_); rintro e w9 ⟨rfl, hb⟩; refine ⟨_, rfl, ?_⟩; have n0_ := Aside0.mk (below_step (by repeat (first | (with_reducible first | exact HB.out | apply below_alloc | apply pw_below_drewN | apply below_drew1) | exact HB.out)) hb); clear HB; have HB := n0_; clear n0_; (try clear hb); (try clear hb2); (try clear hk); (try clear hi)) | ((with_reducible refine gate_callee (f := 27) rfl ?_); refine goesL_ (some 11) rfl rfl Try.func27 (by kernel_rfl) rfl #[.slice A0 l0.length c0] rfl (by (try simp only [List.map_toArray, List.map_cons, List.map_nil]); first | done | rfl | (simp only [List.length_drop, List.length_take]; rfl)) ?_; (with_reducible refine (laws_few.calls k _ _ l0 true _ ?side1 ?side2 A6.out).mono ?_); (case side1 => repeat (first | exact (Kd.C_below HR0.out HB.out) | (with_reducible refine Kd.C_alloc ?_ _) | (with_reducible refine Kd.C_drewN ?_ _) | (with_reducible refine Kd.C_drew ?_))); (case side2 => exact HC0.out); rintro e w10 ⟨rfl, hb⟩; refine ⟨_, rfl, ?_⟩; have n0_ := Aside0.mk (below_step (by repeat (first | (with_reducible first | exact HB.out | apply below_alloc | apply pw_below_drewN | apply below_drew1) | exact HB.out)) hb); clear HB; have HB := n0_; clear n0_; (try clear hb); (try clear hb2); (try clear hk); (try clear hi)))
        go_loopg [15] k (fun kq v15 w' => ∃ (x15_1 : Int), v15 = .int .i64 x15_1 ∧ Aside0 (laws_FnArgsBack.l0 kq l0 l0 (l0.length : Int) x15_1 = some r) ∧ Aside0 (kq ≤ k) ∧ Aside0 (Below w.heap.size w w'))
        case atStart => exact ⟨(0), (by first | rfl | (simp; done) | (simp [*]; done) | (simp [Go.Proofs.YtjklempjljikpaaX.isEmpty_ne]; done)), H', ⟨Nat.le_refl _⟩, ⟨by repeat (first | (with_reducible first | exact HB.out | apply below_alloc | apply pw_below_drewN | apply below_drew1) | exact HB.out)⟩⟩
        case round =>
          clear H'
          try clear c2
          try clear p2
          try clear c3
          try clear c5
          try clear c7
          try clear c8
          obtain ⟨x15_1, rfl, HA, HK1, HB⟩ := hrel
          cases gk with
          | zero => exact absurd HA.out (by simp [laws_FnArgsBack.l0])
          | succ k1 =>
            have H := HA.out
            clear HA
            simp only [laws_FnArgsBack.l0] at H
            by_cases c11 : x15_1 < (l0.length : Int)
            · rw [if_pos c11] at H
              have c11b0 : decide (x15_1 < (l0.length : Int)) = true := decide_eq_true c11
              clear c11
              by_cases c12 : 0 ≤ x15_1
              · rw [if_pos c12] at H
                have c12b0 : decide (0 ≤ x15_1) = true := decide_eq_true c12
                clear c12
                by_cases c13 : x15_1 < (l0.length : Int)
                · rw [if_pos c13] at H
                  have c13b0 : decide (x15_1 < (l0.length : Int)) = true := decide_eq_true c13
                  clear c13
                  by_cases c14 : ((rd_T36 l0 x15_1).f0).toList = ([] : List UInt8)
                  · rw [if_pos c14] at H
                    have c14b0 : (((rd_T36 l0 x15_1).f0).toList == ([] : List UInt8)) = true := beq_iff_eq.mpr c14
                    have c14b1 : (((rd_T36 l0 x15_1).f0).toList != ([] : List UInt8)) = false := bne_eq_false_iff_eq.mpr c14
                    clear c14
                    obtain rfl := Option.some.inj H
                    have p330 : 0 ≤ (x15_1 : Int) := of_decide_eq_true (by first | (with_reducible assumption) | assumption)
                    have q330 : x15_1 < (l0.length : Int) := of_decide_eq_true (by first | (with_reducible assumption) | assumption)
                    obtain ⟨ad330, e330, hx330_0, hx330_1, hx330_2⟩ := at_T36 HR0.out x15_1 p330 q330
                    cases e330
                    replace hx330_0 := (HB.out.cell (World.block_lt_of_cell? w _ hx330_0)).trans hx330_0
                    replace hx330_1 := (HB.out.cell (World.block_lt_of_cell? w _ hx330_1)).trans hx330_1
                    replace hx330_2 := (HB.out.cell (World.block_lt_of_cell? w _ hx330_2)).trans hx330_2
                    replace p330 := eq_true p330
                    replace q330 := eq_true q330
                    go_wp2_with (first | ((with_reducible refine gate_dst (N := 4) rfl ?_); refine box_event ?hg (N := 4) ?hd (cs := #[.string (⟨#[]⟩ : ByteArray), .string (⟨#[]⟩ : ByteArray), .bool false]) (t := 36) ?hr ?_; (case hd => rfl); (case hg => rfl); (case hr => first | (go_simp; done) | (go_simp; rfl)); intro gb331 hg w15 hbox hb; have n0_ := Aside0.mk (below_step (by repeat (first | (with_reducible first | exact HB.out | apply below_alloc | apply pw_below_drewN | apply below_drew1) | exact HB.out)) hb); have n1_ := Aside0.mk (hbox); have n2_ := Aside0.mk ((by rw [hg]; exact (below_size (by repeat (first | (with_reducible first | exact HB.out | apply below_alloc | apply pw_below_drewN | apply below_drew1) | exact HB.out))) : w.heap.size ≤ gb331)); have n3_ := Aside0.mk ((by rw [hg]; exact (below_size (by repeat (first | (with_reducible first | exact HB.out | apply below_alloc | apply pw_below_drewN | apply below_drew1) | exact HB.out))) : w.heap.size ≤ gb331)); clear HB; have HB := n0_; have BK331 := n1_; have GW331 := n2_; have GE331 := n3_; clear n0_ n1_ n2_ n3_; clear hb hbox hg; have hcz16_0 : w15.cell? ⟨gb331, 0, none⟩ = some (.string (⟨#[]⟩ : ByteArray)) := (blk_cell BK331.out 0).trans rfl; have hcz16_1 : w15.cell? ⟨gb331, 1, none⟩ = some (.string (⟨#[]⟩ : ByteArray)) := (blk_cell BK331.out 1).trans rfl; have hcz16_2 : w15.cell? ⟨gb331, 2, none⟩ = some (.bool false) := (blk_cell BK331.out 2).trans rfl; have hfz16_0 := blk_frozen BK331.out 0; have hfz16_1 := blk_frozen BK331.out 1; have hfz16_2 := blk_frozen BK331.out 2))
                    go_ret
                    exact ⟨by first | rfl | (simp [errW_none, errW_some] <;> rfl) | (simp [*, errW_none, errW_some] <;> rfl), by repeat (first | (with_reducible first | exact HB.out | apply below_alloc | apply pw_below_drewN | apply below_drew1 | refine below_set ?_ GE331.out) | exact HB.out)⟩
                  · rw [if_neg c14] at H
                    have c14b0 : (((rd_T36 l0 x15_1).f0).toList == ([] : List UInt8)) = false := beq_eq_false_iff_ne.mpr c14
                    have c14b1 : (((rd_T36 l0 x15_1).f0).toList != ([] : List UInt8)) = true := bne_iff_ne.mpr c14
                    obtain ⟨bq17, hbq17⟩ : ∃ b_ : Bool, b_ = ((rd_T36 l0 x15_1).f2) := ⟨_, rfl⟩
                    replace H : (if bq17 = true then (if ((rd_T36 l0 x15_1).f1).toList = ([] : List UInt8) then (laws_FnArgsBack.l0 k1 l0 l0 (l0.length : Int) (wrap64 (x15_1 + 1))) else (some true)) else (laws_FnArgsBack.l0 k1 l0 l0 (l0.length : Int) (wrap64 (x15_1 + 1)))) = some r := by rw [← hbq17] at H; exact H
                    have Nbq17 := Aside0.mk hbq17
                    clear hbq17
                    by_cases c18 : bq17 = true
                    · subst c18
                      have H1 : (if ((rd_T36 l0 x15_1).f1).toList = ([] : List UInt8) then (laws_FnArgsBack.l0 k1 l0 l0 (l0.length : Int) (wrap64 (x15_1 + 1))) else (some true)) = some r := by rw [if_pos rfl] at H; exact H
                      clear H
                      have H := H1
                      clear H1
                      by_cases c19 : ((rd_T36 l0 x15_1).f1).toList = ([] : List UInt8)
                      · rw [if_pos c19] at H
                        have c19b0 : (((rd_T36 l0 x15_1).f1).toList == ([] : List UInt8)) = true := beq_iff_eq.mpr c19
                        have c19b1 : (((rd_T36 l0 x15_1).f1).toList != ([] : List UInt8)) = false := bne_eq_false_iff_eq.mpr c19
                        clear c19
                        have H' := Aside0.mk H
                        clear H
                        have p330 : 0 ≤ (x15_1 : Int) := of_decide_eq_true (by first | (with_reducible assumption) | assumption)
                        have q330 : x15_1 < (l0.length : Int) := of_decide_eq_true (by first | (with_reducible assumption) | assumption)
                        obtain ⟨ad330, e330, hx330_0, hx330_1, hx330_2⟩ := at_T36 HR0.out x15_1 p330 q330
                        (try rw [← Nbq17.out] at hx330_2)
                        cases e330
                        replace hx330_0 := (HB.out.cell (World.block_lt_of_cell? w _ hx330_0)).trans hx330_0
                        replace hx330_1 := (HB.out.cell (World.block_lt_of_cell? w _ hx330_1)).trans hx330_1
                        replace hx330_2 := (HB.out.cell (World.block_lt_of_cell? w _ hx330_2)).trans hx330_2
                        replace p330 := eq_true p330
                        replace q330 := eq_true q330
                        go_wp2_with (first | ((with_reducible refine gate_dst (N := 4) rfl ?_); refine box_event ?hg (N := 4) ?hd (cs := #[.string (⟨#[]⟩ : ByteArray), .string (⟨#[]⟩ : ByteArray), .bool false]) (t := 36) ?hr ?_; (case hd => rfl); (case hg => rfl); (case hr => first | (go_simp; done) | (go_simp; rfl)); intro gb331 hg w20 hbox hb; have n0_ := Aside0.mk (below_step (by repeat (first | (with_reducible first | exact HB.out | apply below_alloc | apply pw_below_drewN | apply below_drew1) | exact HB.out)) hb); have n1_ := Aside0.mk (hbox); have n2_ := Aside0.mk ((by rw [hg]; exact (below_size (by repeat (first | (with_reducible first | exact HB.out | apply below_alloc | apply pw_below_drewN | apply below_drew1) | exact HB.out))) : w.heap.size ≤ gb331)); have n3_ := Aside0.mk ((by rw [hg]; exact (below_size (by repeat (first | (with_reducible first | exact HB.out | apply below_alloc | apply pw_below_drewN | apply below_drew1) | exact HB.out))) : w.heap.size ≤ gb331)); clear HB; have HB := n0_; have BK331 := n1_; have GW331 := n2_; have GE331 := n3_; clear n0_ n1_ n2_ n3_; clear hb hbox hg; have hcz21_0 : w20.cell? ⟨gb331, 0, none⟩ = some (.string (⟨#[]⟩ : ByteArray)) := (blk_cell BK331.out 0).trans rfl; have hcz21_1 : w20.cell? ⟨gb331, 1, none⟩ = some (.string (⟨#[]⟩ : ByteArray)) := (blk_cell BK331.out 1).trans rfl; have hcz21_2 : w20.cell? ⟨gb331, 2, none⟩ = some (.bool false) := (blk_cell BK331.out 2).trans rfl; have hfz21_0 := blk_frozen BK331.out 0; have hfz21_1 := blk_frozen BK331.out 1; have hfz21_2 := blk_frozen BK331.out 2))
                        go_roundg k1
                        case measure => have := HK1.out; omega
                        case rel => exact ⟨(wrap64 (x15_1 + 1)), (by first | rfl | (simp; done) | (simp [*]; done) | (simp [Go.Proofs.YtjklempjljikpaaX.isEmpty_ne]; done)), H', ⟨by have := HK1.out; omega⟩, ⟨by repeat (first | (with_reducible first | exact HB.out | apply below_alloc | apply pw_below_drewN | apply below_drew1 | refine below_set ?_ GE331.out) | exact HB.out)⟩⟩
                      · rw [if_neg c19] at H
                        have c19b0 : (((rd_T36 l0 x15_1).f1).toList == ([] : List UInt8)) = false := beq_eq_false_iff_ne.mpr c19
                        have c19b1 : (((rd_T36 l0 x15_1).f1).toList != ([] : List UInt8)) = true := bne_iff_ne.mpr c19
                        obtain rfl := Option.some.inj H
                        have p330 : 0 ≤ (x15_1 : Int) := of_decide_eq_true (by first | (with_reducible assumption) | assumption)
                        have q330 : x15_1 < (l0.length : Int) := of_decide_eq_true (by first | (with_reducible assumption) | assumption)
                        obtain ⟨ad330, e330, hx330_0, hx330_1, hx330_2⟩ := at_T36 HR0.out x15_1 p330 q330
                        (try rw [← Nbq17.out] at hx330_2)
                        cases e330
                        replace hx330_0 := (HB.out.cell (World.block_lt_of_cell? w _ hx330_0)).trans hx330_0
                        replace hx330_1 := (HB.out.cell (World.block_lt_of_cell? w _ hx330_1)).trans hx330_1
                        replace hx330_2 := (HB.out.cell (World.block_lt_of_cell? w _ hx330_2)).trans hx330_2
                        replace p330 := eq_true p330
                        replace q330 := eq_true q330
                        go_wp2_with (first | ((with_reducible refine gate_dst (N := 4) rfl ?_); refine box_event ?hg (N := 4) ?hd (cs := #[.string (⟨#[]⟩ : ByteArray), .string (⟨#[]⟩ : ByteArray), .bool false]) (t := 36) ?hr ?_; (case hd => rfl); (case hg => rfl); (case hr => first | (go_simp; done) | (go_simp; rfl)); intro gb331 hg w22 hbox hb; have n0_ := Aside0.mk (below_step (by repeat (first | (with_reducible first | exact HB.out | apply below_alloc | apply pw_below_drewN | apply below_drew1) | exact HB.out)) hb); have n1_ := Aside0.mk (hbox); have n2_ := Aside0.mk ((by rw [hg]; exact (below_size (by repeat (first | (with_reducible first | exact HB.out | apply below_alloc | apply pw_below_drewN | apply below_drew1) | exact HB.out))) : w.heap.size ≤ gb331)); have n3_ := Aside0.mk ((by rw [hg]; exact (below_size (by repeat (first | (with_reducible first | exact HB.out | apply below_alloc | apply pw_below_drewN | apply below_drew1) | exact HB.out))) : w.heap.size ≤ gb331)); clear HB; have HB := n0_; have BK331 := n1_; have GW331 := n2_; have GE331 := n3_; clear n0_ n1_ n2_ n3_; clear hb hbox hg; have hcz23_0 : w22.cell? ⟨gb331, 0, none⟩ = some (.string (⟨#[]⟩ : ByteArray)) := (blk_cell BK331.out 0).trans rfl; have hcz23_1 : w22.cell? ⟨gb331, 1, none⟩ = some (.string (⟨#[]⟩ : ByteArray)) := (blk_cell BK331.out 1).trans rfl; have hcz23_2 : w22.cell? ⟨gb331, 2, none⟩ = some (.bool false) := (blk_cell BK331.out 2).trans rfl; have hfz23_0 := blk_frozen BK331.out 0; have hfz23_1 := blk_frozen BK331.out 1; have hfz23_2 := blk_frozen BK331.out 2))
                        go_ret
                        exact ⟨by first | rfl | (simp [errW_none, errW_some] <;> rfl) | (simp [*, errW_none, errW_some] <;> rfl), by repeat (first | (with_reducible first | exact HB.out | apply below_alloc | apply pw_below_drewN | apply below_drew1 | refine below_set ?_ GE331.out) | exact HB.out)⟩
                    · replace c18 := Bool.eq_false_iff.mpr c18
                      subst c18
                      have H1 : (laws_FnArgsBack.l0 k1 l0 l0 (l0.length : Int) (wrap64 (x15_1 + 1))) = some r := by rw [if_neg (show ¬ (false = true) by decide)] at H; exact H
                      clear H
                      have H := H1
                      clear H1
                      have H' := Aside0.mk H
                      clear H
                      have p330 : 0 ≤ (x15_1 : Int) := of_decide_eq_true (by first | (with_reducible assumption) | assumption)
                      have q330 : x15_1 < (l0.length : Int) := of_decide_eq_true (by first | (with_reducible assumption) | assumption)
                      obtain ⟨ad330, e330, hx330_0, hx330_1, hx330_2⟩ := at_T36 HR0.out x15_1 p330 q330
                      (try rw [← Nbq17.out] at hx330_2)
                      cases e330
                      replace hx330_0 := (HB.out.cell (World.block_lt_of_cell? w _ hx330_0)).trans hx330_0
                      replace hx330_1 := (HB.out.cell (World.block_lt_of_cell? w _ hx330_1)).trans hx330_1
                      replace hx330_2 := (HB.out.cell (World.block_lt_of_cell? w _ hx330_2)).trans hx330_2
                      replace p330 := eq_true p330
                      replace q330 := eq_true q330
                      go_wp2_with (first | ((with_reducible refine gate_dst (N := 4) rfl ?_); refine box_event ?hg (N := 4) ?hd (cs := #[.string (⟨#[]⟩ : ByteArray), .string (⟨#[]⟩ : ByteArray), .bool false]) (t := 36) ?hr ?_; (case hd => rfl); (case hg => rfl); (case hr => first | (go_simp; done) | (go_simp; rfl)); intro gb331 hg w24 hbox hb; have n0_ := Aside0.mk (below_step (by repeat (first | (with_reducible first | exact HB.out | apply below_alloc | apply pw_below_drewN | apply below_drew1) | exact HB.out)) hb); have n1_ := Aside0.mk (hbox); have n2_ := Aside0.mk ((by rw [hg]; exact (below_size (by repeat (first | (with_reducible first | exact HB.out | apply below_alloc | apply pw_below_drewN | apply below_drew1) | exact HB.out))) : w.heap.size ≤ gb331)); have n3_ := Aside0.mk ((by rw [hg]; exact (below_size (by repeat (first | (with_reducible first | exact HB.out | apply below_alloc | apply pw_below_drewN | apply below_drew1) | exact HB.out))) : w.heap.size ≤ gb331)); clear HB; have HB := n0_; have BK331 := n1_; have GW331 := n2_; have GE331 := n3_; clear n0_ n1_ n2_ n3_; clear hb hbox hg; have hcz25_0 : w24.cell? ⟨gb331, 0, none⟩ = some (.string (⟨#[]⟩ : ByteArray)) := (blk_cell BK331.out 0).trans rfl; have hcz25_1 : w24.cell? ⟨gb331, 1, none⟩ = some (.string (⟨#[]⟩ : ByteArray)) := (blk_cell BK331.out 1).trans rfl; have hcz25_2 : w24.cell? ⟨gb331, 2, none⟩ = some (.bool false) := (blk_cell BK331.out 2).trans rfl; have hfz25_0 := blk_frozen BK331.out 0; have hfz25_1 := blk_frozen BK331.out 1; have hfz25_2 := blk_frozen BK331.out 2))
                      go_roundg k1
                      case measure => have := HK1.out; omega
                      case rel => exact ⟨(wrap64 (x15_1 + 1)), (by first | rfl | (simp; done) | (simp [*]; done) | (simp [Go.Proofs.YtjklempjljikpaaX.isEmpty_ne]; done)), H', ⟨by have := HK1.out; omega⟩, ⟨by repeat (first | (with_reducible first | exact HB.out | apply below_alloc | apply pw_below_drewN | apply below_drew1 | refine below_set ?_ GE331.out) | exact HB.out)⟩⟩
                · rw [if_neg c13] at H
                  exact absurd H (by simp)
              · rw [if_neg c12] at H
                exact absurd H (by simp)
            · rw [if_neg c11] at H
              have c11b0 : decide (x15_1 < (l0.length : Int)) = false := decide_eq_false c11
              clear c11
              replace H := Option.bind_eq_some_iff.mp H
              obtain ⟨t332, A260, H⟩ := H
              replace H : ((impl_ArgsOf.f t332).bind fun t333 => ((laws_sameArgs.f k1 t333 l0).bind fun t336 => (some t336))) = some r := H
              have A26 := Aside0.mk A260
              clear A260
              replace H := Option.bind_eq_some_iff.mp H
              obtain ⟨t333, A270, H⟩ := H
              replace H : ((laws_sameArgs.f k1 t333 l0).bind fun t336 => (some t336)) = some r := H
              have A27 := Aside0.mk A270
              clear A270
              replace H := Option.bind_eq_some_iff.mp H
              obtain ⟨t336, A280, H⟩ := H
              replace H : (some t336) = some r := H
              have A28 := Aside0.mk A280
              clear A280
              obtain rfl := Option.some.inj H
              go_wp2_with (first | ((with_reducible refine gate_callee (f := 25) rfl ?_); refine goesL_ (some 33) rfl rfl Try.func25 (by kernel_rfl) rfl #[.slice A0 l0.length c0] rfl (by (try simp only [List.map_toArray, List.map_cons, List.map_nil]); first | done | rfl | (simp only [List.length_drop, List.length_take]; rfl)) ?_; (with_reducible refine (impl_ArgsText.calls _ _ l0 t332 _ ?side1 ?side2 A26.out).mono ?_); (case side1 => repeat (first | exact (Kd.C_below HR0.out HB.out) | (with_reducible refine Kd.C_alloc ?_ _) | (with_reducible refine Kd.C_drewN ?_ _) | (with_reducible refine Kd.C_drew ?_))); (case side2 => exact HC0.out); rintro e w29 ⟨rfl, hb⟩; refine ⟨_, rfl, ?_⟩; have n0_ := Aside0.mk (below_step (by repeat (first | (with_reducible first | exact HB.out | apply below_alloc | apply pw_below_drewN | apply below_drew1) | exact HB.out)) hb); clear HB; have HB := n0_; clear n0_; (try clear hb); (try clear hb2); (try clear hk); (try clear hi)) | ((with_reducible refine gate_callee (f := 23) rfl ?_); refine goesL_ (some 34) rfl rfl Try.func23 (by kernel_rfl) rfl #[.string t332] rfl (by (try simp only [List.map_toArray, List.map_cons, List.map_nil]); first | done | rfl | (simp only [List.length_drop, List.length_take]; rfl)) ?_; (with_reducible refine (impl_ArgsOf.calls t332 t333 _ A27.out).mono ?_); rintro e w30 ⟨v334, rfl, ho0, hb⟩; refine ⟨_, rfl, ?_⟩; have n0_ := Aside0.mk (Kd.R_lower ho0 (below_size (by repeat (first | (with_reducible first | exact HB.out | apply below_alloc | apply pw_below_drewN | apply below_drew1) | exact HB.out)))); have n1_ := Aside0.mk (below_step (by repeat (first | (with_reducible first | exact HB.out | apply below_alloc | apply pw_below_drewN | apply below_drew1) | exact HB.out)) hb); clear HB; have HO335 := n0_; have HB := n1_; clear n0_ n1_; (try clear hb); (try clear hb2); (try clear hk); (try clear hi); (try clear ho0); obtain ⟨Ao31, co31, eo31⟩ := Kd.R_slice HO335.out; subst eo31) | ((with_reducible refine gate_callee (f := 24) rfl ?_); refine goesL_ (some 36) rfl rfl Try.func24 (by kernel_rfl) rfl #[.slice Ao31 t333.length co31, .slice A0 l0.length c0] rfl (by (try simp only [List.map_toArray, List.map_cons, List.map_nil]); first | done | rfl | (simp only [List.length_drop, List.length_take]; rfl)) ?_; (with_reducible refine (laws_sameArgs.calls k1 _ _ t333 _ _ l0 t336 _ ?side1 ?side2 ?side3 ?side4 A28.out).mono ?_); (case side1 => repeat (first | exact (Kd.R_reads' HO335.out).2.2 | (with_reducible refine Kd.C_alloc ?_ _) | (with_reducible refine Kd.C_drewN ?_ _) | (with_reducible refine Kd.C_drew ?_))); (case side2 => exact (Kd.R_reads' HO335.out).2.1); (case side3 => repeat (first | exact (Kd.C_below HR0.out HB.out) | (with_reducible refine Kd.C_alloc ?_ _) | (with_reducible refine Kd.C_drewN ?_ _) | (with_reducible refine Kd.C_drew ?_))); (case side4 => exact HC0.out); rintro e w' ⟨rfl, ⟨nd, rfl⟩⟩; refine ⟨_, rfl, ?_⟩))
              go_ret
              exact ⟨by first | rfl | (simp [errW_none, errW_some] <;> rfl) | (simp [*, errW_none, errW_some] <;> rfl), by repeat (first | (with_reducible first | exact HB.out | apply below_alloc | apply pw_below_drewN | apply below_drew1) | exact HB.out)⟩
      · replace c7 := Bool.eq_false_iff.mpr c7
        subst c7
        have H1 : (some true) = some r := by rw [if_neg (show ¬ (false = true) by decide)] at H; exact H
        clear H
        have H := H1
        clear H1
        obtain rfl := Option.some.inj H
        go_enter Try.func8, Try.ntmps8
        go_wp2_with (first | ((with_reducible refine gate_callee (f := 26) rfl ?_); refine goesL_ (some 6) rfl rfl Try.func26 (by kernel_rfl) rfl #[.slice A0 l0.length c0] rfl (by (try simp only [List.map_toArray, List.map_cons, List.map_nil]); first | done | rfl | (simp only [List.length_drop, List.length_take]; rfl)) ?_; (with_reducible refine (laws_zzFits7.calls k _ _ l0 true _ ?side1 ?side2 A2.out).mono ?_); (case side1 => repeat (first | exact HR0.out | (with_reducible refine Kd.C_alloc ?_ _) | (with_reducible refine Kd.C_drewN ?_ _) | (with_reducible refine Kd.C_drew ?_))); (case side2 => exact HC0.out); rintro e w32 ⟨rfl, hb⟩; refine ⟨_, rfl, ?_⟩; have n0_ := Aside0.mk (below_step (by repeat (first | (with_reducible first | exact HB.out | apply below_alloc | apply pw_below_drewN | apply below_drew1) | exact HB.out)) hb); clear HB; have HB := n0_; clear n0_; (try clear hb); (try clear hb2); (try clear hk); (try clear hi)) | ((with_reducible refine gate_callee (f := 22) rfl ?_); refine goesL_ (some 8) rfl rfl Try.func22 (by kernel_rfl) rfl #[] rfl (by (try simp only [List.map_toArray, List.map_cons, List.map_nil]); first | done | rfl | (simp only [List.length_drop, List.length_take]; rfl)) ?_; (with_reducible refine (laws_reads.calls k  true _ A4.out).mono ?_); rintro e w33 ⟨rfl, hb⟩; refine ⟨_, rfl, ?_⟩; have n0_ := Aside0.mk (below_step (by repeat (first | (with_reducible first | exact HB.out | apply below_alloc | apply pw_below_drewN | apply below_drew1) | exact HB.out)) hb); clear HB; have HB := n0_; clear n0_; (try clear hb); (try clear hb2); (try clear hk); (try clear hi)) | ((with_reducible refine gate_callee (f := 27) rfl ?_); refine goesL_ (some 11) rfl rfl Try.func27 (by kernel_rfl) rfl #[.slice A0 l0.length c0] rfl (by (try simp only [List.map_toArray, List.map_cons, List.map_nil]); first | done | rfl | (simp only [List.length_drop, List.length_take]; rfl)) ?_; (with_reducible refine (laws_few.calls k _ _ l0 false _ ?side1 ?side2 A6.out).mono ?_); (case side1 => repeat (first | exact (Kd.C_below HR0.out HB.out) | (with_reducible refine Kd.C_alloc ?_ _) | (with_reducible refine Kd.C_drewN ?_ _) | (with_reducible refine Kd.C_drew ?_))); (case side2 => exact HC0.out); rintro e w34 ⟨rfl, hb⟩; refine ⟨_, rfl, ?_⟩; have n0_ := Aside0.mk (below_step (by repeat (first | (with_reducible first | exact HB.out | apply below_alloc | apply pw_below_drewN | apply below_drew1) | exact HB.out)) hb); clear HB; have HB := n0_; clear n0_; (try clear hb); (try clear hb2); (try clear hk); (try clear hi)))
        go_ret
        exact ⟨by first | rfl | (simp [errW_none, errW_some] <;> rfl) | (simp [*, errW_none, errW_some] <;> rfl), by repeat (first | (with_reducible first | exact HB.out | apply below_alloc | apply pw_below_drewN | apply below_drew1) | exact HB.out)⟩
    · replace c5 := Bool.eq_false_iff.mpr c5
      subst c5
      have H1 : (some false) = some r := by rw [if_neg (show ¬ (false = true) by decide)] at H; exact H
      clear H
      have H := H1
      clear H1
      obtain rfl := Option.some.inj H
      go_enter Try.func8, Try.ntmps8
      go_wp2_with (first | ((with_reducible refine gate_callee (f := 26) rfl ?_); refine goesL_ (some 6) rfl rfl Try.func26 (by kernel_rfl) rfl #[.slice A0 l0.length c0] rfl (by (try simp only [List.map_toArray, List.map_cons, List.map_nil]); first | done | rfl | (simp only [List.length_drop, List.length_take]; rfl)) ?_; (with_reducible refine (laws_zzFits7.calls k _ _ l0 true _ ?side1 ?side2 A2.out).mono ?_); (case side1 => repeat (first | exact HR0.out | (with_reducible refine Kd.C_alloc ?_ _) | (with_reducible refine Kd.C_drewN ?_ _) | (with_reducible refine Kd.C_drew ?_))); (case side2 => exact HC0.out); rintro e w35 ⟨rfl, hb⟩; refine ⟨_, rfl, ?_⟩; have n0_ := Aside0.mk (below_step (by repeat (first | (with_reducible first | exact HB.out | apply below_alloc | apply pw_below_drewN | apply below_drew1) | exact HB.out)) hb); clear HB; have HB := n0_; clear n0_; (try clear hb); (try clear hb2); (try clear hk); (try clear hi)) | ((with_reducible refine gate_callee (f := 22) rfl ?_); refine goesL_ (some 8) rfl rfl Try.func22 (by kernel_rfl) rfl #[] rfl (by (try simp only [List.map_toArray, List.map_cons, List.map_nil]); first | done | rfl | (simp only [List.length_drop, List.length_take]; rfl)) ?_; (with_reducible refine (laws_reads.calls k  false _ A4.out).mono ?_); rintro e w36 ⟨rfl, hb⟩; refine ⟨_, rfl, ?_⟩; have n0_ := Aside0.mk (below_step (by repeat (first | (with_reducible first | exact HB.out | apply below_alloc | apply pw_below_drewN | apply below_drew1) | exact HB.out)) hb); clear HB; have HB := n0_; clear n0_; (try clear hb); (try clear hb2); (try clear hk); (try clear hi)))
      go_ret
      exact ⟨by first | rfl | (simp [errW_none, errW_some] <;> rfl) | (simp [*, errW_none, errW_some] <;> rfl), by repeat (first | (with_reducible first | exact HB.out | apply below_alloc | apply pw_below_drewN | apply below_drew1) | exact HB.out)⟩
  · replace c3 := Bool.eq_false_iff.mpr c3
    subst c3
    have H1 : (some true) = some r := by rw [if_neg (show ¬ (false = true) by decide)] at H; exact H
    clear H
    have H := H1
    clear H1
    obtain rfl := Option.some.inj H
    go_enter Try.func8, Try.ntmps8
    go_wp2_with (first | ((with_reducible refine gate_callee (f := 26) rfl ?_); refine goesL_ (some 6) rfl rfl Try.func26 (by kernel_rfl) rfl #[.slice A0 l0.length c0] rfl (by (try simp only [List.map_toArray, List.map_cons, List.map_nil]); first | done | rfl | (simp only [List.length_drop, List.length_take]; rfl)) ?_; (with_reducible refine (laws_zzFits7.calls k _ _ l0 false _ ?side1 ?side2 A2.out).mono ?_); (case side1 => repeat (first | exact HR0.out | (with_reducible refine Kd.C_alloc ?_ _) | (with_reducible refine Kd.C_drewN ?_ _) | (with_reducible refine Kd.C_drew ?_))); (case side2 => exact HC0.out); rintro e w37 ⟨rfl, hb⟩; refine ⟨_, rfl, ?_⟩; have n0_ := Aside0.mk (below_step (by repeat (first | (with_reducible first | exact HB.out | apply below_alloc | apply pw_below_drewN | apply below_drew1) | exact HB.out)) hb); clear HB; have HB := n0_; clear n0_; (try clear hb); (try clear hb2); (try clear hk); (try clear hi)))
    go_ret
    exact ⟨by first | rfl | (simp [errW_none, errW_some] <;> rfl) | (simp [*, errW_none, errW_some] <;> rfl), by repeat (first | (with_reducible first | exact HB.out | apply below_alloc | apply pw_below_drewN | apply below_drew1) | exact HB.out)⟩

end Go.Proofs.Ytjklempjljikpaa.Q
