-- Written by a program of this session out of the translation, with the kit's printer. Not trusted: Lean checks it.
import Derived.Test.YtjmcndbkmknemaaQ0
namespace Go.Proofs.Ytjmcndbkmknemaa.Q
open Go.RowKit Go.Proofs.YtjmcndbkmknemaaW.PrintWords Go.Proofs.YtjmcndbkmknemaaW.PrintLast Go.Proofs.YtjmcndbkmknemaaW.PrintMore
attribute [local go_sem] max2_int min2_int max_two min_two max_three min_three max_four min_four   -- for this text's walks alone
set_option linter.unusedVariables false
set_option linter.unusedSimpArgs false

/-! ### spec_TypeOf: function 40 -/
def spec_TypeOf.l0 : Nat → ByteArray → List (S53) → Int → Int → Option (ByteArray × ByteArray × Bool × Bool × Bool)
  | 0, _, _, _, _ => none
  | k + 1, x0, x8, x9, x10 => if x10 < x9 then (if 0 ≤ x10 then (if x10 < (x8.length : Int) then (if ((rd_T53 x8 x10).f0).toList = x0.toList then (some ((rd_T53 x8 x10).f0, (rd_T53 x8 x10).f1, (rd_T53 x8 x10).f2, (rd_T53 x8 x10).f3, true)) else (if ((rd_T53 x8 x10).f1).toList = ([] : List UInt8) then (spec_TypeOf.l0 k x0 x8 x9 (wrap64 (x10 + 1))) else (if ((rd_T53 x8 x10).f1).toList = x0.toList then (some ((rd_T53 x8 x10).f0, (rd_T53 x8 x10).f1, (rd_T53 x8 x10).f2, (rd_T53 x8 x10).f3, true)) else (spec_TypeOf.l0 k x0 x8 x9 (wrap64 (x10 + 1)))))) else (none)) else (none)) else (some ((⟨#[]⟩ : ByteArray), (⟨#[]⟩ : ByteArray), false, false, false))
def spec_TypeOf.f (k : Nat) (a0 : ByteArray) (l1 : List (S53)) : Option (ByteArray × ByteArray × Bool × Bool × Bool) := spec_TypeOf.l0 k a0 l1 (l1.length : Int) 0
theorem spec_TypeOf.mono_l : ∀ k, (∀ y0 y1 y2 y3, LeO (spec_TypeOf.l0 k y0 y1 y2 y3) (spec_TypeOf.l0 (k + 1) y0 y1 y2 y3))
  | 0 => fun _ _ _ _ r h => by simp [spec_TypeOf.l0] at h
  | k + 1 => by
    have ih0 := spec_TypeOf.mono_l k
    · intro y0 y1 y2 y3
      unfold spec_TypeOf.l0
      repeat' first
      | (with_reducible exact ih0 _ _ _ _)
      | (with_reducible exact LeO.refl _)
      | (with_reducible exact LeO.none _)
      | (with_reducible refine LeO.ite ?_ ?_)
      | (with_reducible refine LeO.bind ?_ (fun _ => ?_))
      | exact ih0 _ _ _ _
      | exact LeO.none _
      | refine LeO.ite ?_ ?_
      | refine LeO.bind ?_ (fun _ => ?_)
theorem spec_TypeOf.mono : ∀ a0 a1 k, LeO (spec_TypeOf.f k a0 a1) (spec_TypeOf.f (k + 1) a0 a1) := by
  intro a0 a1 k
  have ih0 := spec_TypeOf.mono_l k
  unfold spec_TypeOf.f
  repeat' first
      | (with_reducible exact ih0 _ _ _ _)
      | (with_reducible exact LeO.refl _)
      | (with_reducible exact LeO.none _)
      | (with_reducible refine LeO.ite ?_ ?_)
      | (with_reducible refine LeO.bind ?_ (fun _ => ?_))
      | exact ih0 _ _ _ _
      | exact LeO.none _
      | refine LeO.ite ?_ ?_
      | refine LeO.bind ?_ (fun _ => ?_)
set_option maxHeartbeats 8000000 in
set_option maxRecDepth 100000 in
theorem spec_TypeOf.calls (k : Nat) (a0 : ByteArray) (A1 : Option Addr) (c1 : Nat) (l1 : List (S53)) (r1 : ByteArray) (r2 : ByteArray) (r3 : Bool) (r4 : Bool) (r5 : Bool) (w : World) (hr1 : Kd.C k53 w A1 l1.length l1) (hc1 : l1.length ≤ c1) (h : spec_TypeOf.f k a0 l1 = some (r1, r2, r3, r4, r5)) :
    Calls Try.prog 40 #[.string a0, .slice A1 l1.length c1] w fun e w' => e = .returned (.tuple #[.agg #[.string r1, .string r2, .bool r3, .bool r4], .bool r5]) ∧ Below w.heap.size w w' := by
  have hu53 := Try.underlying53
  have HR1 := Aside0.mk hr1
  have HC1 := Aside0.mk hc1
  clear hr1 hc1
  have HB := Aside0.mk (Below.refl w.heap.size w)
  have H : (spec_TypeOf.l0 k a0 l1 (l1.length : Int) 0) = some (r1, r2, r3, r4, r5) := h
  clear h
  have H' := Aside0.mk H
  clear H
  go_enter Try.func40, Try.ntmps40
  go_wp2_with (first | ((with_reducible refine gate_dst (N := 4) rfl ?_); refine box_event ?hg (N := 4) ?hd (cs := #[.string (⟨#[]⟩ : ByteArray), .string (⟨#[]⟩ : ByteArray), .bool false, .bool false]) (t := 53) ?hr ?_; (case hd => rfl); (case hg => rfl); (case hr => first | (go_simp; done) | (go_simp; rfl)); intro gb293 hg w3 hbox hb; have n0_ := Aside0.mk (below_step (by repeat (first | (with_reducible first | exact HB.out | apply below_alloc | apply pw_below_drewN | apply below_drew1) | exact HB.out)) hb); have n1_ := Aside0.mk (hbox); have n2_ := Aside0.mk ((by rw [hg]; exact (below_size (by repeat (first | (with_reducible first | exact HB.out | apply below_alloc | apply pw_below_drewN | apply below_drew1) | exact HB.out))) : w.heap.size ≤ gb293)); have n3_ := Aside0.mk ((by rw [hg]; exact (below_size (by repeat (first | (with_reducible first | exact HB.out | apply below_alloc | apply pw_below_drewN | apply below_drew1) | exact HB.out))) : w.heap.size ≤ gb293)); clear HB; have HB := n0_; have BK293 := n1_; have GW293 := n2_; have GE293 := n3_; clear n0_ n1_ n2_ n3_; clear hb hbox hg))
  go_loopg [10] k (fun kq v10 w' => ∃ (x10_1 : Int) (x294000_1 : ByteArray) (x294001_1 : ByteArray) (x294002_1 : Bool) (x294003_1 : Bool), v10 = .int .i64 x10_1 ∧ Aside0 (spec_TypeOf.l0 kq a0 l1 (l1.length : Int) x10_1 = some (r1, r2, r3, r4, r5)) ∧ Aside0 (kq ≤ k) ∧ Aside0 (w'.heap[gb293]? = some (.cells #[.string x294000_1, .string x294001_1, .bool x294002_1, .bool x294003_1] 53 (0, 0))) ∧ Aside0 (Below w.heap.size w w'))
  case atStart => exact ⟨(0), ((⟨#[]⟩ : ByteArray)), ((⟨#[]⟩ : ByteArray)), (false), (false), (by first | rfl | (simp; done) | (simp [*]; done) | (simp [Go.Proofs.YtjmcndbkmknemaaX.isEmpty_ne]; done)), H', ⟨Nat.le_refl _⟩, ⟨by (with_reducible repeat (first | refine blk_drewN ?_ _ | refine blk_drew ?_ | refine blk_alloc ?_ _)); exact BK293.out⟩, ⟨by repeat (first | (with_reducible first | exact HB.out | apply below_alloc | apply pw_below_drewN | apply below_drew1 | refine below_set ?_ GE293.out) | exact HB.out)⟩⟩
  case round =>
    clear H'
    try clear c1
    try clear p2
    obtain ⟨x10_1, x294000_1, x294001_1, x294002_1, x294003_1, rfl, HA, HK1, BK293, HB⟩ := hrel
    cases gk with
    | zero => exact absurd HA.out (by simp [spec_TypeOf.l0])
    | succ k1 =>
      have H := HA.out
      clear HA
      simp only [spec_TypeOf.l0] at H
      by_cases c4 : x10_1 < (l1.length : Int)
      · rw [if_pos c4] at H
        have c4b0 : decide (x10_1 < (l1.length : Int)) = true := decide_eq_true c4
        clear c4
        by_cases c5 : 0 ≤ x10_1
        · rw [if_pos c5] at H
          have c5b0 : decide (0 ≤ x10_1) = true := decide_eq_true c5
          clear c5
          by_cases c6 : x10_1 < (l1.length : Int)
          · rw [if_pos c6] at H
            have c6b0 : decide (x10_1 < (l1.length : Int)) = true := decide_eq_true c6
            clear c6
            by_cases c7 : ((rd_T53 l1 x10_1).f0).toList = a0.toList
            · rw [if_pos c7] at H
              have c7b0 : (((rd_T53 l1 x10_1).f0).toList == a0.toList) = true := beq_iff_eq.mpr c7
              have c7b1 : (((rd_T53 l1 x10_1).f0).toList != a0.toList) = false := bne_eq_false_iff_eq.mpr c7
              clear c7
              simp only [Option.some.injEq, Prod.mk.injEq] at H
              obtain ⟨rfl, rfl, rfl, rfl, rfl⟩ := H
              have p294 : 0 ≤ (x10_1 : Int) := of_decide_eq_true (by first | (with_reducible assumption) | assumption)
              have q294 : x10_1 < (l1.length : Int) := of_decide_eq_true (by first | (with_reducible assumption) | assumption)
              obtain ⟨ad294, e294, hx294_0, hx294_1, hx294_2, hx294_3⟩ := at_T53 HR1.out x10_1 p294 q294
              cases e294
              replace hx294_0 := (HB.out.cell (World.block_lt_of_cell? w _ hx294_0)).trans hx294_0
              replace hx294_1 := (HB.out.cell (World.block_lt_of_cell? w _ hx294_1)).trans hx294_1
              replace hx294_2 := (HB.out.cell (World.block_lt_of_cell? w _ hx294_2)).trans hx294_2
              replace hx294_3 := (HB.out.cell (World.block_lt_of_cell? w _ hx294_3)).trans hx294_3
              replace p294 := eq_true p294
              replace q294 := eq_true q294
              go_wp2_with (first | ((with_reducible refine gate_dst (N := 7) rfl ?_); refine box_event ?hg (N := 7) ?hd (cs := #[.string (⟨#[]⟩ : ByteArray), .string (⟨#[]⟩ : ByteArray), .bool false, .bool false]) (t := 53) ?hr ?_; (case hd => rfl); (case hg => rfl); (case hr => first | (go_simp; done) | (go_simp; rfl)); intro gb295 hg w8 hbox hb; have n0_ := Aside0.mk (blk_below (g := gb293) (o := .cells #[.string x294000_1, .string x294001_1, .bool x294002_1, .bool x294003_1] 53 (0, 0)) (by (with_reducible repeat (first | refine blk_drewN ?_ _ | refine blk_drew ?_ | refine blk_alloc ?_ _)); exact BK293.out) hb); have n1_ := Aside0.mk (below_step (by repeat (first | (with_reducible first | exact HB.out | apply below_alloc | apply pw_below_drewN | apply below_drew1 | refine below_set ?_ GE293.out) | exact HB.out)) hb); have n2_ := Aside0.mk (hbox); have n3_ := Aside0.mk ((by rw [hg]; exact (below_size (by repeat (first | (with_reducible first | exact HB.out | apply below_alloc | apply pw_below_drewN | apply below_drew1 | refine below_set ?_ GE293.out) | exact HB.out))) : w.heap.size ≤ gb295)); have n4_ := Aside0.mk ((by rw [hg]; exact (below_size (by repeat (first | (with_reducible first | exact HB.out | apply below_alloc | apply pw_below_drewN | apply below_drew1 | refine below_set ?_ GE293.out) | exact HB.out))) : w.heap.size ≤ gb295)); have n5_ := Aside0.mk ((by rw [hg]; exact Nat.ne_of_lt (blk_lt (g := gb293) (o := .cells #[.string x294000_1, .string x294001_1, .bool x294002_1, .bool x294003_1] 53 (0, 0)) (by (with_reducible repeat (first | refine blk_drewN ?_ _ | refine blk_drew ?_ | refine blk_alloc ?_ _)); exact BK293.out)) : gb293 ≠ gb295)); have n6_ := Aside0.mk ((by rw [hg]; exact Nat.ne_of_gt (blk_lt (g := gb293) (o := .cells #[.string x294000_1, .string x294001_1, .bool x294002_1, .bool x294003_1] 53 (0, 0)) (by (with_reducible repeat (first | refine blk_drewN ?_ _ | refine blk_drew ?_ | refine blk_alloc ?_ _)); exact BK293.out)) : gb295 ≠ gb293)); clear BK293; clear HB; have BK293 := n0_; have HB := n1_; have BK295 := n2_; have GW295 := n3_; have GE295 := n4_; have NB293_295 := n5_; have NB295_293 := n6_; clear n0_ n1_ n2_ n3_ n4_ n5_ n6_; clear hb hbox hg; have hnb9 := NB295_293.out; have hnc9 := NB293_295.out; have hcz10_0 : w8.cell? ⟨gb295, 0, none⟩ = some (.string (⟨#[]⟩ : ByteArray)) := (blk_cell BK295.out 0).trans rfl; have hcz10_1 : w8.cell? ⟨gb295, 1, none⟩ = some (.string (⟨#[]⟩ : ByteArray)) := (blk_cell BK295.out 1).trans rfl; have hcz10_2 : w8.cell? ⟨gb295, 2, none⟩ = some (.bool false) := (blk_cell BK295.out 2).trans rfl; have hcz10_3 : w8.cell? ⟨gb295, 3, none⟩ = some (.bool false) := (blk_cell BK295.out 3).trans rfl; have hfz10_0 := blk_frozen BK295.out 0; have hfz10_1 := blk_frozen BK295.out 1; have hfz10_2 := blk_frozen BK295.out 2; have hfz10_3 := blk_frozen BK295.out 3; have hcz11_0 : w8.cell? ⟨gb293, 0, none⟩ = some (.string x294000_1) := (blk_cell BK293.out 0).trans rfl; have hcz11_1 : w8.cell? ⟨gb293, 1, none⟩ = some (.string x294001_1) := (blk_cell BK293.out 1).trans rfl; have hcz11_2 : w8.cell? ⟨gb293, 2, none⟩ = some (.bool x294002_1) := (blk_cell BK293.out 2).trans rfl; have hcz11_3 : w8.cell? ⟨gb293, 3, none⟩ = some (.bool x294003_1) := (blk_cell BK293.out 3).trans rfl; have hfz11_0 := blk_frozen BK293.out 0; have hfz11_1 := blk_frozen BK293.out 1; have hfz11_2 := blk_frozen BK293.out 2; have hfz11_3 := blk_frozen BK293.out 3))
              refine bodyPost_ret (results_ct rfl _ _ gb293 53 #[.string ((rd_T53 l1 x10_1).f0), .string ((rd_T53 l1 x10_1).f1), .bool ((rd_T53 l1 x10_1).f2), .bool ((rd_T53 l1 x10_1).f3)] (0, 0) _ rfl (by (with_reducible repeat (first | refine blk_drewN ?_ _ | refine blk_drew ?_ | refine blk_alloc ?_ _)); refine blk_put (cs := #[.string ((rd_T53 l1 x10_1).f0), .string ((rd_T53 l1 x10_1).f1), .bool ((rd_T53 l1 x10_1).f2), .bool x294003_1]) ?_ 3 _ rfl; (with_reducible repeat (first | refine blk_drewN ?_ _ | refine blk_drew ?_ | refine blk_alloc ?_ _)); refine blk_put (cs := #[.string ((rd_T53 l1 x10_1).f0), .string ((rd_T53 l1 x10_1).f1), .bool x294002_1, .bool x294003_1]) ?_ 2 _ rfl; (with_reducible repeat (first | refine blk_drewN ?_ _ | refine blk_drew ?_ | refine blk_alloc ?_ _)); refine blk_put (cs := #[.string ((rd_T53 l1 x10_1).f0), .string x294001_1, .bool x294002_1, .bool x294003_1]) ?_ 1 _ rfl; (with_reducible repeat (first | refine blk_drewN ?_ _ | refine blk_drew ?_ | refine blk_alloc ?_ _)); refine blk_put (cs := #[.string x294000_1, .string x294001_1, .bool x294002_1, .bool x294003_1]) ?_ 0 _ rfl; (with_reducible repeat (first | refine blk_drewN ?_ _ | refine blk_drew ?_ | refine blk_alloc ?_ _)); refine blk_far ?_ NB293_295.out _; (with_reducible repeat (first | refine blk_drewN ?_ _ | refine blk_drew ?_ | refine blk_alloc ?_ _)); refine blk_far ?_ NB293_295.out _; (with_reducible repeat (first | refine blk_drewN ?_ _ | refine blk_drew ?_ | refine blk_alloc ?_ _)); refine blk_far ?_ NB293_295.out _; (with_reducible repeat (first | refine blk_drewN ?_ _ | refine blk_drew ?_ | refine blk_alloc ?_ _)); refine blk_far ?_ NB293_295.out _; (with_reducible repeat (first | refine blk_drewN ?_ _ | refine blk_drew ?_ | refine blk_alloc ?_ _)); exact BK293.out) Try.underlying53 rfl (by kernel_rfl)) rfl ?_
              exact ⟨by first | rfl | (simp [errW_none, errW_some] <;> rfl) | (simp [*, errW_none, errW_some] <;> rfl), by repeat (first | (with_reducible first | exact HB.out | apply below_alloc | apply pw_below_drewN | apply below_drew1 | refine below_set ?_ GE293.out | refine below_set ?_ GE295.out) | exact HB.out)⟩
            · rw [if_neg c7] at H
              have c7b0 : (((rd_T53 l1 x10_1).f0).toList == a0.toList) = false := beq_eq_false_iff_ne.mpr c7
              have c7b1 : (((rd_T53 l1 x10_1).f0).toList != a0.toList) = true := bne_iff_ne.mpr c7
              by_cases c12 : ((rd_T53 l1 x10_1).f1).toList = ([] : List UInt8)
              · rw [if_pos c12] at H
                have c12b0 : (((rd_T53 l1 x10_1).f1).toList == ([] : List UInt8)) = true := beq_iff_eq.mpr c12
                have c12b1 : (((rd_T53 l1 x10_1).f1).toList != ([] : List UInt8)) = false := bne_eq_false_iff_eq.mpr c12
                clear c12
                have H' := Aside0.mk H
                clear H
                have p294 : 0 ≤ (x10_1 : Int) := of_decide_eq_true (by first | (with_reducible assumption) | assumption)
                have q294 : x10_1 < (l1.length : Int) := of_decide_eq_true (by first | (with_reducible assumption) | assumption)
                obtain ⟨ad294, e294, hx294_0, hx294_1, hx294_2, hx294_3⟩ := at_T53 HR1.out x10_1 p294 q294
                cases e294
                replace hx294_0 := (HB.out.cell (World.block_lt_of_cell? w _ hx294_0)).trans hx294_0
                replace hx294_1 := (HB.out.cell (World.block_lt_of_cell? w _ hx294_1)).trans hx294_1
                replace hx294_2 := (HB.out.cell (World.block_lt_of_cell? w _ hx294_2)).trans hx294_2
                replace hx294_3 := (HB.out.cell (World.block_lt_of_cell? w _ hx294_3)).trans hx294_3
                replace p294 := eq_true p294
                replace q294 := eq_true q294
                go_wp2_with (first | ((with_reducible refine gate_dst (N := 7) rfl ?_); refine box_event ?hg (N := 7) ?hd (cs := #[.string (⟨#[]⟩ : ByteArray), .string (⟨#[]⟩ : ByteArray), .bool false, .bool false]) (t := 53) ?hr ?_; (case hd => rfl); (case hg => rfl); (case hr => first | (go_simp; done) | (go_simp; rfl)); intro gb295 hg w13 hbox hb; have n0_ := Aside0.mk (blk_below (g := gb293) (o := .cells #[.string x294000_1, .string x294001_1, .bool x294002_1, .bool x294003_1] 53 (0, 0)) (by (with_reducible repeat (first | refine blk_drewN ?_ _ | refine blk_drew ?_ | refine blk_alloc ?_ _)); exact BK293.out) hb); have n1_ := Aside0.mk (below_step (by repeat (first | (with_reducible first | exact HB.out | apply below_alloc | apply pw_below_drewN | apply below_drew1 | refine below_set ?_ GE293.out) | exact HB.out)) hb); have n2_ := Aside0.mk (hbox); have n3_ := Aside0.mk ((by rw [hg]; exact (below_size (by repeat (first | (with_reducible first | exact HB.out | apply below_alloc | apply pw_below_drewN | apply below_drew1 | refine below_set ?_ GE293.out) | exact HB.out))) : w.heap.size ≤ gb295)); have n4_ := Aside0.mk ((by rw [hg]; exact (below_size (by repeat (first | (with_reducible first | exact HB.out | apply below_alloc | apply pw_below_drewN | apply below_drew1 | refine below_set ?_ GE293.out) | exact HB.out))) : w.heap.size ≤ gb295)); have n5_ := Aside0.mk ((by rw [hg]; exact Nat.ne_of_lt (blk_lt (g := gb293) (o := .cells #[.string x294000_1, .string x294001_1, .bool x294002_1, .bool x294003_1] 53 (0, 0)) (by (with_reducible repeat (first | refine blk_drewN ?_ _ | refine blk_drew ?_ | refine blk_alloc ?_ _)); exact BK293.out)) : gb293 ≠ gb295)); have n6_ := Aside0.mk ((by rw [hg]; exact Nat.ne_of_gt (blk_lt (g := gb293) (o := .cells #[.string x294000_1, .string x294001_1, .bool x294002_1, .bool x294003_1] 53 (0, 0)) (by (with_reducible repeat (first | refine blk_drewN ?_ _ | refine blk_drew ?_ | refine blk_alloc ?_ _)); exact BK293.out)) : gb295 ≠ gb293)); clear BK293; clear HB; have BK293 := n0_; have HB := n1_; have BK295 := n2_; have GW295 := n3_; have GE295 := n4_; have NB293_295 := n5_; have NB295_293 := n6_; clear n0_ n1_ n2_ n3_ n4_ n5_ n6_; clear hb hbox hg; have hnb14 := NB295_293.out; have hnc14 := NB293_295.out; have hcz15_0 : w13.cell? ⟨gb295, 0, none⟩ = some (.string (⟨#[]⟩ : ByteArray)) := (blk_cell BK295.out 0).trans rfl; have hcz15_1 : w13.cell? ⟨gb295, 1, none⟩ = some (.string (⟨#[]⟩ : ByteArray)) := (blk_cell BK295.out 1).trans rfl; have hcz15_2 : w13.cell? ⟨gb295, 2, none⟩ = some (.bool false) := (blk_cell BK295.out 2).trans rfl; have hcz15_3 : w13.cell? ⟨gb295, 3, none⟩ = some (.bool false) := (blk_cell BK295.out 3).trans rfl; have hfz15_0 := blk_frozen BK295.out 0; have hfz15_1 := blk_frozen BK295.out 1; have hfz15_2 := blk_frozen BK295.out 2; have hfz15_3 := blk_frozen BK295.out 3))
                go_roundg k1
                case measure => have := HK1.out; omega
                case rel => exact ⟨(wrap64 (x10_1 + 1)), (x294000_1), (x294001_1), (x294002_1), (x294003_1), (by first | rfl | (simp; done) | (simp [*]; done) | (simp [Go.Proofs.YtjmcndbkmknemaaX.isEmpty_ne]; done)), H', ⟨by have := HK1.out; omega⟩, ⟨by (with_reducible repeat (first | refine blk_drewN ?_ _ | refine blk_drew ?_ | refine blk_alloc ?_ _)); refine blk_far ?_ NB293_295.out _; (with_reducible repeat (first | refine blk_drewN ?_ _ | refine blk_drew ?_ | refine blk_alloc ?_ _)); refine blk_far ?_ NB293_295.out _; (with_reducible repeat (first | refine blk_drewN ?_ _ | refine blk_drew ?_ | refine blk_alloc ?_ _)); refine blk_far ?_ NB293_295.out _; (with_reducible repeat (first | refine blk_drewN ?_ _ | refine blk_drew ?_ | refine blk_alloc ?_ _)); refine blk_far ?_ NB293_295.out _; (with_reducible repeat (first | refine blk_drewN ?_ _ | refine blk_drew ?_ | refine blk_alloc ?_ _)); exact BK293.out⟩, ⟨by repeat (first | (with_reducible first | exact HB.out | apply below_alloc | apply pw_below_drewN | apply below_drew1 | refine below_set ?_ GE293.out | refine below_set ?_ GE295.out) | exact HB.out)⟩⟩
              · rw [if_neg c12] at H
                have c12b0 : (((rd_T53 l1 x10_1).f1).toList == ([] : List UInt8)) = false := beq_eq_false_iff_ne.mpr c12
                have c12b1 : (((rd_T53 l1 x10_1).f1).toList != ([] : List UInt8)) = true := bne_iff_ne.mpr c12
                by_cases c16 : ((rd_T53 l1 x10_1).f1).toList = a0.toList
                · rw [if_pos c16] at H
                  have c16b0 : (((rd_T53 l1 x10_1).f1).toList == a0.toList) = true := beq_iff_eq.mpr c16
                  have c16b1 : (((rd_T53 l1 x10_1).f1).toList != a0.toList) = false := bne_eq_false_iff_eq.mpr c16
                  clear c16
                  simp only [Option.some.injEq, Prod.mk.injEq] at H
                  obtain ⟨rfl, rfl, rfl, rfl, rfl⟩ := H
                  have p294 : 0 ≤ (x10_1 : Int) := of_decide_eq_true (by first | (with_reducible assumption) | assumption)
                  have q294 : x10_1 < (l1.length : Int) := of_decide_eq_true (by first | (with_reducible assumption) | assumption)
                  obtain ⟨ad294, e294, hx294_0, hx294_1, hx294_2, hx294_3⟩ := at_T53 HR1.out x10_1 p294 q294
                  cases e294
                  replace hx294_0 := (HB.out.cell (World.block_lt_of_cell? w _ hx294_0)).trans hx294_0
                  replace hx294_1 := (HB.out.cell (World.block_lt_of_cell? w _ hx294_1)).trans hx294_1
                  replace hx294_2 := (HB.out.cell (World.block_lt_of_cell? w _ hx294_2)).trans hx294_2
                  replace hx294_3 := (HB.out.cell (World.block_lt_of_cell? w _ hx294_3)).trans hx294_3
                  replace p294 := eq_true p294
                  replace q294 := eq_true q294
                  go_wp2_with (first | ((with_reducible refine gate_dst (N := 7) rfl ?_); refine box_event ?hg (N := 7) ?hd (cs := #[.string (⟨#[]⟩ : ByteArray), .string (⟨#[]⟩ : ByteArray), .bool false, .bool false]) (t := 53) ?hr ?_; (case hd => rfl); (case hg => rfl); (case hr => first | (go_simp; done) | (go_simp; rfl)); intro gb295 hg w17 hbox hb; have n0_ := Aside0.mk (blk_below (g := gb293) (o := .cells #[.string x294000_1, .string x294001_1, .bool x294002_1, .bool x294003_1] 53 (0, 0)) (by (with_reducible repeat (first | refine blk_drewN ?_ _ | refine blk_drew ?_ | refine blk_alloc ?_ _)); exact BK293.out) hb); have n1_ := Aside0.mk (below_step (by repeat (first | (with_reducible first | exact HB.out | apply below_alloc | apply pw_below_drewN | apply below_drew1 | refine below_set ?_ GE293.out) | exact HB.out)) hb); have n2_ := Aside0.mk (hbox); have n3_ := Aside0.mk ((by rw [hg]; exact (below_size (by repeat (first | (with_reducible first | exact HB.out | apply below_alloc | apply pw_below_drewN | apply below_drew1 | refine below_set ?_ GE293.out) | exact HB.out))) : w.heap.size ≤ gb295)); have n4_ := Aside0.mk ((by rw [hg]; exact (below_size (by repeat (first | (with_reducible first | exact HB.out | apply below_alloc | apply pw_below_drewN | apply below_drew1 | refine below_set ?_ GE293.out) | exact HB.out))) : w.heap.size ≤ gb295)); have n5_ := Aside0.mk ((by rw [hg]; exact Nat.ne_of_lt (blk_lt (g := gb293) (o := .cells #[.string x294000_1, .string x294001_1, .bool x294002_1, .bool x294003_1] 53 (0, 0)) (by (with_reducible repeat (first | refine blk_drewN ?_ _ | refine blk_drew ?_ | refine blk_alloc ?_ _)); exact BK293.out)) : gb293 ≠ gb295)); have n6_ := Aside0.mk ((by rw [hg]; exact Nat.ne_of_gt (blk_lt (g := gb293) (o := .cells #[.string x294000_1, .string x294001_1, .bool x294002_1, .bool x294003_1] 53 (0, 0)) (by (with_reducible repeat (first | refine blk_drewN ?_ _ | refine blk_drew ?_ | refine blk_alloc ?_ _)); exact BK293.out)) : gb295 ≠ gb293)); clear BK293; clear HB; have BK293 := n0_; have HB := n1_; have BK295 := n2_; have GW295 := n3_; have GE295 := n4_; have NB293_295 := n5_; have NB295_293 := n6_; clear n0_ n1_ n2_ n3_ n4_ n5_ n6_; clear hb hbox hg; have hnb18 := NB295_293.out; have hnc18 := NB293_295.out; have hcz19_0 : w17.cell? ⟨gb295, 0, none⟩ = some (.string (⟨#[]⟩ : ByteArray)) := (blk_cell BK295.out 0).trans rfl; have hcz19_1 : w17.cell? ⟨gb295, 1, none⟩ = some (.string (⟨#[]⟩ : ByteArray)) := (blk_cell BK295.out 1).trans rfl; have hcz19_2 : w17.cell? ⟨gb295, 2, none⟩ = some (.bool false) := (blk_cell BK295.out 2).trans rfl; have hcz19_3 : w17.cell? ⟨gb295, 3, none⟩ = some (.bool false) := (blk_cell BK295.out 3).trans rfl; have hfz19_0 := blk_frozen BK295.out 0; have hfz19_1 := blk_frozen BK295.out 1; have hfz19_2 := blk_frozen BK295.out 2; have hfz19_3 := blk_frozen BK295.out 3; have hcz20_0 : w17.cell? ⟨gb293, 0, none⟩ = some (.string x294000_1) := (blk_cell BK293.out 0).trans rfl; have hcz20_1 : w17.cell? ⟨gb293, 1, none⟩ = some (.string x294001_1) := (blk_cell BK293.out 1).trans rfl; have hcz20_2 : w17.cell? ⟨gb293, 2, none⟩ = some (.bool x294002_1) := (blk_cell BK293.out 2).trans rfl; have hcz20_3 : w17.cell? ⟨gb293, 3, none⟩ = some (.bool x294003_1) := (blk_cell BK293.out 3).trans rfl; have hfz20_0 := blk_frozen BK293.out 0; have hfz20_1 := blk_frozen BK293.out 1; have hfz20_2 := blk_frozen BK293.out 2; have hfz20_3 := blk_frozen BK293.out 3))
                  refine bodyPost_ret (results_ct rfl _ _ gb293 53 #[.string ((rd_T53 l1 x10_1).f0), .string ((rd_T53 l1 x10_1).f1), .bool ((rd_T53 l1 x10_1).f2), .bool ((rd_T53 l1 x10_1).f3)] (0, 0) _ rfl (by (with_reducible repeat (first | refine blk_drewN ?_ _ | refine blk_drew ?_ | refine blk_alloc ?_ _)); refine blk_put (cs := #[.string ((rd_T53 l1 x10_1).f0), .string ((rd_T53 l1 x10_1).f1), .bool ((rd_T53 l1 x10_1).f2), .bool x294003_1]) ?_ 3 _ rfl; (with_reducible repeat (first | refine blk_drewN ?_ _ | refine blk_drew ?_ | refine blk_alloc ?_ _)); refine blk_put (cs := #[.string ((rd_T53 l1 x10_1).f0), .string ((rd_T53 l1 x10_1).f1), .bool x294002_1, .bool x294003_1]) ?_ 2 _ rfl; (with_reducible repeat (first | refine blk_drewN ?_ _ | refine blk_drew ?_ | refine blk_alloc ?_ _)); refine blk_put (cs := #[.string ((rd_T53 l1 x10_1).f0), .string x294001_1, .bool x294002_1, .bool x294003_1]) ?_ 1 _ rfl; (with_reducible repeat (first | refine blk_drewN ?_ _ | refine blk_drew ?_ | refine blk_alloc ?_ _)); refine blk_put (cs := #[.string x294000_1, .string x294001_1, .bool x294002_1, .bool x294003_1]) ?_ 0 _ rfl; (with_reducible repeat (first | refine blk_drewN ?_ _ | refine blk_drew ?_ | refine blk_alloc ?_ _)); refine blk_far ?_ NB293_295.out _; (with_reducible repeat (first | refine blk_drewN ?_ _ | refine blk_drew ?_ | refine blk_alloc ?_ _)); refine blk_far ?_ NB293_295.out _; (with_reducible repeat (first | refine blk_drewN ?_ _ | refine blk_drew ?_ | refine blk_alloc ?_ _)); refine blk_far ?_ NB293_295.out _; (with_reducible repeat (first | refine blk_drewN ?_ _ | refine blk_drew ?_ | refine blk_alloc ?_ _)); refine blk_far ?_ NB293_295.out _; (with_reducible repeat (first | refine blk_drewN ?_ _ | refine blk_drew ?_ | refine blk_alloc ?_ _)); exact BK293.out) Try.underlying53 rfl (by kernel_rfl)) rfl ?_
                  exact ⟨by first | rfl | (simp [errW_none, errW_some] <;> rfl) | (simp [*, errW_none, errW_some] <;> rfl), by repeat (first | (with_reducible first | exact HB.out | apply below_alloc | apply pw_below_drewN | apply below_drew1 | refine below_set ?_ GE293.out | refine below_set ?_ GE295.out) | exact HB.out)⟩
                · rw [if_neg c16] at H
                  have c16b0 : (((rd_T53 l1 x10_1).f1).toList == a0.toList) = false := beq_eq_false_iff_ne.mpr c16
                  have c16b1 : (((rd_T53 l1 x10_1).f1).toList != a0.toList) = true := bne_iff_ne.mpr c16
                  have H' := Aside0.mk H
                  clear H
                  have p294 : 0 ≤ (x10_1 : Int) := of_decide_eq_true (by first | (with_reducible assumption) | assumption)
                  have q294 : x10_1 < (l1.length : Int) := of_decide_eq_true (by first | (with_reducible assumption) | assumption)
                  obtain ⟨ad294, e294, hx294_0, hx294_1, hx294_2, hx294_3⟩ := at_T53 HR1.out x10_1 p294 q294
                  cases e294
                  replace hx294_0 := (HB.out.cell (World.block_lt_of_cell? w _ hx294_0)).trans hx294_0
                  replace hx294_1 := (HB.out.cell (World.block_lt_of_cell? w _ hx294_1)).trans hx294_1
                  replace hx294_2 := (HB.out.cell (World.block_lt_of_cell? w _ hx294_2)).trans hx294_2
                  replace hx294_3 := (HB.out.cell (World.block_lt_of_cell? w _ hx294_3)).trans hx294_3
                  replace p294 := eq_true p294
                  replace q294 := eq_true q294
                  go_wp2_with (first | ((with_reducible refine gate_dst (N := 7) rfl ?_); refine box_event ?hg (N := 7) ?hd (cs := #[.string (⟨#[]⟩ : ByteArray), .string (⟨#[]⟩ : ByteArray), .bool false, .bool false]) (t := 53) ?hr ?_; (case hd => rfl); (case hg => rfl); (case hr => first | (go_simp; done) | (go_simp; rfl)); intro gb295 hg w21 hbox hb; have n0_ := Aside0.mk (blk_below (g := gb293) (o := .cells #[.string x294000_1, .string x294001_1, .bool x294002_1, .bool x294003_1] 53 (0, 0)) (by (with_reducible repeat (first | refine blk_drewN ?_ _ | refine blk_drew ?_ | refine blk_alloc ?_ _)); exact BK293.out) hb); have n1_ := Aside0.mk (below_step (by repeat (first | (with_reducible first | exact HB.out | apply below_alloc | apply pw_below_drewN | apply below_drew1 | refine below_set ?_ GE293.out) | exact HB.out)) hb); have n2_ := Aside0.mk (hbox); have n3_ := Aside0.mk ((by rw [hg]; exact (below_size (by repeat (first | (with_reducible first | exact HB.out | apply below_alloc | apply pw_below_drewN | apply below_drew1 | refine below_set ?_ GE293.out) | exact HB.out))) : w.heap.size ≤ gb295)); have n4_ := Aside0.mk ((by rw [hg]; exact (below_size (by repeat (first | (with_reducible first | exact HB.out | apply below_alloc | apply pw_below_drewN | apply below_drew1 | refine below_set ?_ GE293.out) | exact HB.out))) : w.heap.size ≤ gb295)); have n5_ := Aside0.mk ((by rw [hg]; exact Nat.ne_of_lt (blk_lt (g := gb293) (o := .cells #[.string x294000_1, .string x294001_1, .bool x294002_1, .bool x294003_1] 53 (0, 0)) (by (with_reducible repeat (first | refine blk_drewN ?_ _ | refine blk_drew ?_ | refine blk_alloc ?_ _)); exact BK293.out)) : gb293 ≠ gb295)); have n6_ := Aside0.mk ((by rw [hg]; exact Nat.ne_of_gt (blk_lt (g := gb293) (o := .cells #[.string x294000_1, .string x294001_1, .bool x294002_1, .bool x294003_1] 53 (0, 0)) (by (with_reducible repeat (first | refine blk_drewN ?_ _ | refine blk_drew ?_ | refine blk_alloc ?_ _)); exact BK293.out)) : gb295 ≠ gb293)); clear BK293; clear HB; have BK293 := n0_; have HB := n1_; have BK295 := n2_; have GW295 := n3_; have GE295 := n4_; have NB293_295 := n5_; have NB295_293 := n6_; clear n0_ n1_ n2_ n3_ n4_ n5_ n6_; clear hb hbox hg; have hnb22 := NB295_293.out; have hnc22 := NB293_295.out; have hcz23_0 : w21.cell? ⟨gb295, 0, none⟩ = some (.string (⟨#[]⟩ : ByteArray)) := (blk_cell BK295.out 0).trans rfl; have hcz23_1 : w21.cell? ⟨gb295, 1, none⟩ = some (.string (⟨#[]⟩ : ByteArray)) := (blk_cell BK295.out 1).trans rfl; have hcz23_2 : w21.cell? ⟨gb295, 2, none⟩ = some (.bool false) := (blk_cell BK295.out 2).trans rfl; have hcz23_3 : w21.cell? ⟨gb295, 3, none⟩ = some (.bool false) := (blk_cell BK295.out 3).trans rfl; have hfz23_0 := blk_frozen BK295.out 0; have hfz23_1 := blk_frozen BK295.out 1; have hfz23_2 := blk_frozen BK295.out 2; have hfz23_3 := blk_frozen BK295.out 3))
                  go_roundg k1
                  case measure => have := HK1.out; omega
                  case rel => exact ⟨(wrap64 (x10_1 + 1)), (x294000_1), (x294001_1), (x294002_1), (x294003_1), (by first | rfl | (simp; done) | (simp [*]; done) | (simp [Go.Proofs.YtjmcndbkmknemaaX.isEmpty_ne]; done)), H', ⟨by have := HK1.out; omega⟩, ⟨by (with_reducible repeat (first | refine blk_drewN ?_ _ | refine blk_drew ?_ | refine blk_alloc ?_ _)); refine blk_far ?_ NB293_295.out _; (with_reducible repeat (first | refine blk_drewN ?_ _ | refine blk_drew ?_ | refine blk_alloc ?_ _)); refine blk_far ?_ NB293_295.out _; (with_reducible repeat (first | refine blk_drewN ?_ _ | refine blk_drew ?_ | refine blk_alloc ?_ _)); refine blk_far ?_ NB293_295.out _; (with_reducible repeat (first | refine blk_drewN ?_ _ | refine blk_drew ?_ | refine blk_alloc ?_ _)); refine blk_far ?_ NB293_295.out _; (with_reducible repeat (first | refine blk_drewN ?_ _ | refine blk_drew ?_ | refine blk_alloc ?_ _)); exact BK293.out⟩, ⟨by repeat (first | (with_reducible first | exact HB.out | apply below_alloc | apply pw_below_drewN | apply below_drew1 | refine below_set ?_ GE293.out | refine below_set ?_ GE295.out) | exact HB.out)⟩⟩
          · rw [if_neg c6] at H
            exact absurd H (by simp)
        · rw [if_neg c5] at H
          exact absurd H (by simp)
      · rw [if_neg c4] at H
        have c4b0 : decide (x10_1 < (l1.length : Int)) = false := decide_eq_false c4
        clear c4
        simp only [Option.some.injEq, Prod.mk.injEq] at H
        obtain ⟨rfl, rfl, rfl, rfl, rfl⟩ := H
        have hcz24_0 : wr.cell? ⟨gb293, 0, none⟩ = some (.string x294000_1) := (blk_cell BK293.out 0).trans rfl
        have hcz24_1 : wr.cell? ⟨gb293, 1, none⟩ = some (.string x294001_1) := (blk_cell BK293.out 1).trans rfl
        have hcz24_2 : wr.cell? ⟨gb293, 2, none⟩ = some (.bool x294002_1) := (blk_cell BK293.out 2).trans rfl
        have hcz24_3 : wr.cell? ⟨gb293, 3, none⟩ = some (.bool x294003_1) := (blk_cell BK293.out 3).trans rfl
        have hfz24_0 := blk_frozen BK293.out 0
        have hfz24_1 := blk_frozen BK293.out 1
        have hfz24_2 := blk_frozen BK293.out 2
        have hfz24_3 := blk_frozen BK293.out 3
        go_wp2
        refine bodyPost_ret (results_ct rfl _ _ gb293 53 #[.string (⟨#[]⟩ : ByteArray), .string (⟨#[]⟩ : ByteArray), .bool false, .bool false] (0, 0) _ rfl (by (with_reducible repeat (first | refine blk_drewN ?_ _ | refine blk_drew ?_ | refine blk_alloc ?_ _)); refine blk_put (cs := #[.string (⟨#[]⟩ : ByteArray), .string (⟨#[]⟩ : ByteArray), .bool false, .bool x294003_1]) ?_ 3 _ rfl; (with_reducible repeat (first | refine blk_drewN ?_ _ | refine blk_drew ?_ | refine blk_alloc ?_ _)); refine blk_put (cs := #[.string (⟨#[]⟩ : ByteArray), .string (⟨#[]⟩ : ByteArray), .bool x294002_1, .bool x294003_1]) ?_ 2 _ rfl; (with_reducible repeat (first | refine blk_drewN ?_ _ | refine blk_drew ?_ | refine blk_alloc ?_ _)); refine blk_put (cs := #[.string (⟨#[]⟩ : ByteArray), .string x294001_1, .bool x294002_1, .bool x294003_1]) ?_ 1 _ rfl; (with_reducible repeat (first | refine blk_drewN ?_ _ | refine blk_drew ?_ | refine blk_alloc ?_ _)); refine blk_put (cs := #[.string x294000_1, .string x294001_1, .bool x294002_1, .bool x294003_1]) ?_ 0 _ rfl; (with_reducible repeat (first | refine blk_drewN ?_ _ | refine blk_drew ?_ | refine blk_alloc ?_ _)); exact BK293.out) Try.underlying53 rfl (by kernel_rfl)) rfl ?_
        exact ⟨by first | rfl | (simp [errW_none, errW_some] <;> rfl) | (simp [*, errW_none, errW_some] <;> rfl), by repeat (first | (with_reducible first | exact HB.out | apply below_alloc | apply pw_below_drewN | apply below_drew1 | refine below_set ?_ GE293.out) | exact HB.out)⟩

/-! ### laws_typesOf: function 41 -/
def laws_typesOf.l0 : Nat → List (S53) → List (S45) → Int → Int → Option ((List (S53)))
  | 0, _, _, _, _ => none
  | k + 1, x3, x6, x7, x8 => if x8 < x7 then (if 0 ≤ x8 then (if x8 < (x6.length : Int) then (if x3.length < 3518437208883 then (laws_typesOf.l0 k (x3 ++ [(⟨(rd_T45 x6 x8).f0, (rd_T45 x6 x8).f1, (rd_T45 x6 x8).f2, (rd_T45 x6 x8).f3⟩ : S53)]) x6 x7 (wrap64 (x8 + 1))) else (none)) else (none)) else (none)) else (some x3)
def laws_typesOf.f (k : Nat) (l0 : List (S45)) : Option ((List (S53))) := laws_typesOf.l0 k ([] : List (S53)) l0 (l0.length : Int) 0
theorem laws_typesOf.mono_l : ∀ k, (∀ y0 y1 y2 y3, LeO (laws_typesOf.l0 k y0 y1 y2 y3) (laws_typesOf.l0 (k + 1) y0 y1 y2 y3))
  | 0 => fun _ _ _ _ r h => by simp [laws_typesOf.l0] at h
  | k + 1 => by
    have ih0 := laws_typesOf.mono_l k
    · intro y0 y1 y2 y3
      unfold laws_typesOf.l0
      repeat' first
      | (with_reducible exact ih0 _ _ _ _)
      | (with_reducible exact LeO.refl _)
      | (with_reducible exact LeO.none _)
      | (with_reducible refine LeO.ite ?_ ?_)
      | (with_reducible refine LeO.bind ?_ (fun _ => ?_))
      | exact ih0 _ _ _ _
      | exact LeO.none _
      | refine LeO.ite ?_ ?_
      | refine LeO.bind ?_ (fun _ => ?_)
theorem laws_typesOf.mono : ∀ a0 k, LeO (laws_typesOf.f k a0) (laws_typesOf.f (k + 1) a0) := by
  intro a0 k
  have ih0 := laws_typesOf.mono_l k
  unfold laws_typesOf.f
  repeat' first
      | (with_reducible exact ih0 _ _ _ _)
      | (with_reducible exact LeO.refl _)
      | (with_reducible exact LeO.none _)
      | (with_reducible refine LeO.ite ?_ ?_)
      | (with_reducible refine LeO.bind ?_ (fun _ => ?_))
      | exact ih0 _ _ _ _
      | exact LeO.none _
      | refine LeO.ite ?_ ?_
      | refine LeO.bind ?_ (fun _ => ?_)
set_option maxHeartbeats 8000000 in
set_option maxRecDepth 100000 in
theorem laws_typesOf.calls (k : Nat) (A0 : Option Addr) (c0 : Nat) (l0 : List (S45)) (r : List (S53)) (w : World) (hr0 : Kd.C k45 w A0 l0.length l0) (hc0 : l0.length ≤ c0) (h : laws_typesOf.f k l0 = some r) :
    Calls Try.prog 41 #[.slice A0 l0.length c0] w fun e w' => ∃ v0_ : Value, e = .returned (v0_) ∧ Kd.R k53 53 w' w.heap.size (fun _ => True) v0_ r ∧ Below w.heap.size w w' := by
  have hu45 := Try.underlying45
  have HR0 := Aside0.mk hr0
  have HC0 := Aside0.mk hc0
  clear hr0 hc0
  have HB := Aside0.mk (Below.refl w.heap.size w)
  have H : (laws_typesOf.l0 k ([] : List (S53)) l0 (l0.length : Int) 0) = some r := h
  clear h
  have H' := Aside0.mk H
  clear H
  go_enter Try.func41, Try.ntmps41
  go_wp2
  go_loopg [3, 8] k (fun kq v3 v8 w' => ∃ (x3_1 : List (S53)) (x8_1 : Int), v8 = .int .i64 x8_1 ∧ Aside0 (laws_typesOf.l0 kq x3_1 l0 (l0.length : Int) x8_1 = some r) ∧ Aside0 (kq ≤ k) ∧ Aside0 (Kd.R k53 53 w' w.heap.size (fun _ => True) v3 x3_1) ∧ Aside0 (Below w.heap.size w w'))
  case atStart => exact ⟨(([] : List (S53))), (0), (by first | rfl | (simp; done) | (simp [*]; done) | (simp [Go.Proofs.YtjmcndbkmknemaaX.isEmpty_ne]; done)), H', ⟨Nat.le_refl _⟩, ⟨by first | exact Kd.R_nil _ _ _ _ _ | exact Kd.N_nil _ _ _ _ _ | exact Kd.V_nil _ _ _ _ _ | exact Kd.Q_nil _ _ _ _ _ | exact Kd.S_nil _ _ _ _ _⟩, ⟨by repeat (first | (with_reducible first | exact HB.out | apply below_alloc | apply pw_below_drewN | apply below_drew1) | exact HB.out)⟩⟩
  case round =>
    clear H'
    obtain ⟨x3_1, x8_1, rfl, HA, HK1, HO_3, HB⟩ := hrel
    cases gk with
    | zero => exact absurd HA.out (by simp [laws_typesOf.l0])
    | succ k1 =>
      have H := HA.out
      clear HA
      simp only [laws_typesOf.l0] at H
      by_cases c2 : x8_1 < (l0.length : Int)
      · rw [if_pos c2] at H
        have c2b0 : decide (x8_1 < (l0.length : Int)) = true := decide_eq_true c2
        clear c2
        by_cases c3 : 0 ≤ x8_1
        · rw [if_pos c3] at H
          have c3b0 : decide (0 ≤ x8_1) = true := decide_eq_true c3
          clear c3
          by_cases c4 : x8_1 < (l0.length : Int)
          · rw [if_pos c4] at H
            have c4b0 : decide (x8_1 < (l0.length : Int)) = true := decide_eq_true c4
            clear c4
            by_cases c5 : x3_1.length < 3518437208883
            · rw [if_pos c5] at H
              have LMc5 := Aside0.mk c5
              clear c5
              obtain ⟨y298, hy298⟩ : ∃ y_ : List (S53), y_ = (x3_1 ++ [(⟨(rd_T45 l0 x8_1).f0, (rd_T45 l0 x8_1).f1, (rd_T45 l0 x8_1).f2, (rd_T45 l0 x8_1).f3⟩ : S53)]) := ⟨_, rfl⟩
              replace H : (laws_typesOf.l0 k1 y298 l0 (l0.length : Int) (wrap64 (x8_1 + 1))) = some r := by first | (rw [hy298]; with_reducible exact H) | (have H2_ := (Option.bind_some _ _).symm.trans H; rw [hy298]; with_reducible exact H2_) | (have H2_ := (Option.bind_some _ _).symm.trans H; with_reducible exact H2_) | with_reducible exact H | (rw [hy298]; exact H) | exact H
              have Ny298 := Aside0.mk hy298
              clear hy298
              have H' := Aside0.mk H
              clear H
              have p296 : 0 ≤ (x8_1 : Int) := of_decide_eq_true (by first | (with_reducible assumption) | assumption)
              have q296 : x8_1 < (l0.length : Int) := of_decide_eq_true (by first | (with_reducible assumption) | assumption)
              obtain ⟨ad296, e296, hx296_0, hx296_1, hx296_2, hx296_3⟩ := at_T45 HR0.out x8_1 p296 q296
              cases e296
              replace hx296_0 := (HB.out.cell (World.block_lt_of_cell? w _ hx296_0)).trans hx296_0
              replace hx296_1 := (HB.out.cell (World.block_lt_of_cell? w _ hx296_1)).trans hx296_1
              replace hx296_2 := (HB.out.cell (World.block_lt_of_cell? w _ hx296_2)).trans hx296_2
              replace hx296_3 := (HB.out.cell (World.block_lt_of_cell? w _ hx296_3)).trans hx296_3
              replace p296 := eq_true p296
              replace q296 := eq_true q296
              go_wp2_with (first | ((with_reducible refine gate_dst (N := 5) rfl ?_); refine box_event ?hg (N := 5) ?hd (cs := #[.string (⟨#[]⟩ : ByteArray), .string (⟨#[]⟩ : ByteArray), .bool false, .bool false]) (t := 45) ?hr ?_; (case hd => rfl); (case hg => rfl); (case hr => first | (go_simp; done) | (go_simp; rfl)); intro gb297 hg w6 hbox hb; have n0_ := Aside0.mk (Kd.R_below (by (with_reducible repeat (first | apply Kd.R_alloc | apply Kd.R_drewN | apply Kd.R_drew)); exact HO_3.out) hb); have n1_ := Aside0.mk (below_step (by repeat (first | (with_reducible first | exact HB.out | apply below_alloc | apply pw_below_drewN | apply below_drew1) | exact HB.out)) hb); have n2_ := Aside0.mk (hbox); have n3_ := Aside0.mk ((by rw [hg]; exact (below_size (by repeat (first | (with_reducible first | exact HB.out | apply below_alloc | apply pw_below_drewN | apply below_drew1) | exact HB.out))) : w.heap.size ≤ gb297)); have n4_ := Aside0.mk ((by rw [hg]; exact (below_size (by repeat (first | (with_reducible first | exact HB.out | apply below_alloc | apply pw_below_drewN | apply below_drew1) | exact HB.out))) : w.heap.size ≤ gb297)); clear HO_3; clear HB; have HO_3 := n0_; have HB := n1_; have BK297 := n2_; have GW297 := n3_; have GE297 := n4_; clear n0_ n1_ n2_ n3_ n4_; clear hb hbox hg; have hcz7_0 : w6.cell? ⟨gb297, 0, none⟩ = some (.string (⟨#[]⟩ : ByteArray)) := (blk_cell BK297.out 0).trans rfl; have hcz7_1 : w6.cell? ⟨gb297, 1, none⟩ = some (.string (⟨#[]⟩ : ByteArray)) := (blk_cell BK297.out 1).trans rfl; have hcz7_2 : w6.cell? ⟨gb297, 2, none⟩ = some (.bool false) := (blk_cell BK297.out 2).trans rfl; have hcz7_3 : w6.cell? ⟨gb297, 3, none⟩ = some (.bool false) := (blk_cell BK297.out 3).trans rfl; have hfz7_0 := blk_frozen BK297.out 0; have hfz7_1 := blk_frozen BK297.out 1; have hfz7_2 := blk_frozen BK297.out 2; have hfz7_3 := blk_frozen BK297.out 3) | ((with_reducible refine gate_builtin (b := .append) (xs := #[.tmp 12, .tmp 14]) rfl ?_); at_builtin; refine Kd.R_append k53 (w0 := w) w.heap.size rfl (.tmp 12) (.tmp 14) 56 53 (.agg #[(.string ⟨#[]⟩), (.string ⟨#[]⟩), (.bool false), (.bool false)]) 40 rfl Try.underlying56 info53 rfl (by decide) (by omega) u3 x3_1 (⟨(rd_T45 l0 x8_1).f0, (rd_T45 l0 x8_1).f1, (rd_T45 l0 x8_1).f2, (rd_T45 l0 x8_1).f3⟩ : S53) [.string ((rd_T45 l0 x8_1).f0), .string ((rd_T45 l0 x8_1).f1), .bool ((rd_T45 l0 x8_1).f2), .bool ((rd_T45 l0 x8_1).f3)] (fun _ => True) (fun _ => False) rfl (by first | (go_simp; done) | (go_simp; rfl)) ?aP (fun _ hk => hk.elim) ?aF ?aO ?aB ?aS ?aL ?_; (case aP => exact k53_mkM _ _ _ (⟨(rd_T45 l0 x8_1).f0, (rd_T45 l0 x8_1).f1, (rd_T45 l0 x8_1).f2, (rd_T45 l0 x8_1).f3⟩ : S53)); (case aB => exact (by repeat (first | (with_reducible first | exact HB.out | apply below_alloc | apply pw_below_drewN | apply below_drew1 | refine below_set ?_ GE297.out) | exact HB.out))); (case aF => exact (fun _ _ => trivial)); (case aO => exact (by (with_reducible repeat (first | apply Kd.R_alloc | apply Kd.R_drewN | apply Kd.R_drew)); exact Kd.R_mono (Kd.R_far (p := ⟨gb297, 3, none⟩) (Kd.R_far (p := ⟨gb297, 2, none⟩) (Kd.R_far (p := ⟨gb297, 1, none⟩) (Kd.R_far (p := ⟨gb297, 0, none⟩) (Kd.R_types HO_3.out BK297.out (by decide)) (fun _ hk => hk.2) (.string ((rd_T45 l0 x8_1).f0))) (fun _ hk => hk.2) (.string ((rd_T45 l0 x8_1).f1))) (fun _ hk => hk.2) (.bool ((rd_T45 l0 x8_1).f2))) (fun _ hk => hk.2) (.bool ((rd_T45 l0 x8_1).f3))) (fun _ hk => trivial))); (case aS => exact (below_size (by repeat (first | (with_reducible first | exact HB.out | apply below_alloc | apply pw_below_drewN | apply below_drew1 | refine below_set ?_ GE297.out) | exact HB.out)))); (case aL => have := LMc5.out; omega); intro v299 w8 ho hb hg hat; rw [← Ny298.out] at ho; have n0_ := Aside0.mk (blk_grown (g := gb297) (o := .cells #[.string ((rd_T45 l0 x8_1).f0), .string ((rd_T45 l0 x8_1).f1), .bool ((rd_T45 l0 x8_1).f2), .bool ((rd_T45 l0 x8_1).f3)] 45 (0, 0)) (by (with_reducible repeat (first | refine blk_drewN ?_ _ | refine blk_drew ?_ | refine blk_alloc ?_ _)); refine blk_put (cs := #[.string ((rd_T45 l0 x8_1).f0), .string ((rd_T45 l0 x8_1).f1), .bool ((rd_T45 l0 x8_1).f2), .bool false]) ?_ 3 _ rfl; (with_reducible repeat (first | refine blk_drewN ?_ _ | refine blk_drew ?_ | refine blk_alloc ?_ _)); refine blk_put (cs := #[.string ((rd_T45 l0 x8_1).f0), .string ((rd_T45 l0 x8_1).f1), .bool false, .bool false]) ?_ 2 _ rfl; (with_reducible repeat (first | refine blk_drewN ?_ _ | refine blk_drew ?_ | refine blk_alloc ?_ _)); refine blk_put (cs := #[.string ((rd_T45 l0 x8_1).f0), .string (⟨#[]⟩ : ByteArray), .bool false, .bool false]) ?_ 1 _ rfl; (with_reducible repeat (first | refine blk_drewN ?_ _ | refine blk_drew ?_ | refine blk_alloc ?_ _)); refine blk_put (cs := #[.string (⟨#[]⟩ : ByteArray), .string (⟨#[]⟩ : ByteArray), .bool false, .bool false]) ?_ 0 _ rfl; (with_reducible repeat (first | refine blk_drewN ?_ _ | refine blk_drew ?_ | refine blk_alloc ?_ _)); exact BK297.out) hg (Kd.R_ne HO_3.out BK297.out (by decide))); have n1_ := Aside0.mk (hb); have n2_ := Aside0.mk (ho); clear BK297; clear HB; clear HO_3; have BK297 := n0_; have HB := n1_; have HO300 := n2_; clear n0_ n1_ n2_; clear ho hb hg hat))
              go_roundg k1
              case measure => have := HK1.out; omega
              case rel => exact ⟨(y298), (wrap64 (x8_1 + 1)), (by first | rfl | (simp; done) | (simp [*]; done) | (simp [Go.Proofs.YtjmcndbkmknemaaX.isEmpty_ne]; done)), H', ⟨by have := HK1.out; omega⟩, ⟨by (with_reducible repeat (first | apply Kd.R_alloc | apply Kd.R_drewN | apply Kd.R_drew)); exact HO300.out⟩, ⟨by repeat (first | (with_reducible first | exact HB.out | apply below_alloc | apply pw_below_drewN | apply below_drew1 | refine below_set ?_ GE297.out) | exact HB.out)⟩⟩
            · rw [if_neg c5] at H
              exact absurd H (by simp)
          · rw [if_neg c4] at H
            exact absurd H (by simp)
        · rw [if_neg c3] at H
          exact absurd H (by simp)
      · rw [if_neg c2] at H
        have c2b0 : decide (x8_1 < (l0.length : Int)) = false := decide_eq_false c2
        clear c2
        obtain rfl := Option.some.inj H
        go_wp2
        go_ret
        exact ⟨_, by first | rfl | (simp [errW_none, errW_some] <;> rfl) | (simp [*, errW_none, errW_some] <;> rfl), by (with_reducible repeat (first | apply Kd.R_alloc | apply Kd.R_drewN | apply Kd.R_drew)); exact HO_3.out, by repeat (first | (with_reducible first | exact HB.out | apply below_alloc | apply pw_below_drewN | apply below_drew1) | exact HB.out)⟩

end Go.Proofs.Ytjmcndbkmknemaa.Q
