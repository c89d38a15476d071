-- Written by a program of this session out of the translation, with the kit's printer. Not trusted: Lean checks it.
import Derived.Test.YtjmcndbkmknemaaT7
import Derived.Test.YtjmcndbkmknemaaQ0
namespace Go.Proofs.Ytjmcndbkmknemaa.Q
open Go.RowKit Go.Proofs.YtjmcndbkmknemaaW.PrintWords Go.Proofs.YtjmcndbkmknemaaW.PrintLast Go.Proofs.YtjmcndbkmknemaaW.PrintMore
attribute [local go_sem] max2_int min2_int max_two min_two max_three min_three max_four min_four   -- for this text's walks alone
set_option linter.unusedVariables false
set_option linter.unusedSimpArgs false

/-! ### laws_zzFits3: function 49 -/
def laws_zzFits3.f (a0_0 : ByteArray) (a0_1 : ByteArray) (a0_2 : Bool) (a0_3 : Bool) : Option (Bool) := if (a0_0.size : Int) > 2147483647 then (some false) else (if (a0_1.size : Int) > 2147483647 then (some false) else (some true))
set_option maxHeartbeats 8000000 in
set_option maxRecDepth 100000 in
theorem laws_zzFits3.calls (a0_0 : ByteArray) (a0_1 : ByteArray) (a0_2 : Bool) (a0_3 : Bool) (r : Bool) (w : World) (h : laws_zzFits3.f a0_0 a0_1 a0_2 a0_3 = some r) :
    Calls Try.prog 49 #[.agg #[.string a0_0, .string a0_1, .bool a0_2, .bool a0_3]] w fun e w' => e = .returned (.bool r) ∧ Below w.heap.size w w' := by
  have hu45 := Try.underlying45
  have HB := Aside0.mk (Below.refl w.heap.size w)
  have H : (if (a0_0.size : Int) > 2147483647 then (some false) else (if (a0_1.size : Int) > 2147483647 then (some false) else (some true))) = some r := h
  clear h
  by_cases c2 : (a0_0.size : Int) > 2147483647
  · rw [if_pos c2] at H
    have c2b0 : decide (2147483647 < (a0_0.size : Int)) = true := decide_eq_true c2
    have c2b1 : decide (2147483647 < a0_0.size) = true := decide_eq_true (by omega)
    clear c2
    obtain rfl := Option.some.inj H
    go_enter Try.func49, Try.ntmps49
    go_wp2_with (first | ((with_reducible refine gate_dst (N := 1) rfl ?_); refine box_event ?hg (N := 1) ?hd (cs := #[.string a0_0, .string a0_1, .bool a0_2, .bool a0_3]) (t := 45) ?hr ?_; (case hd => rfl); (case hg => rfl); (case hr => first | (go_simp; done) | (go_simp; rfl)); intro gb187 hg w3 hbox hb; have n0_ := Aside0.mk (below_step (by repeat (first | (with_reducible first | exact HB.out | apply below_alloc | apply pw_below_drewN | apply below_drew1) | exact HB.out)) hb); have n1_ := Aside0.mk (hbox); have n2_ := Aside0.mk ((by rw [hg]; exact (below_size (by repeat (first | (with_reducible first | exact HB.out | apply below_alloc | apply pw_below_drewN | apply below_drew1) | exact HB.out))) : w.heap.size ≤ gb187)); have n3_ := Aside0.mk ((by rw [hg]; exact (below_size (by repeat (first | (with_reducible first | exact HB.out | apply below_alloc | apply pw_below_drewN | apply below_drew1) | exact HB.out))) : w.heap.size ≤ gb187)); clear HB; have HB := n0_; have BK187 := n1_; have GW187 := n2_; have GE187 := n3_; clear n0_ n1_ n2_ n3_; clear hb hbox hg; have hcz4_0 : w3.cell? ⟨gb187, 0, none⟩ = some (.string a0_0) := (blk_cell BK187.out 0).trans rfl; have hcz4_1 : w3.cell? ⟨gb187, 1, none⟩ = some (.string a0_1) := (blk_cell BK187.out 1).trans rfl; have hcz4_2 : w3.cell? ⟨gb187, 2, none⟩ = some (.bool a0_2) := (blk_cell BK187.out 2).trans rfl; have hcz4_3 : w3.cell? ⟨gb187, 3, none⟩ = some (.bool a0_3) := (blk_cell BK187.out 3).trans rfl; have hfz4_0 := blk_frozen BK187.out 0; have hfz4_1 := blk_frozen BK187.out 1; have hfz4_2 := blk_frozen BK187.out 2; have hfz4_3 := blk_frozen BK187.out 3))
    go_ret
    exact ⟨by first | rfl | (simp [errW_none, errW_some] <;> rfl) | (simp [*, errW_none, errW_some] <;> rfl), by repeat (first | (with_reducible first | exact HB.out | apply below_alloc | apply pw_below_drewN | apply below_drew1 | refine below_set ?_ GE187.out) | exact HB.out)⟩
  · rw [if_neg c2] at H
    have c2b0 : decide (2147483647 < (a0_0.size : Int)) = false := decide_eq_false c2
    have c2b1 : decide (2147483647 < a0_0.size) = false := decide_eq_false (by omega)
    clear c2
    by_cases c5 : (a0_1.size : Int) > 2147483647
    · rw [if_pos c5] at H
      have c5b0 : decide (2147483647 < (a0_1.size : Int)) = true := decide_eq_true c5
      have c5b1 : decide (2147483647 < a0_1.size) = true := decide_eq_true (by omega)
      clear c5
      obtain rfl := Option.some.inj H
      go_enter Try.func49, Try.ntmps49
      go_wp2_with (first | ((with_reducible refine gate_dst (N := 1) rfl ?_); refine box_event ?hg (N := 1) ?hd (cs := #[.string a0_0, .string a0_1, .bool a0_2, .bool a0_3]) (t := 45) ?hr ?_; (case hd => rfl); (case hg => rfl); (case hr => first | (go_simp; done) | (go_simp; rfl)); intro gb187 hg w6 hbox hb; have n0_ := Aside0.mk (below_step (by repeat (first | (with_reducible first | exact HB.out | apply below_alloc | apply pw_below_drewN | apply below_drew1) | exact HB.out)) hb); have n1_ := Aside0.mk (hbox); have n2_ := Aside0.mk ((by rw [hg]; exact (below_size (by repeat (first | (with_reducible first | exact HB.out | apply below_alloc | apply pw_below_drewN | apply below_drew1) | exact HB.out))) : w.heap.size ≤ gb187)); have n3_ := Aside0.mk ((by rw [hg]; exact (below_size (by repeat (first | (with_reducible first | exact HB.out | apply below_alloc | apply pw_below_drewN | apply below_drew1) | exact HB.out))) : w.heap.size ≤ gb187)); clear HB; have HB := n0_; have BK187 := n1_; have GW187 := n2_; have GE187 := n3_; clear n0_ n1_ n2_ n3_; clear hb hbox hg; have hcz7_0 : w6.cell? ⟨gb187, 0, none⟩ = some (.string a0_0) := (blk_cell BK187.out 0).trans rfl; have hcz7_1 : w6.cell? ⟨gb187, 1, none⟩ = some (.string a0_1) := (blk_cell BK187.out 1).trans rfl; have hcz7_2 : w6.cell? ⟨gb187, 2, none⟩ = some (.bool a0_2) := (blk_cell BK187.out 2).trans rfl; have hcz7_3 : w6.cell? ⟨gb187, 3, none⟩ = some (.bool a0_3) := (blk_cell BK187.out 3).trans rfl; have hfz7_0 := blk_frozen BK187.out 0; have hfz7_1 := blk_frozen BK187.out 1; have hfz7_2 := blk_frozen BK187.out 2; have hfz7_3 := blk_frozen BK187.out 3))
      go_ret
      exact ⟨by first | rfl | (simp [errW_none, errW_some] <;> rfl) | (simp [*, errW_none, errW_some] <;> rfl), by repeat (first | (with_reducible first | exact HB.out | apply below_alloc | apply pw_below_drewN | apply below_drew1 | refine below_set ?_ GE187.out) | exact HB.out)⟩
    · rw [if_neg c5] at H
      have c5b0 : decide (2147483647 < (a0_1.size : Int)) = false := decide_eq_false c5
      have c5b1 : decide (2147483647 < a0_1.size) = false := decide_eq_false (by omega)
      clear c5
      obtain rfl := Option.some.inj H
      go_enter Try.func49, Try.ntmps49
      go_wp2_with (first | ((with_reducible refine gate_dst (N := 1) rfl ?_); refine box_event ?hg (N := 1) ?hd (cs := #[.string a0_0, .string a0_1, .bool a0_2, .bool a0_3]) (t := 45) ?hr ?_; (case hd => rfl); (case hg => rfl); (case hr => first | (go_simp; done) | (go_simp; rfl)); intro gb187 hg w8 hbox hb; have n0_ := Aside0.mk (below_step (by repeat (first | (with_reducible first | exact HB.out | apply below_alloc | apply pw_below_drewN | apply below_drew1) | exact HB.out)) hb); have n1_ := Aside0.mk (hbox); have n2_ := Aside0.mk ((by rw [hg]; exact (below_size (by repeat (first | (with_reducible first | exact HB.out | apply below_alloc | apply pw_below_drewN | apply below_drew1) | exact HB.out))) : w.heap.size ≤ gb187)); have n3_ := Aside0.mk ((by rw [hg]; exact (below_size (by repeat (first | (with_reducible first | exact HB.out | apply below_alloc | apply pw_below_drewN | apply below_drew1) | exact HB.out))) : w.heap.size ≤ gb187)); clear HB; have HB := n0_; have BK187 := n1_; have GW187 := n2_; have GE187 := n3_; clear n0_ n1_ n2_ n3_; clear hb hbox hg; have hcz9_0 : w8.cell? ⟨gb187, 0, none⟩ = some (.string a0_0) := (blk_cell BK187.out 0).trans rfl; have hcz9_1 : w8.cell? ⟨gb187, 1, none⟩ = some (.string a0_1) := (blk_cell BK187.out 1).trans rfl; have hcz9_2 : w8.cell? ⟨gb187, 2, none⟩ = some (.bool a0_2) := (blk_cell BK187.out 2).trans rfl; have hcz9_3 : w8.cell? ⟨gb187, 3, none⟩ = some (.bool a0_3) := (blk_cell BK187.out 3).trans rfl; have hfz9_0 := blk_frozen BK187.out 0; have hfz9_1 := blk_frozen BK187.out 1; have hfz9_2 := blk_frozen BK187.out 2; have hfz9_3 := blk_frozen BK187.out 3))
      go_ret
      exact ⟨by first | rfl | (simp [errW_none, errW_some] <;> rfl) | (simp [*, errW_none, errW_some] <;> rfl), by repeat (first | (with_reducible first | exact HB.out | apply below_alloc | apply pw_below_drewN | apply below_drew1 | refine below_set ?_ GE187.out) | exact HB.out)⟩

/-! ### laws_zzFits2: function 27 -/
def laws_zzFits2.l0 : Nat → List (S45) → Int → Int → Option (Bool)
  | 0, _, _, _ => none
  | k + 1, x8, x9, x10 => if x10 < x9 then (if 0 ≤ x10 then (if x10 < (x8.length : Int) then ((laws_zzFits3.f ((rd_T45 x8 x10).f0) ((rd_T45 x8 x10).f1) ((rd_T45 x8 x10).f2) ((rd_T45 x8 x10).f3)).bind fun t190 => (if t190 = true then (laws_zzFits2.l0 k x8 x9 (wrap64 (x10 + 1))) else (some false))) else (none)) else (none)) else (some true)
def laws_zzFits2.f (k : Nat) (l0 : List (S45)) : Option (Bool) := if (l0.length : Int) > 2147483647 then (some false) else (laws_zzFits2.l0 k l0 (l0.length : Int) 0)
theorem laws_zzFits2.mono_l : ∀ k, (∀ y0 y1 y2, LeO (laws_zzFits2.l0 k y0 y1 y2) (laws_zzFits2.l0 (k + 1) y0 y1 y2))
  | 0 => fun _ _ _ r h => by simp [laws_zzFits2.l0] at h
  | k + 1 => by
    have ih0 := laws_zzFits2.mono_l k
    · intro y0 y1 y2
      unfold laws_zzFits2.l0
      repeat' first
      | (with_reducible exact ih0 _ _ _)
      | (with_reducible exact LeO.refl _)
      | (with_reducible exact LeO.none _)
      | (with_reducible refine LeO.ite ?_ ?_)
      | (with_reducible refine LeO.bind ?_ (fun _ => ?_))
      | exact ih0 _ _ _
      | exact LeO.none _
      | refine LeO.ite ?_ ?_
      | refine LeO.bind ?_ (fun _ => ?_)
theorem laws_zzFits2.mono : ∀ a0 k, LeO (laws_zzFits2.f k a0) (laws_zzFits2.f (k + 1) a0) := by
  intro a0 k
  have ih0 := laws_zzFits2.mono_l k
  unfold laws_zzFits2.f
  repeat' first
      | (with_reducible exact ih0 _ _ _)
      | (with_reducible exact LeO.refl _)
      | (with_reducible exact LeO.none _)
      | (with_reducible refine LeO.ite ?_ ?_)
      | (with_reducible refine LeO.bind ?_ (fun _ => ?_))
      | exact ih0 _ _ _
      | exact LeO.none _
      | refine LeO.ite ?_ ?_
      | refine LeO.bind ?_ (fun _ => ?_)
set_option maxHeartbeats 8000000 in
set_option maxRecDepth 100000 in
theorem laws_zzFits2.calls (k : Nat) (A0 : Option Addr) (c0 : Nat) (l0 : List (S45)) (r : Bool) (w : World) (hr0 : Kd.C k45 w A0 l0.length l0) (hc0 : l0.length ≤ c0) (h : laws_zzFits2.f k l0 = some r) :
    Calls Try.prog 27 #[.slice A0 l0.length c0] w fun e w' => e = .returned (.bool r) ∧ Below w.heap.size w w' := by
  have hu45 := Try.underlying45
  have HR0 := Aside0.mk hr0
  have HC0 := Aside0.mk hc0
  clear hr0 hc0
  have HB := Aside0.mk (Below.refl w.heap.size w)
  have H : (if (l0.length : Int) > 2147483647 then (some false) else (laws_zzFits2.l0 k l0 (l0.length : Int) 0)) = some r := h
  clear h
  by_cases c2 : (l0.length : Int) > 2147483647
  · rw [if_pos c2] at H
    have c2b0 : decide (2147483647 < (l0.length : Int)) = true := decide_eq_true c2
    have c2b1 : decide (2147483647 < l0.length) = true := decide_eq_true (by omega)
    clear c2
    obtain rfl := Option.some.inj H
    go_enter Try.func27, Try.ntmps27
    go_wp2
    go_ret
    exact ⟨by first | rfl | (simp [errW_none, errW_some] <;> rfl) | (simp [*, errW_none, errW_some] <;> rfl), by repeat (first | (with_reducible first | exact HB.out | apply below_alloc | apply pw_below_drewN | apply below_drew1) | exact HB.out)⟩
  · rw [if_neg c2] at H
    have c2b0 : decide (2147483647 < (l0.length : Int)) = false := decide_eq_false c2
    have c2b1 : decide (2147483647 < l0.length) = false := decide_eq_false (by omega)
    clear c2
    have H' := Aside0.mk H
    clear H
    go_enter Try.func27, Try.ntmps27
    go_wp2
    go_loopg [10] k (fun kq v10 w' => ∃ (x10_1 : Int), v10 = .int .i64 x10_1 ∧ Aside0 (laws_zzFits2.l0 kq l0 (l0.length : Int) x10_1 = some r) ∧ Aside0 (kq ≤ k) ∧ Aside0 (Below w.heap.size w w'))
    case atStart => exact ⟨(0), (by first | rfl | (simp; done) | (simp [*]; done) | (simp [Go.Proofs.YtjmcndbkmknemaaX.isEmpty_ne]; done)), H', ⟨Nat.le_refl _⟩, ⟨by repeat (first | (with_reducible first | exact HB.out | apply below_alloc | apply pw_below_drewN | apply below_drew1) | exact HB.out)⟩⟩
    case round =>
      clear H'
      try clear c2
      try clear c2b0
      try clear c2b1
      try clear p2
      obtain ⟨x10_1, rfl, HA, HK1, HB⟩ := hrel
      cases gk with
      | zero => exact absurd HA.out (by simp [laws_zzFits2.l0])
      | succ k1 =>
        have H := HA.out
        clear HA
        simp only [laws_zzFits2.l0] at H
        by_cases c3 : x10_1 < (l0.length : Int)
        · rw [if_pos c3] at H
          have c3b0 : decide (x10_1 < (l0.length : Int)) = true := decide_eq_true c3
          clear c3
          by_cases c4 : 0 ≤ x10_1
          · rw [if_pos c4] at H
            have c4b0 : decide (0 ≤ x10_1) = true := decide_eq_true c4
            clear c4
            by_cases c5 : x10_1 < (l0.length : Int)
            · rw [if_pos c5] at H
              have c5b0 : decide (x10_1 < (l0.length : Int)) = true := decide_eq_true c5
              clear c5
              replace H := Option.bind_eq_some_iff.mp H
              obtain ⟨t190, A60, H⟩ := H
              replace H : (if t190 = true then (laws_zzFits2.l0 k1 l0 (l0.length : Int) (wrap64 (x10_1 + 1))) else (some false)) = some r := H
              have A6 := Aside0.mk A60
              clear A60
              by_cases c7 : t190 = true
              · subst c7
                have H1 : (laws_zzFits2.l0 k1 l0 (l0.length : Int) (wrap64 (x10_1 + 1))) = some r := by rw [if_pos rfl] at H; exact H
                clear H
                have H := H1
                clear H1
                have H' := Aside0.mk H
                clear H
                have p188 : 0 ≤ (x10_1 : Int) := of_decide_eq_true (by first | (with_reducible assumption) | assumption)
                have q188 : x10_1 < (l0.length : Int) := of_decide_eq_true (by first | (with_reducible assumption) | assumption)
                obtain ⟨ad188, e188, hx188_0, hx188_1, hx188_2, hx188_3⟩ := at_T45 HR0.out x10_1 p188 q188
                cases e188
                replace hx188_0 := (HB.out.cell (World.block_lt_of_cell? w _ hx188_0)).trans hx188_0
                replace hx188_1 := (HB.out.cell (World.block_lt_of_cell? w _ hx188_1)).trans hx188_1
                replace hx188_2 := (HB.out.cell (World.block_lt_of_cell? w _ hx188_2)).trans hx188_2
                replace hx188_3 := (HB.out.cell (World.block_lt_of_cell? w _ hx188_3)).trans hx188_3
                replace p188 := eq_true p188
                replace q188 := eq_true q188
                go_wp2_with (first | ((with_reducible refine gate_dst (N := 4) rfl ?_); refine box_event ?hg (N := 4) ?hd (cs := #[.string (⟨#[]⟩ : ByteArray), .string (⟨#[]⟩ : ByteArray), .bool false, .bool false]) (t := 45) ?hr ?_; (case hd => rfl); (case hg => rfl); (case hr => first | (go_simp; done) | (go_simp; rfl)); intro gb189 hg w8 hbox hb; have n0_ := Aside0.mk (below_step (by repeat (first | (with_reducible first | exact HB.out | apply below_alloc | apply pw_below_drewN | apply below_drew1) | exact HB.out)) hb); have n1_ := Aside0.mk (hbox); have n2_ := Aside0.mk ((by rw [hg]; exact (below_size (by repeat (first | (with_reducible first | exact HB.out | apply below_alloc | apply pw_below_drewN | apply below_drew1) | exact HB.out))) : w.heap.size ≤ gb189)); have n3_ := Aside0.mk ((by rw [hg]; exact (below_size (by repeat (first | (with_reducible first | exact HB.out | apply below_alloc | apply pw_below_drewN | apply below_drew1) | exact HB.out))) : w.heap.size ≤ gb189)); clear HB; have HB := n0_; have BK189 := n1_; have GW189 := n2_; have GE189 := n3_; clear n0_ n1_ n2_ n3_; clear hb hbox hg; have hcz9_0 : w8.cell? ⟨gb189, 0, none⟩ = some (.string (⟨#[]⟩ : ByteArray)) := (blk_cell BK189.out 0).trans rfl; have hcz9_1 : w8.cell? ⟨gb189, 1, none⟩ = some (.string (⟨#[]⟩ : ByteArray)) := (blk_cell BK189.out 1).trans rfl; have hcz9_2 : w8.cell? ⟨gb189, 2, none⟩ = some (.bool false) := (blk_cell BK189.out 2).trans rfl; have hcz9_3 : w8.cell? ⟨gb189, 3, none⟩ = some (.bool false) := (blk_cell BK189.out 3).trans rfl; have hfz9_0 := blk_frozen BK189.out 0; have hfz9_1 := blk_frozen BK189.out 1; have hfz9_2 := blk_frozen BK189.out 2; have hfz9_3 := blk_frozen BK189.out 3) | ((with_reducible refine gate_callee (f := 49) rfl ?_); refine goesL_ (some 15) rfl rfl Try.func49 (by kernel_rfl) rfl #[.agg #[.string ((rd_T45 l0 x10_1).f0), .string ((rd_T45 l0 x10_1).f1), .bool ((rd_T45 l0 x10_1).f2), .bool ((rd_T45 l0 x10_1).f3)]] rfl (by (try simp only [List.map_toArray, List.map_cons, List.map_nil]); first | done | rfl | (simp only [List.length_drop, List.length_take]; rfl)) ?_; (with_reducible refine (laws_zzFits3.calls ((rd_T45 l0 x10_1).f0) ((rd_T45 l0 x10_1).f1) ((rd_T45 l0 x10_1).f2) ((rd_T45 l0 x10_1).f3) true _ A6.out).mono ?_); rintro e w10 ⟨rfl, hb⟩; refine ⟨_, rfl, ?_⟩; have n0_ := Aside0.mk (blk_below (g := gb189) (o := .cells #[.string ((rd_T45 l0 x10_1).f0), .string ((rd_T45 l0 x10_1).f1), .bool ((rd_T45 l0 x10_1).f2), .bool ((rd_T45 l0 x10_1).f3)] 45 (0, 0)) (by (with_reducible repeat (first | refine blk_drewN ?_ _ | refine blk_drew ?_ | refine blk_alloc ?_ _)); refine blk_put (cs := #[.string ((rd_T45 l0 x10_1).f0), .string ((rd_T45 l0 x10_1).f1), .bool ((rd_T45 l0 x10_1).f2), .bool false]) ?_ 3 _ rfl; (with_reducible repeat (first | refine blk_drewN ?_ _ | refine blk_drew ?_ | refine blk_alloc ?_ _)); refine blk_put (cs := #[.string ((rd_T45 l0 x10_1).f0), .string ((rd_T45 l0 x10_1).f1), .bool false, .bool false]) ?_ 2 _ rfl; (with_reducible repeat (first | refine blk_drewN ?_ _ | refine blk_drew ?_ | refine blk_alloc ?_ _)); refine blk_put (cs := #[.string ((rd_T45 l0 x10_1).f0), .string (⟨#[]⟩ : ByteArray), .bool false, .bool false]) ?_ 1 _ rfl; (with_reducible repeat (first | refine blk_drewN ?_ _ | refine blk_drew ?_ | refine blk_alloc ?_ _)); refine blk_put (cs := #[.string (⟨#[]⟩ : ByteArray), .string (⟨#[]⟩ : ByteArray), .bool false, .bool false]) ?_ 0 _ rfl; (with_reducible repeat (first | refine blk_drewN ?_ _ | refine blk_drew ?_ | refine blk_alloc ?_ _)); exact BK189.out) hb); have n1_ := Aside0.mk (below_step (by repeat (first | (with_reducible first | exact HB.out | apply below_alloc | apply pw_below_drewN | apply below_drew1 | refine below_set ?_ GE189.out) | exact HB.out)) hb); clear BK189; clear HB; have BK189 := n0_; have HB := n1_; clear n0_ n1_; (try clear hb); (try clear hb2); (try clear hk); (try clear hi)))
                go_roundg k1
                case measure => have := HK1.out; omega
                case rel => exact ⟨(wrap64 (x10_1 + 1)), (by first | rfl | (simp; done) | (simp [*]; done) | (simp [Go.Proofs.YtjmcndbkmknemaaX.isEmpty_ne]; done)), H', ⟨by have := HK1.out; omega⟩, ⟨by repeat (first | (with_reducible first | exact HB.out | apply below_alloc | apply pw_below_drewN | apply below_drew1 | refine below_set ?_ GE189.out) | exact HB.out)⟩⟩
              · replace c7 := Bool.eq_false_iff.mpr c7
                subst c7
                have H1 : (some false) = some r := by rw [if_neg (show ¬ (false = true) by decide)] at H; exact H
                clear H
                have H := H1
                clear H1
                obtain rfl := Option.some.inj H
                have p188 : 0 ≤ (x10_1 : Int) := of_decide_eq_true (by first | (with_reducible assumption) | assumption)
                have q188 : x10_1 < (l0.length : Int) := of_decide_eq_true (by first | (with_reducible assumption) | assumption)
                obtain ⟨ad188, e188, hx188_0, hx188_1, hx188_2, hx188_3⟩ := at_T45 HR0.out x10_1 p188 q188
                cases e188
                replace hx188_0 := (HB.out.cell (World.block_lt_of_cell? w _ hx188_0)).trans hx188_0
                replace hx188_1 := (HB.out.cell (World.block_lt_of_cell? w _ hx188_1)).trans hx188_1
                replace hx188_2 := (HB.out.cell (World.block_lt_of_cell? w _ hx188_2)).trans hx188_2
                replace hx188_3 := (HB.out.cell (World.block_lt_of_cell? w _ hx188_3)).trans hx188_3
                replace p188 := eq_true p188
                replace q188 := eq_true q188
                go_wp2_with (first | ((with_reducible refine gate_dst (N := 4) rfl ?_); refine box_event ?hg (N := 4) ?hd (cs := #[.string (⟨#[]⟩ : ByteArray), .string (⟨#[]⟩ : ByteArray), .bool false, .bool false]) (t := 45) ?hr ?_; (case hd => rfl); (case hg => rfl); (case hr => first | (go_simp; done) | (go_simp; rfl)); intro gb189 hg w11 hbox hb; have n0_ := Aside0.mk (below_step (by repeat (first | (with_reducible first | exact HB.out | apply below_alloc | apply pw_below_drewN | apply below_drew1) | exact HB.out)) hb); have n1_ := Aside0.mk (hbox); have n2_ := Aside0.mk ((by rw [hg]; exact (below_size (by repeat (first | (with_reducible first | exact HB.out | apply below_alloc | apply pw_below_drewN | apply below_drew1) | exact HB.out))) : w.heap.size ≤ gb189)); have n3_ := Aside0.mk ((by rw [hg]; exact (below_size (by repeat (first | (with_reducible first | exact HB.out | apply below_alloc | apply pw_below_drewN | apply below_drew1) | exact HB.out))) : w.heap.size ≤ gb189)); clear HB; have HB := n0_; have BK189 := n1_; have GW189 := n2_; have GE189 := n3_; clear n0_ n1_ n2_ n3_; clear hb hbox hg; have hcz12_0 : w11.cell? ⟨gb189, 0, none⟩ = some (.string (⟨#[]⟩ : ByteArray)) := (blk_cell BK189.out 0).trans rfl; have hcz12_1 : w11.cell? ⟨gb189, 1, none⟩ = some (.string (⟨#[]⟩ : ByteArray)) := (blk_cell BK189.out 1).trans rfl; have hcz12_2 : w11.cell? ⟨gb189, 2, none⟩ = some (.bool false) := (blk_cell BK189.out 2).trans rfl; have hcz12_3 : w11.cell? ⟨gb189, 3, none⟩ = some (.bool false) := (blk_cell BK189.out 3).trans rfl; have hfz12_0 := blk_frozen BK189.out 0; have hfz12_1 := blk_frozen BK189.out 1; have hfz12_2 := blk_frozen BK189.out 2; have hfz12_3 := blk_frozen BK189.out 3) | ((with_reducible refine gate_callee (f := 49) rfl ?_); refine goesL_ (some 15) rfl rfl Try.func49 (by kernel_rfl) rfl #[.agg #[.string ((rd_T45 l0 x10_1).f0), .string ((rd_T45 l0 x10_1).f1), .bool ((rd_T45 l0 x10_1).f2), .bool ((rd_T45 l0 x10_1).f3)]] rfl (by (try simp only [List.map_toArray, List.map_cons, List.map_nil]); first | done | rfl | (simp only [List.length_drop, List.length_take]; rfl)) ?_; (with_reducible refine (laws_zzFits3.calls ((rd_T45 l0 x10_1).f0) ((rd_T45 l0 x10_1).f1) ((rd_T45 l0 x10_1).f2) ((rd_T45 l0 x10_1).f3) false _ A6.out).mono ?_); rintro e w13 ⟨rfl, hb⟩; refine ⟨_, rfl, ?_⟩; have n0_ := Aside0.mk (blk_below (g := gb189) (o := .cells #[.string ((rd_T45 l0 x10_1).f0), .string ((rd_T45 l0 x10_1).f1), .bool ((rd_T45 l0 x10_1).f2), .bool ((rd_T45 l0 x10_1).f3)] 45 (0, 0)) (by (with_reducible repeat (first | refine blk_drewN ?_ _ | refine blk_drew ?_ | refine blk_alloc ?_ _)); refine blk_put (cs := #[.string ((rd_T45 l0 x10_1).f0), .string ((rd_T45 l0 x10_1).f1), .bool ((rd_T45 l0 x10_1).f2), .bool false]) ?_ 3 _ rfl; (with_reducible repeat (first | refine blk_drewN ?_ _ | refine blk_drew ?_ | refine blk_alloc ?_ _)); refine blk_put (cs := #[.string ((rd_T45 l0 x10_1).f0), .string ((rd_T45 l0 x10_1).f1), .bool false, .bool false]) ?_ 2 _ rfl; (with_reducible repeat (first | refine blk_drewN ?_ _ | refine blk_drew ?_ | refine blk_alloc ?_ _)); refine blk_put (cs := #[.string ((rd_T45 l0 x10_1).f0), .string (⟨#[]⟩ : ByteArray), .bool false, .bool false]) ?_ 1 _ rfl; (with_reducible repeat (first | refine blk_drewN ?_ _ | refine blk_drew ?_ | refine blk_alloc ?_ _)); refine blk_put (cs := #[.string (⟨#[]⟩ : ByteArray), .string (⟨#[]⟩ : ByteArray), .bool false, .bool false]) ?_ 0 _ rfl; (with_reducible repeat (first | refine blk_drewN ?_ _ | refine blk_drew ?_ | refine blk_alloc ?_ _)); exact BK189.out) hb); have n1_ := Aside0.mk (below_step (by repeat (first | (with_reducible first | exact HB.out | apply below_alloc | apply pw_below_drewN | apply below_drew1 | refine below_set ?_ GE189.out) | exact HB.out)) hb); clear BK189; clear HB; have BK189 := n0_; have HB := n1_; clear n0_ n1_; (try clear hb); (try clear hb2); (try clear hk); (try clear hi)))
                go_ret
                exact ⟨by first | rfl | (simp [errW_none, errW_some] <;> rfl) | (simp [*, errW_none, errW_some] <;> rfl), by repeat (first | (with_reducible first | exact HB.out | apply below_alloc | apply pw_below_drewN | apply below_drew1 | refine below_set ?_ GE189.out) | exact HB.out)⟩
            · rw [if_neg c5] at H
              exact absurd H (by simp)
          · rw [if_neg c4] at H
            exact absurd H (by simp)
        · rw [if_neg c3] at H
          have c3b0 : decide (x10_1 < (l0.length : Int)) = false := decide_eq_false c3
          clear c3
          obtain rfl := Option.some.inj H
          go_wp2
          go_ret
          exact ⟨by first | rfl | (simp [errW_none, errW_some] <;> rfl) | (simp [*, errW_none, errW_some] <;> rfl), by repeat (first | (with_reducible first | exact HB.out | apply below_alloc | apply pw_below_drewN | apply below_drew1) | exact HB.out)⟩

-- NOT PRINTED: function 62 (irisast_IsMaster)

-- NOT PRINTED: function 50 (irisast_GetMasterParamType)

-- NOT PRINTED: function 51 (impl_types)

/-! ### impl_FirstType: function 28 -/
-- USES T7
def impl_FirstType.f (l0 : List S45) : Option (ByteArray × ByteArray × Bool × Bool × Bool) := if l0.length ≤ 2147483647 then some (orNone (masterO l0 l0)) else none
theorem impl_FirstType.calls (A0 : Option Addr) (c0 : Nat) (l0 : List (S45)) (r1 : ByteArray) (r2 : ByteArray) (r3 : Bool) (r4 : Bool) (r5 : Bool) (w : World) (hr0 : Kd.C k45 w A0 l0.length l0) (hc0 : l0.length ≤ c0) (h : impl_FirstType.f l0 = some (r1, r2, r3, r4, r5)) :
    Calls Try.prog 28 #[.slice A0 l0.length c0] w fun e w' => e = .returned (.tuple #[.agg #[.string r1, .string r2, .bool r3, .bool r4], .bool r5]) ∧ Below w.heap.size w w' := by
  unfold impl_FirstType.f at h
  split at h
  · rename_i hl
    exact firstType_calls A0 c0 l0 r1 r2 r3 r4 r5 w hr0 hc0 hl (Option.some.inj h)
  · cases h

/-! ### laws_types: function 29 -/
def laws_types.f  : Option ((List (S45))) := some (([(⟨(⟨#[115, 116, 114, 105, 110, 103]⟩ : ByteArray), (⟨#[]⟩ : ByteArray), true, false⟩ : S45), (⟨(⟨#[105, 110, 116]⟩ : ByteArray), (⟨#[110, 117, 109, 98, 101, 114]⟩ : ByteArray), false, false⟩ : S45), (⟨(⟨#[112, 97, 116, 104]⟩ : ByteArray), (⟨#[]⟩ : ByteArray), false, true⟩ : S45)] : List (S45)))
set_option maxHeartbeats 8000000 in
set_option maxRecDepth 100000 in
theorem laws_types.calls  (r : List (S45)) (w : World) (h : laws_types.f  = some r) :
    Calls Try.prog 29 #[] w fun e w' => ∃ v0_ : Value, e = .returned (v0_) ∧ Kd.R k45 45 w' w.heap.size (fun _ => True) v0_ r ∧ Below w.heap.size w w' := by
  have hu45 := Try.underlying45
  have HB := Aside0.mk (Below.refl w.heap.size w)
  have H : (some (([(⟨(⟨#[115, 116, 114, 105, 110, 103]⟩ : ByteArray), (⟨#[]⟩ : ByteArray), true, false⟩ : S45), (⟨(⟨#[105, 110, 116]⟩ : ByteArray), (⟨#[110, 117, 109, 98, 101, 114]⟩ : ByteArray), false, false⟩ : S45), (⟨(⟨#[112, 97, 116, 104]⟩ : ByteArray), (⟨#[]⟩ : ByteArray), false, true⟩ : S45)] : List (S45)))) = some r := h
  clear h
  obtain ⟨y191, hy191⟩ : ∃ y_ : List (S45), y_ = (([(⟨(⟨#[115, 116, 114, 105, 110, 103]⟩ : ByteArray), (⟨#[]⟩ : ByteArray), true, false⟩ : S45), (⟨(⟨#[105, 110, 116]⟩ : ByteArray), (⟨#[110, 117, 109, 98, 101, 114]⟩ : ByteArray), false, false⟩ : S45), (⟨(⟨#[112, 97, 116, 104]⟩ : ByteArray), (⟨#[]⟩ : ByteArray), false, true⟩ : S45)] : List (S45))) := ⟨_, rfl⟩
  replace H : (some y191) = some r := by first | (rw [hy191]; with_reducible exact H) | (have H2_ := (Option.bind_some _ _).symm.trans H; rw [hy191]; with_reducible exact H2_) | (have H2_ := (Option.bind_some _ _).symm.trans H; with_reducible exact H2_) | with_reducible exact H | (rw [hy191]; exact H) | exact H
  have Ny191 := Aside0.mk hy191
  clear hy191
  obtain rfl := Option.some.inj H
  go_enter Try.func29, Try.ntmps29
  go_wp2_with (first | ((with_reducible refine gate_dst (N := 4) rfl ?_); refine Kd.R_lit k45 _ 45 ?hg (N := 4) ?hd (xs := ([(⟨(⟨#[115, 116, 114, 105, 110, 103]⟩ : ByteArray), (⟨#[]⟩ : ByteArray), true, false⟩ : S45), (⟨(⟨#[105, 110, 116]⟩ : ByteArray), (⟨#[110, 117, 109, 98, 101, 114]⟩ : ByteArray), false, false⟩ : S45), (⟨(⟨#[112, 97, 116, 104]⟩ : ByteArray), (⟨#[]⟩ : ByteArray), false, true⟩ : S45)] : List (S45))) (inner := [.string (⟨#[115, 116, 114, 105, 110, 103]⟩ : ByteArray), .string (⟨#[]⟩ : ByteArray), .bool true, .bool false, .string (⟨#[105, 110, 116]⟩ : ByteArray), .string (⟨#[110, 117, 109, 98, 101, 114]⟩ : ByteArray), .bool false, .bool false, .string (⟨#[112, 97, 116, 104]⟩ : ByteArray), .string (⟨#[]⟩ : ByteArray), .bool false, .bool true]) (ok := fun _ => True) (okp := fun _ => True) ?hr ?hp (fun _ hk => hk) trivial (Below.refl _ _) (Nat.le_refl _) (by simp) ?_; (case hd => rfl); (case hg => rfl); (case hr => first | (go_simp; done) | (go_simp; rfl)); (case hp => exact (Reps.c4 (show Kd.M k45 _ _ _ (⟨(⟨#[115, 116, 114, 105, 110, 103]⟩ : ByteArray), (⟨#[]⟩ : ByteArray), true, false⟩ : S45) [.string (⟨#[115, 116, 114, 105, 110, 103]⟩ : ByteArray), .string (⟨#[]⟩ : ByteArray), .bool true, .bool false] from (k45_mkM _ _ _ (⟨(⟨#[115, 116, 114, 105, 110, 103]⟩ : ByteArray), (⟨#[]⟩ : ByteArray), true, false⟩ : S45) )) (Reps.c4 (show Kd.M k45 _ _ _ (⟨(⟨#[105, 110, 116]⟩ : ByteArray), (⟨#[110, 117, 109, 98, 101, 114]⟩ : ByteArray), false, false⟩ : S45) [.string (⟨#[105, 110, 116]⟩ : ByteArray), .string (⟨#[110, 117, 109, 98, 101, 114]⟩ : ByteArray), .bool false, .bool false] from (k45_mkM _ _ _ (⟨(⟨#[105, 110, 116]⟩ : ByteArray), (⟨#[110, 117, 109, 98, 101, 114]⟩ : ByteArray), false, false⟩ : S45) )) (Reps.c4 (show Kd.M k45 _ _ _ (⟨(⟨#[112, 97, 116, 104]⟩ : ByteArray), (⟨#[]⟩ : ByteArray), false, true⟩ : S45) [.string (⟨#[112, 97, 116, 104]⟩ : ByteArray), .string (⟨#[]⟩ : ByteArray), .bool false, .bool true] from (k45_mkM _ _ _ (⟨(⟨#[112, 97, 116, 104]⟩ : ByteArray), (⟨#[]⟩ : ByteArray), false, true⟩ : S45) )) (Reps.none _ _))))); intro v192 w1 ho2 hb hg_ hnew_; clear hg_ hnew_; (first | rw [← Ny191.out] at ho2 | (simp only [Int.reduceToNat] at ho2; rw [← Ny191.out] at ho2)); have n0_ := Aside0.mk (Kd.R_lower ho2 (below_size (by repeat (first | (with_reducible first | exact HB.out | apply below_alloc | apply pw_below_drewN | apply below_drew1) | exact HB.out)))); have n1_ := Aside0.mk (below_step (by repeat (first | (with_reducible first | exact HB.out | apply below_alloc | apply pw_below_drewN | apply below_drew1) | exact HB.out)) hb); clear HB; have HO193 := n0_; have HB := n1_; clear n0_ n1_; clear hb ho2))
  go_ret
  exact ⟨_, by first | rfl | (simp [errW_none, errW_some] <;> rfl) | (simp [*, errW_none, errW_some] <;> rfl), by (with_reducible repeat (first | apply Kd.R_alloc | apply Kd.R_drewN | apply Kd.R_drew)); exact HO193.out, by repeat (first | (with_reducible first | exact HB.out | apply below_alloc | apply pw_below_drewN | apply below_drew1) | exact HB.out)⟩

end Go.Proofs.Ytjmcndbkmknemaa.Q
