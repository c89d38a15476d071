import Derived.Test.YtipmmjbjgbfgjaaQ0
-- Written by a program of this session out of the translation, with the kit's printer. Not trusted: Lean checks it.
namespace Go.Proofs.Ytipmmjbjgbfgjaa.Q
open Go.RowKit Go.Proofs.YtipmmjbjgbfgjaaW.PrintWords Go.Proofs.YtipmmjbjgbfgjaaW.PrintLast Go.Proofs.YtipmmjbjgbfgjaaW.PrintMore
attribute [local go_sem] max2_int min2_int max_two min_two max_three min_three max_four min_four   -- for this text's walks alone
set_option linter.unusedVariables false
set_option linter.unusedSimpArgs false

theorem eqA40 (d : Nat) (w : World) (x0 y0 : ByteArray) (x1 y1 : ByteArray) (x2 y2 : Bool) :
    (Op.equalIn (d + 2) 40 (.agg #[.string x0, .string x1, .bool x2]) (.agg #[.string y0, .string y1, .bool y2])).run Try.prog w = .ok (x0.toList == y0.toList && (x1.toList == y1.toList && (x2 == y2))) w := by
  refine eqA_of Try.underlying40 (by kernel_rfl) ?_
  refine eqf_cons (by rfl) (by go_simp; rfl) (by go_simp; rfl) (by go_simp) ?_
  refine eqf_cons (by rfl) (by go_simp; rfl) (by go_simp; rfl) (by go_simp) ?_
  exact eqf_last (by rfl) (by go_simp; rfl) (by go_simp; rfl) (by go_simp)
end Go.Proofs.Ytipmmjbjgbfgjaa.Q

-- Written by a program of this session out of the translation, with the kit's printer. Not trusted: Lean checks it.
namespace Go.Proofs.Ytipmmjbjgbfgjaa.Q
open Go.RowKit Go.Proofs.YtipmmjbjgbfgjaaW.PrintWords Go.Proofs.YtipmmjbjgbfgjaaW.PrintLast Go.Proofs.YtipmmjbjgbfgjaaW.PrintMore
attribute [local go_sem] max2_int min2_int max_two min_two max_three min_three max_four min_four   -- for this text's walks alone
set_option linter.unusedVariables false
set_option linter.unusedSimpArgs false

/-! ### laws_zzFits8: function 66 -/
def laws_zzFits8.f (a0_0 : ByteArray) (a0_1 : ByteArray) (a0_2 : Bool) : Option (Bool) := if (a0_0.size : Int) > 2147483647 then (some false) else (if (a0_1.size : Int) > 2147483647 then (some false) else (some true))
set_option maxHeartbeats 8000000 in
set_option maxRecDepth 100000 in
theorem laws_zzFits8.calls (a0_0 : ByteArray) (a0_1 : ByteArray) (a0_2 : Bool) (r : Bool) (w : World) (h : laws_zzFits8.f a0_0 a0_1 a0_2 = some r) :
    Calls Try.prog 66 #[.agg #[.string a0_0, .string a0_1, .bool a0_2]] w fun e w' => e = .returned (.bool r) ∧ Below w.heap.size w w' := by
  have hu40 := Try.underlying40
  have HB := Aside0.mk (Below.refl w.heap.size w)
  have H : (if (a0_0.size : Int) > 2147483647 then (some false) else (if (a0_1.size : Int) > 2147483647 then (some false) else (some true))) = some r := h
  clear h
  by_cases c2 : (a0_0.size : Int) > 2147483647
  · rw [if_pos c2] at H
    have c2b0 : decide (2147483647 < (a0_0.size : Int)) = true := decide_eq_true c2
    have c2b1 : decide (2147483647 < a0_0.size) = true := decide_eq_true (by omega)
    clear c2
    obtain rfl := Option.some.inj H
    go_enter Try.func66, Try.ntmps66
    go_wp2_with (first | ((with_reducible refine gate_dst (N := 1) rfl ?_); refine box_event ?hg (N := 1) ?hd (cs := #[.string a0_0, .string a0_1, .bool a0_2]) (t := 40) ?hr ?_; (case hd => rfl); (case hg => rfl); (case hr => first | (go_simp; done) | (go_simp; rfl)); intro gb101 hg w3 hbox hb; have n0_ := Aside0.mk (below_step (by repeat (first | (with_reducible first | exact HB.out | apply below_alloc | apply pw_below_drewN | apply below_drew1) | exact HB.out)) hb); have n1_ := Aside0.mk (hbox); have n2_ := Aside0.mk ((by rw [hg]; exact (below_size (by repeat (first | (with_reducible first | exact HB.out | apply below_alloc | apply pw_below_drewN | apply below_drew1) | exact HB.out))) : w.heap.size ≤ gb101)); have n3_ := Aside0.mk ((by rw [hg]; exact (below_size (by repeat (first | (with_reducible first | exact HB.out | apply below_alloc | apply pw_below_drewN | apply below_drew1) | exact HB.out))) : w.heap.size ≤ gb101)); clear HB; have HB := n0_; have BK101 := n1_; have GW101 := n2_; have GE101 := n3_; clear n0_ n1_ n2_ n3_; clear hb hbox hg; have hcz4_0 : w3.cell? ⟨gb101, 0, none⟩ = some (.string a0_0) := (blk_cell BK101.out 0).trans rfl; have hcz4_1 : w3.cell? ⟨gb101, 1, none⟩ = some (.string a0_1) := (blk_cell BK101.out 1).trans rfl; have hcz4_2 : w3.cell? ⟨gb101, 2, none⟩ = some (.bool a0_2) := (blk_cell BK101.out 2).trans rfl; have hfz4_0 := blk_frozen BK101.out 0; have hfz4_1 := blk_frozen BK101.out 1; have hfz4_2 := blk_frozen BK101.out 2))
    go_ret
    exact ⟨by first | rfl | (simp [errW_none, errW_some] <;> rfl) | (simp [*, errW_none, errW_some] <;> rfl), by repeat (first | (with_reducible first | exact HB.out | apply below_alloc | apply pw_below_drewN | apply below_drew1 | refine below_set ?_ GE101.out) | exact HB.out)⟩
  · rw [if_neg c2] at H
    have c2b0 : decide (2147483647 < (a0_0.size : Int)) = false := decide_eq_false c2
    have c2b1 : decide (2147483647 < a0_0.size) = false := decide_eq_false (by omega)
    clear c2
    by_cases c5 : (a0_1.size : Int) > 2147483647
    · rw [if_pos c5] at H
      have c5b0 : decide (2147483647 < (a0_1.size : Int)) = true := decide_eq_true c5
      have c5b1 : decide (2147483647 < a0_1.size) = true := decide_eq_true (by omega)
      clear c5
      obtain rfl := Option.some.inj H
      go_enter Try.func66, Try.ntmps66
      go_wp2_with (first | ((with_reducible refine gate_dst (N := 1) rfl ?_); refine box_event ?hg (N := 1) ?hd (cs := #[.string a0_0, .string a0_1, .bool a0_2]) (t := 40) ?hr ?_; (case hd => rfl); (case hg => rfl); (case hr => first | (go_simp; done) | (go_simp; rfl)); intro gb101 hg w6 hbox hb; have n0_ := Aside0.mk (below_step (by repeat (first | (with_reducible first | exact HB.out | apply below_alloc | apply pw_below_drewN | apply below_drew1) | exact HB.out)) hb); have n1_ := Aside0.mk (hbox); have n2_ := Aside0.mk ((by rw [hg]; exact (below_size (by repeat (first | (with_reducible first | exact HB.out | apply below_alloc | apply pw_below_drewN | apply below_drew1) | exact HB.out))) : w.heap.size ≤ gb101)); have n3_ := Aside0.mk ((by rw [hg]; exact (below_size (by repeat (first | (with_reducible first | exact HB.out | apply below_alloc | apply pw_below_drewN | apply below_drew1) | exact HB.out))) : w.heap.size ≤ gb101)); clear HB; have HB := n0_; have BK101 := n1_; have GW101 := n2_; have GE101 := n3_; clear n0_ n1_ n2_ n3_; clear hb hbox hg; have hcz7_0 : w6.cell? ⟨gb101, 0, none⟩ = some (.string a0_0) := (blk_cell BK101.out 0).trans rfl; have hcz7_1 : w6.cell? ⟨gb101, 1, none⟩ = some (.string a0_1) := (blk_cell BK101.out 1).trans rfl; have hcz7_2 : w6.cell? ⟨gb101, 2, none⟩ = some (.bool a0_2) := (blk_cell BK101.out 2).trans rfl; have hfz7_0 := blk_frozen BK101.out 0; have hfz7_1 := blk_frozen BK101.out 1; have hfz7_2 := blk_frozen BK101.out 2))
      go_ret
      exact ⟨by first | rfl | (simp [errW_none, errW_some] <;> rfl) | (simp [*, errW_none, errW_some] <;> rfl), by repeat (first | (with_reducible first | exact HB.out | apply below_alloc | apply pw_below_drewN | apply below_drew1 | refine below_set ?_ GE101.out) | exact HB.out)⟩
    · rw [if_neg c5] at H
      have c5b0 : decide (2147483647 < (a0_1.size : Int)) = false := decide_eq_false c5
      have c5b1 : decide (2147483647 < a0_1.size) = false := decide_eq_false (by omega)
      clear c5
      obtain rfl := Option.some.inj H
      go_enter Try.func66, Try.ntmps66
      go_wp2_with (first | ((with_reducible refine gate_dst (N := 1) rfl ?_); refine box_event ?hg (N := 1) ?hd (cs := #[.string a0_0, .string a0_1, .bool a0_2]) (t := 40) ?hr ?_; (case hd => rfl); (case hg => rfl); (case hr => first | (go_simp; done) | (go_simp; rfl)); intro gb101 hg w8 hbox hb; have n0_ := Aside0.mk (below_step (by repeat (first | (with_reducible first | exact HB.out | apply below_alloc | apply pw_below_drewN | apply below_drew1) | exact HB.out)) hb); have n1_ := Aside0.mk (hbox); have n2_ := Aside0.mk ((by rw [hg]; exact (below_size (by repeat (first | (with_reducible first | exact HB.out | apply below_alloc | apply pw_below_drewN | apply below_drew1) | exact HB.out))) : w.heap.size ≤ gb101)); have n3_ := Aside0.mk ((by rw [hg]; exact (below_size (by repeat (first | (with_reducible first | exact HB.out | apply below_alloc | apply pw_below_drewN | apply below_drew1) | exact HB.out))) : w.heap.size ≤ gb101)); clear HB; have HB := n0_; have BK101 := n1_; have GW101 := n2_; have GE101 := n3_; clear n0_ n1_ n2_ n3_; clear hb hbox hg; have hcz9_0 : w8.cell? ⟨gb101, 0, none⟩ = some (.string a0_0) := (blk_cell BK101.out 0).trans rfl; have hcz9_1 : w8.cell? ⟨gb101, 1, none⟩ = some (.string a0_1) := (blk_cell BK101.out 1).trans rfl; have hcz9_2 : w8.cell? ⟨gb101, 2, none⟩ = some (.bool a0_2) := (blk_cell BK101.out 2).trans rfl; have hfz9_0 := blk_frozen BK101.out 0; have hfz9_1 := blk_frozen BK101.out 1; have hfz9_2 := blk_frozen BK101.out 2))
      go_ret
      exact ⟨by first | rfl | (simp [errW_none, errW_some] <;> rfl) | (simp [*, errW_none, errW_some] <;> rfl), by repeat (first | (with_reducible first | exact HB.out | apply below_alloc | apply pw_below_drewN | apply below_drew1 | refine below_set ?_ GE101.out) | exact HB.out)⟩

/-! ### laws_zzFits7: function 27 -/
def laws_zzFits7.l0 : Nat → List (S40) → Int → Int → Option (Bool)
  | 0, _, _, _ => none
  | k + 1, x8, x9, x10 => if x10 < x9 then (if 0 ≤ x10 then (if x10 < (x8.length : Int) then ((laws_zzFits8.f ((rd_T40 x8 x10).f0) ((rd_T40 x8 x10).f1) ((rd_T40 x8 x10).f2)).bind fun t104 => (if t104 = true then (laws_zzFits7.l0 k x8 x9 (wrap64 (x10 + 1))) else (some false))) else (none)) else (none)) else (some true)
def laws_zzFits7.f (k : Nat) (l0 : List (S40)) : Option (Bool) := if (l0.length : Int) > 2147483647 then (some false) else (laws_zzFits7.l0 k l0 (l0.length : Int) 0)
theorem laws_zzFits7.mono_l : ∀ k, (∀ y0 y1 y2, LeO (laws_zzFits7.l0 k y0 y1 y2) (laws_zzFits7.l0 (k + 1) y0 y1 y2))
  | 0 => fun _ _ _ r h => by simp [laws_zzFits7.l0] at h
  | k + 1 => by
    have ih0 := laws_zzFits7.mono_l k
    · intro y0 y1 y2
      unfold laws_zzFits7.l0
      repeat' first
      | (with_reducible exact ih0 _ _ _)
      | (with_reducible exact LeO.refl _)
      | (with_reducible exact LeO.none _)
      | (with_reducible refine LeO.ite ?_ ?_)
      | (with_reducible refine LeO.bind ?_ (fun _ => ?_))
      | exact ih0 _ _ _
      | exact LeO.none _
      | refine LeO.ite ?_ ?_
      | refine LeO.bind ?_ (fun _ => ?_)
theorem laws_zzFits7.mono : ∀ a0 k, LeO (laws_zzFits7.f k a0) (laws_zzFits7.f (k + 1) a0) := by
  intro a0 k
  have ih0 := laws_zzFits7.mono_l k
  unfold laws_zzFits7.f
  repeat' first
      | (with_reducible exact ih0 _ _ _)
      | (with_reducible exact LeO.refl _)
      | (with_reducible exact LeO.none _)
      | (with_reducible refine LeO.ite ?_ ?_)
      | (with_reducible refine LeO.bind ?_ (fun _ => ?_))
      | exact ih0 _ _ _
      | exact LeO.none _
      | refine LeO.ite ?_ ?_
      | refine LeO.bind ?_ (fun _ => ?_)
set_option maxHeartbeats 8000000 in
set_option maxRecDepth 100000 in
theorem laws_zzFits7.calls (k : Nat) (A0 : Option Addr) (c0 : Nat) (l0 : List (S40)) (r : Bool) (w : World) (hr0 : Kd.C k40 w A0 l0.length l0) (hc0 : l0.length ≤ c0) (h : laws_zzFits7.f k l0 = some r) :
    Calls Try.prog 27 #[.slice A0 l0.length c0] w fun e w' => e = .returned (.bool r) ∧ Below w.heap.size w w' := by
  have hu40 := Try.underlying40
  have HR0 := Aside0.mk hr0
  have HC0 := Aside0.mk hc0
  clear hr0 hc0
  have HB := Aside0.mk (Below.refl w.heap.size w)
  have H : (if (l0.length : Int) > 2147483647 then (some false) else (laws_zzFits7.l0 k l0 (l0.length : Int) 0)) = some r := h
  clear h
  by_cases c2 : (l0.length : Int) > 2147483647
  · rw [if_pos c2] at H
    have c2b0 : decide (2147483647 < (l0.length : Int)) = true := decide_eq_true c2
    have c2b1 : decide (2147483647 < l0.length) = true := decide_eq_true (by omega)
    clear c2
    obtain rfl := Option.some.inj H
    go_enter Try.func27, Try.ntmps27
    go_wp2
    go_ret
    exact ⟨by first | rfl | (simp [errW_none, errW_some] <;> rfl) | (simp [*, errW_none, errW_some] <;> rfl), by repeat (first | (with_reducible first | exact HB.out | apply below_alloc | apply pw_below_drewN | apply below_drew1) | exact HB.out)⟩
  · rw [if_neg c2] at H
    have c2b0 : decide (2147483647 < (l0.length : Int)) = false := decide_eq_false c2
    have c2b1 : decide (2147483647 < l0.length) = false := decide_eq_false (by omega)
    clear c2
    have H' := Aside0.mk H
    clear H
    go_enter Try.func27, Try.ntmps27
    go_wp2
    go_loopg [10] k (fun kq v10 w' => ∃ (x10_1 : Int), v10 = .int .i64 x10_1 ∧ Aside0 (laws_zzFits7.l0 kq l0 (l0.length : Int) x10_1 = some r) ∧ Aside0 (kq ≤ k) ∧ Aside0 (Below w.heap.size w w'))
    case atStart => exact ⟨(0), (by first | rfl | (simp; done) | (simp [*]; done) | (simp [Go.Proofs.YtipmmjbjgbfgjaaX.isEmpty_ne]; done)), H', ⟨Nat.le_refl _⟩, ⟨by repeat (first | (with_reducible first | exact HB.out | apply below_alloc | apply pw_below_drewN | apply below_drew1) | exact HB.out)⟩⟩
    case round =>
      clear H'
      try clear c2
      try clear c2b0
      try clear c2b1
      try clear p2
      obtain ⟨x10_1, rfl, HA, HK1, HB⟩ := hrel
      cases gk with
      | zero => exact absurd HA.out (by simp [laws_zzFits7.l0])
      | succ k1 =>
        have H := HA.out
        clear HA
        simp only [laws_zzFits7.l0] at H
        by_cases c3 : x10_1 < (l0.length : Int)
        · rw [if_pos c3] at H
          have c3b0 : decide (x10_1 < (l0.length : Int)) = true := decide_eq_true c3
          clear c3
          by_cases c4 : 0 ≤ x10_1
          · rw [if_pos c4] at H
            have c4b0 : decide (0 ≤ x10_1) = true := decide_eq_true c4
            clear c4
            by_cases c5 : x10_1 < (l0.length : Int)
            · rw [if_pos c5] at H
              have c5b0 : decide (x10_1 < (l0.length : Int)) = true := decide_eq_true c5
              clear c5
              replace H := Option.bind_eq_some_iff.mp H
              obtain ⟨t104, A60, H⟩ := H
              replace H : (if t104 = true then (laws_zzFits7.l0 k1 l0 (l0.length : Int) (wrap64 (x10_1 + 1))) else (some false)) = some r := H
              have A6 := Aside0.mk A60
              clear A60
              by_cases c7 : t104 = true
              · subst c7
                have H1 : (laws_zzFits7.l0 k1 l0 (l0.length : Int) (wrap64 (x10_1 + 1))) = some r := by rw [if_pos rfl] at H; exact H
                clear H
                have H := H1
                clear H1
                have H' := Aside0.mk H
                clear H
                have p102 : 0 ≤ (x10_1 : Int) := of_decide_eq_true (by first | (with_reducible assumption) | assumption)
                have q102 : x10_1 < (l0.length : Int) := of_decide_eq_true (by first | (with_reducible assumption) | assumption)
                obtain ⟨ad102, e102, hx102_0, hx102_1, hx102_2⟩ := at_T40 HR0.out x10_1 p102 q102
                cases e102
                replace hx102_0 := (HB.out.cell (World.block_lt_of_cell? w _ hx102_0)).trans hx102_0
                replace hx102_1 := (HB.out.cell (World.block_lt_of_cell? w _ hx102_1)).trans hx102_1
                replace hx102_2 := (HB.out.cell (World.block_lt_of_cell? w _ hx102_2)).trans hx102_2
                replace p102 := eq_true p102
                replace q102 := eq_true q102
                go_wp2_with (first | ((with_reducible refine gate_dst (N := 4) rfl ?_); refine box_event ?hg (N := 4) ?hd (cs := #[.string (⟨#[]⟩ : ByteArray), .string (⟨#[]⟩ : ByteArray), .bool false]) (t := 40) ?hr ?_; (case hd => rfl); (case hg => rfl); (case hr => first | (go_simp; done) | (go_simp; rfl)); intro gb103 hg w8 hbox hb; have n0_ := Aside0.mk (below_step (by repeat (first | (with_reducible first | exact HB.out | apply below_alloc | apply pw_below_drewN | apply below_drew1) | exact HB.out)) hb); have n1_ := Aside0.mk (hbox); have n2_ := Aside0.mk ((by rw [hg]; exact (below_size (by repeat (first | (with_reducible first | exact HB.out | apply below_alloc | apply pw_below_drewN | apply below_drew1) | exact HB.out))) : w.heap.size ≤ gb103)); have n3_ := Aside0.mk ((by rw [hg]; exact (below_size (by repeat (first | (with_reducible first | exact HB.out | apply below_alloc | apply pw_below_drewN | apply below_drew1) | exact HB.out))) : w.heap.size ≤ gb103)); clear HB; have HB := n0_; have BK103 := n1_; have GW103 := n2_; have GE103 := n3_; clear n0_ n1_ n2_ n3_; clear hb hbox hg; have hcz9_0 : w8.cell? ⟨gb103, 0, none⟩ = some (.string (⟨#[]⟩ : ByteArray)) := (blk_cell BK103.out 0).trans rfl; have hcz9_1 : w8.cell? ⟨gb103, 1, none⟩ = some (.string (⟨#[]⟩ : ByteArray)) := (blk_cell BK103.out 1).trans rfl; have hcz9_2 : w8.cell? ⟨gb103, 2, none⟩ = some (.bool false) := (blk_cell BK103.out 2).trans rfl; have hfz9_0 := blk_frozen BK103.out 0; have hfz9_1 := blk_frozen BK103.out 1; have hfz9_2 := blk_frozen BK103.out 2) | ((with_reducible refine gate_callee (f := 66) rfl ?_); refine goesL_ (some 15) rfl rfl Try.func66 (by kernel_rfl) rfl #[.agg #[.string ((rd_T40 l0 x10_1).f0), .string ((rd_T40 l0 x10_1).f1), .bool ((rd_T40 l0 x10_1).f2)]] rfl (by (try simp only [List.map_toArray, List.map_cons, List.map_nil]); first | done | rfl | (simp only [List.length_drop, List.length_take]; rfl)) ?_; (with_reducible refine (laws_zzFits8.calls ((rd_T40 l0 x10_1).f0) ((rd_T40 l0 x10_1).f1) ((rd_T40 l0 x10_1).f2) true _ A6.out).mono ?_); rintro e w10 ⟨rfl, hb⟩; refine ⟨_, rfl, ?_⟩; have n0_ := Aside0.mk (blk_below (g := gb103) (o := .cells #[.string ((rd_T40 l0 x10_1).f0), .string ((rd_T40 l0 x10_1).f1), .bool ((rd_T40 l0 x10_1).f2)] 40 (0, 0)) (by (with_reducible repeat (first | refine blk_drewN ?_ _ | refine blk_drew ?_ | refine blk_alloc ?_ _)); refine blk_put (cs := #[.string ((rd_T40 l0 x10_1).f0), .string ((rd_T40 l0 x10_1).f1), .bool false]) ?_ 2 _ rfl; (with_reducible repeat (first | refine blk_drewN ?_ _ | refine blk_drew ?_ | refine blk_alloc ?_ _)); refine blk_put (cs := #[.string ((rd_T40 l0 x10_1).f0), .string (⟨#[]⟩ : ByteArray), .bool false]) ?_ 1 _ rfl; (with_reducible repeat (first | refine blk_drewN ?_ _ | refine blk_drew ?_ | refine blk_alloc ?_ _)); refine blk_put (cs := #[.string (⟨#[]⟩ : ByteArray), .string (⟨#[]⟩ : ByteArray), .bool false]) ?_ 0 _ rfl; (with_reducible repeat (first | refine blk_drewN ?_ _ | refine blk_drew ?_ | refine blk_alloc ?_ _)); exact BK103.out) hb); have n1_ := Aside0.mk (below_step (by repeat (first | (with_reducible first | exact HB.out | apply below_alloc | apply pw_below_drewN | apply below_drew1 | refine below_set ?_ GE103.out) | exact HB.out)) hb); clear BK103; clear HB; have BK103 := n0_; have HB := n1_; clear n0_ n1_; (try clear hb); (try clear hb2); (try clear hk); (try clear hi)))
                go_roundg k1
                case measure => have := HK1.out; omega
                case rel => exact ⟨(wrap64 (x10_1 + 1)), (by first | rfl | (simp; done) | (simp [*]; done) | (simp [Go.Proofs.YtipmmjbjgbfgjaaX.isEmpty_ne]; done)), H', ⟨by have := HK1.out; omega⟩, ⟨by repeat (first | (with_reducible first | exact HB.out | apply below_alloc | apply pw_below_drewN | apply below_drew1 | refine below_set ?_ GE103.out) | exact HB.out)⟩⟩
              · replace c7 := Bool.eq_false_iff.mpr c7
                subst c7
                have H1 : (some false) = some r := by rw [if_neg (show ¬ (false = true) by decide)] at H; exact H
                clear H
                have H := H1
                clear H1
                obtain rfl := Option.some.inj H
                have p102 : 0 ≤ (x10_1 : Int) := of_decide_eq_true (by first | (with_reducible assumption) | assumption)
                have q102 : x10_1 < (l0.length : Int) := of_decide_eq_true (by first | (with_reducible assumption) | assumption)
                obtain ⟨ad102, e102, hx102_0, hx102_1, hx102_2⟩ := at_T40 HR0.out x10_1 p102 q102
                cases e102
                replace hx102_0 := (HB.out.cell (World.block_lt_of_cell? w _ hx102_0)).trans hx102_0
                replace hx102_1 := (HB.out.cell (World.block_lt_of_cell? w _ hx102_1)).trans hx102_1
                replace hx102_2 := (HB.out.cell (World.block_lt_of_cell? w _ hx102_2)).trans hx102_2
                replace p102 := eq_true p102
                replace q102 := eq_true q102
                go_wp2_with (first | ((with_reducible refine gate_dst (N := 4) rfl ?_); refine box_event ?hg (N := 4) ?hd (cs := #[.string (⟨#[]⟩ : ByteArray), .string (⟨#[]⟩ : ByteArray), .bool false]) (t := 40) ?hr ?_; (case hd => rfl); (case hg => rfl); (case hr => first | (go_simp; done) | (go_simp; rfl)); intro gb103 hg w11 hbox hb; have n0_ := Aside0.mk (below_step (by repeat (first | (with_reducible first | exact HB.out | apply below_alloc | apply pw_below_drewN | apply below_drew1) | exact HB.out)) hb); have n1_ := Aside0.mk (hbox); have n2_ := Aside0.mk ((by rw [hg]; exact (below_size (by repeat (first | (with_reducible first | exact HB.out | apply below_alloc | apply pw_below_drewN | apply below_drew1) | exact HB.out))) : w.heap.size ≤ gb103)); have n3_ := Aside0.mk ((by rw [hg]; exact (below_size (by repeat (first | (with_reducible first | exact HB.out | apply below_alloc | apply pw_below_drewN | apply below_drew1) | exact HB.out))) : w.heap.size ≤ gb103)); clear HB; have HB := n0_; have BK103 := n1_; have GW103 := n2_; have GE103 := n3_; clear n0_ n1_ n2_ n3_; clear hb hbox hg; have hcz12_0 : w11.cell? ⟨gb103, 0, none⟩ = some (.string (⟨#[]⟩ : ByteArray)) := (blk_cell BK103.out 0).trans rfl; have hcz12_1 : w11.cell? ⟨gb103, 1, none⟩ = some (.string (⟨#[]⟩ : ByteArray)) := (blk_cell BK103.out 1).trans rfl; have hcz12_2 : w11.cell? ⟨gb103, 2, none⟩ = some (.bool false) := (blk_cell BK103.out 2).trans rfl; have hfz12_0 := blk_frozen BK103.out 0; have hfz12_1 := blk_frozen BK103.out 1; have hfz12_2 := blk_frozen BK103.out 2) | ((with_reducible refine gate_callee (f := 66) rfl ?_); refine goesL_ (some 15) rfl rfl Try.func66 (by kernel_rfl) rfl #[.agg #[.string ((rd_T40 l0 x10_1).f0), .string ((rd_T40 l0 x10_1).f1), .bool ((rd_T40 l0 x10_1).f2)]] rfl (by (try simp only [List.map_toArray, List.map_cons, List.map_nil]); first | done | rfl | (simp only [List.length_drop, List.length_take]; rfl)) ?_; (with_reducible refine (laws_zzFits8.calls ((rd_T40 l0 x10_1).f0) ((rd_T40 l0 x10_1).f1) ((rd_T40 l0 x10_1).f2) false _ A6.out).mono ?_); rintro e w13 ⟨rfl, hb⟩; refine ⟨_, rfl, ?_⟩; have n0_ := Aside0.mk (blk_below (g := gb103) (o := .cells #[.string ((rd_T40 l0 x10_1).f0), .string ((rd_T40 l0 x10_1).f1), .bool ((rd_T40 l0 x10_1).f2)] 40 (0, 0)) (by (with_reducible repeat (first | refine blk_drewN ?_ _ | refine blk_drew ?_ | refine blk_alloc ?_ _)); refine blk_put (cs := #[.string ((rd_T40 l0 x10_1).f0), .string ((rd_T40 l0 x10_1).f1), .bool false]) ?_ 2 _ rfl; (with_reducible repeat (first | refine blk_drewN ?_ _ | refine blk_drew ?_ | refine blk_alloc ?_ _)); refine blk_put (cs := #[.string ((rd_T40 l0 x10_1).f0), .string (⟨#[]⟩ : ByteArray), .bool false]) ?_ 1 _ rfl; (with_reducible repeat (first | refine blk_drewN ?_ _ | refine blk_drew ?_ | refine blk_alloc ?_ _)); refine blk_put (cs := #[.string (⟨#[]⟩ : ByteArray), .string (⟨#[]⟩ : ByteArray), .bool false]) ?_ 0 _ rfl; (with_reducible repeat (first | refine blk_drewN ?_ _ | refine blk_drew ?_ | refine blk_alloc ?_ _)); exact BK103.out) hb); have n1_ := Aside0.mk (below_step (by repeat (first | (with_reducible first | exact HB.out | apply below_alloc | apply pw_below_drewN | apply below_drew1 | refine below_set ?_ GE103.out) | exact HB.out)) hb); clear BK103; clear HB; have BK103 := n0_; have HB := n1_; clear n0_ n1_; (try clear hb); (try clear hb2); (try clear hk); (try clear hi)))
                go_ret
                exact ⟨by first | rfl | (simp [errW_none, errW_some] <;> rfl) | (simp [*, errW_none, errW_some] <;> rfl), by repeat (first | (with_reducible first | exact HB.out | apply below_alloc | apply pw_below_drewN | apply below_drew1 | refine below_set ?_ GE103.out) | exact HB.out)⟩
            · rw [if_neg c5] at H
              exact absurd H (by simp)
          · rw [if_neg c4] at H
            exact absurd H (by simp)
        · rw [if_neg c3] at H
          have c3b0 : decide (x10_1 < (l0.length : Int)) = false := decide_eq_false c3
          clear c3
          obtain rfl := Option.some.inj H
          go_wp2
          go_ret
          exact ⟨by first | rfl | (simp [errW_none, errW_some] <;> rfl) | (simp [*, errW_none, errW_some] <;> rfl), by repeat (first | (with_reducible first | exact HB.out | apply below_alloc | apply pw_below_drewN | apply below_drew1) | exact HB.out)⟩

/-! ### impl_args: function 67 -/
def impl_args.l0 : Nat → List (S40) → List (S82) → Int → Int → Option ((List (S40)))
  | 0, _, _, _, _ => none
  | k + 1, x3, x6, x7, x8 => if x8 < x7 then (if 0 ≤ x8 then (if x8 < (x6.length : Int) then (if x3.length < 3518437208883 then (impl_args.l0 k (x3 ++ [(⟨(rd_T82 x6 x8).f0, (rd_T82 x6 x8).f1, (rd_T82 x6 x8).f2⟩ : S40)]) x6 x7 (wrap64 (x8 + 1))) else (none)) else (none)) else (none)) else (some x3)
def impl_args.f (k : Nat) (l0 : List (S82)) : Option ((List (S40))) := impl_args.l0 k ([] : List (S40)) l0 (l0.length : Int) 0
theorem impl_args.mono_l : ∀ k, (∀ y0 y1 y2 y3, LeO (impl_args.l0 k y0 y1 y2 y3) (impl_args.l0 (k + 1) y0 y1 y2 y3))
  | 0 => fun _ _ _ _ r h => by simp [impl_args.l0] at h
  | k + 1 => by
    have ih0 := impl_args.mono_l k
    · intro y0 y1 y2 y3
      unfold impl_args.l0
      repeat' first
      | (with_reducible exact ih0 _ _ _ _)
      | (with_reducible exact LeO.refl _)
      | (with_reducible exact LeO.none _)
      | (with_reducible refine LeO.ite ?_ ?_)
      | (with_reducible refine LeO.bind ?_ (fun _ => ?_))
      | exact ih0 _ _ _ _
      | exact LeO.none _
      | refine LeO.ite ?_ ?_
      | refine LeO.bind ?_ (fun _ => ?_)
theorem impl_args.mono : ∀ a0 k, LeO (impl_args.f k a0) (impl_args.f (k + 1) a0) := by
  intro a0 k
  have ih0 := impl_args.mono_l k
  unfold impl_args.f
  repeat' first
      | (with_reducible exact ih0 _ _ _ _)
      | (with_reducible exact LeO.refl _)
      | (with_reducible exact LeO.none _)
      | (with_reducible refine LeO.ite ?_ ?_)
      | (with_reducible refine LeO.bind ?_ (fun _ => ?_))
      | exact ih0 _ _ _ _
      | exact LeO.none _
      | refine LeO.ite ?_ ?_
      | refine LeO.bind ?_ (fun _ => ?_)
set_option maxHeartbeats 8000000 in
set_option maxRecDepth 100000 in
theorem impl_args.calls (k : Nat) (A0 : Option Addr) (c0 : Nat) (l0 : List (S82)) (r : List (S40)) (w : World) (hr0 : Kd.C k82 w A0 l0.length l0) (hc0 : l0.length ≤ c0) (h : impl_args.f k l0 = some r) :
    Calls Try.prog 67 #[.slice A0 l0.length c0] w fun e w' => ∃ v0_ : Value, e = .returned (v0_) ∧ Kd.R k40 40 w' w.heap.size (fun _ => True) v0_ r ∧ Below w.heap.size w w' := by
  have hu82 := Try.underlying82
  have HR0 := Aside0.mk hr0
  have HC0 := Aside0.mk hc0
  clear hr0 hc0
  have HB := Aside0.mk (Below.refl w.heap.size w)
  have H : (impl_args.l0 k ([] : List (S40)) l0 (l0.length : Int) 0) = some r := h
  clear h
  have H' := Aside0.mk H
  clear H
  go_enter Try.func67, Try.ntmps67
  go_wp2
  go_loopg [3, 8] k (fun kq v3 v8 w' => ∃ (x3_1 : List (S40)) (x8_1 : Int), v8 = .int .i64 x8_1 ∧ Aside0 (impl_args.l0 kq x3_1 l0 (l0.length : Int) x8_1 = some r) ∧ Aside0 (kq ≤ k) ∧ Aside0 (Kd.R k40 40 w' w.heap.size (fun _ => True) v3 x3_1) ∧ Aside0 (Below w.heap.size w w'))
  case atStart => exact ⟨(([] : List (S40))), (0), (by first | rfl | (simp; done) | (simp [*]; done) | (simp [Go.Proofs.YtipmmjbjgbfgjaaX.isEmpty_ne]; done)), H', ⟨Nat.le_refl _⟩, ⟨by first | exact Kd.R_nil _ _ _ _ _ | exact Kd.N_nil _ _ _ _ _ | exact Kd.V_nil _ _ _ _ _ | exact Kd.Q_nil _ _ _ _ _ | exact Kd.S_nil _ _ _ _ _⟩, ⟨by repeat (first | (with_reducible first | exact HB.out | apply below_alloc | apply pw_below_drewN | apply below_drew1) | exact HB.out)⟩⟩
  case round =>
    clear H'
    obtain ⟨x3_1, x8_1, rfl, HA, HK1, HO_3, HB⟩ := hrel
    cases gk with
    | zero => exact absurd HA.out (by simp [impl_args.l0])
    | succ k1 =>
      have H := HA.out
      clear HA
      simp only [impl_args.l0] at H
      by_cases c2 : x8_1 < (l0.length : Int)
      · rw [if_pos c2] at H
        have c2b0 : decide (x8_1 < (l0.length : Int)) = true := decide_eq_true c2
        clear c2
        by_cases c3 : 0 ≤ x8_1
        · rw [if_pos c3] at H
          have c3b0 : decide (0 ≤ x8_1) = true := decide_eq_true c3
          clear c3
          by_cases c4 : x8_1 < (l0.length : Int)
          · rw [if_pos c4] at H
            have c4b0 : decide (x8_1 < (l0.length : Int)) = true := decide_eq_true c4
            clear c4
            by_cases c5 : x3_1.length < 3518437208883
            · rw [if_pos c5] at H
              have LMc5 := Aside0.mk c5
              clear c5
              obtain ⟨y107, hy107⟩ : ∃ y_ : List (S40), y_ = (x3_1 ++ [(⟨(rd_T82 l0 x8_1).f0, (rd_T82 l0 x8_1).f1, (rd_T82 l0 x8_1).f2⟩ : S40)]) := ⟨_, rfl⟩
              replace H : (impl_args.l0 k1 y107 l0 (l0.length : Int) (wrap64 (x8_1 + 1))) = some r := by first | (rw [hy107]; with_reducible exact H) | (have H2_ := (Option.bind_some _ _).symm.trans H; rw [hy107]; with_reducible exact H2_) | (have H2_ := (Option.bind_some _ _).symm.trans H; with_reducible exact H2_) | with_reducible exact H | (rw [hy107]; exact H) | exact H
              have Ny107 := Aside0.mk hy107
              clear hy107
              have H' := Aside0.mk H
              clear H
              have p105 : 0 ≤ (x8_1 : Int) := of_decide_eq_true (by first | (with_reducible assumption) | assumption)
              have q105 : x8_1 < (l0.length : Int) := of_decide_eq_true (by first | (with_reducible assumption) | assumption)
              obtain ⟨ad105, e105, hx105_0, hx105_1, hx105_2⟩ := at_T82 HR0.out x8_1 p105 q105
              cases e105
              replace hx105_0 := (HB.out.cell (World.block_lt_of_cell? w _ hx105_0)).trans hx105_0
              replace hx105_1 := (HB.out.cell (World.block_lt_of_cell? w _ hx105_1)).trans hx105_1
              replace hx105_2 := (HB.out.cell (World.block_lt_of_cell? w _ hx105_2)).trans hx105_2
              replace p105 := eq_true p105
              replace q105 := eq_true q105
              go_wp2_with (first | ((with_reducible refine gate_dst (N := 5) rfl ?_); refine box_event ?hg (N := 5) ?hd (cs := #[.string (⟨#[]⟩ : ByteArray), .string (⟨#[]⟩ : ByteArray), .bool false]) (t := 82) ?hr ?_; (case hd => rfl); (case hg => rfl); (case hr => first | (go_simp; done) | (go_simp; rfl)); intro gb106 hg w6 hbox hb; have n0_ := Aside0.mk (Kd.R_below (by (with_reducible repeat (first | apply Kd.R_alloc | apply Kd.R_drewN | apply Kd.R_drew)); exact HO_3.out) hb); have n1_ := Aside0.mk (below_step (by repeat (first | (with_reducible first | exact HB.out | apply below_alloc | apply pw_below_drewN | apply below_drew1) | exact HB.out)) hb); have n2_ := Aside0.mk (hbox); have n3_ := Aside0.mk ((by rw [hg]; exact (below_size (by repeat (first | (with_reducible first | exact HB.out | apply below_alloc | apply pw_below_drewN | apply below_drew1) | exact HB.out))) : w.heap.size ≤ gb106)); have n4_ := Aside0.mk ((by rw [hg]; exact (below_size (by repeat (first | (with_reducible first | exact HB.out | apply below_alloc | apply pw_below_drewN | apply below_drew1) | exact HB.out))) : w.heap.size ≤ gb106)); clear HO_3; clear HB; have HO_3 := n0_; have HB := n1_; have BK106 := n2_; have GW106 := n3_; have GE106 := n4_; clear n0_ n1_ n2_ n3_ n4_; clear hb hbox hg; have hcz7_0 : w6.cell? ⟨gb106, 0, none⟩ = some (.string (⟨#[]⟩ : ByteArray)) := (blk_cell BK106.out 0).trans rfl; have hcz7_1 : w6.cell? ⟨gb106, 1, none⟩ = some (.string (⟨#[]⟩ : ByteArray)) := (blk_cell BK106.out 1).trans rfl; have hcz7_2 : w6.cell? ⟨gb106, 2, none⟩ = some (.bool false) := (blk_cell BK106.out 2).trans rfl; have hfz7_0 := blk_frozen BK106.out 0; have hfz7_1 := blk_frozen BK106.out 1; have hfz7_2 := blk_frozen BK106.out 2) | ((with_reducible refine gate_builtin (b := .append) (xs := #[.tmp 12, .tmp 14]) rfl ?_); at_builtin; refine Kd.R_append k40 (w0 := w) w.heap.size rfl (.tmp 12) (.tmp 14) 36 40 (.agg #[(.string ⟨#[]⟩), (.string ⟨#[]⟩), (.bool false)]) 40 rfl Try.underlying36 info40 rfl (by decide) (by omega) u3 x3_1 (⟨(rd_T82 l0 x8_1).f0, (rd_T82 l0 x8_1).f1, (rd_T82 l0 x8_1).f2⟩ : S40) [.string ((rd_T82 l0 x8_1).f0), .string ((rd_T82 l0 x8_1).f1), .bool ((rd_T82 l0 x8_1).f2)] (fun _ => True) (fun _ => False) rfl (by first | (go_simp; done) | (go_simp; rfl)) ?aP (fun _ hk => hk.elim) ?aF ?aO ?aB ?aS ?aL ?_; (case aP => exact k40_mkM _ _ _ (⟨(rd_T82 l0 x8_1).f0, (rd_T82 l0 x8_1).f1, (rd_T82 l0 x8_1).f2⟩ : S40)); (case aB => exact (by repeat (first | (with_reducible first | exact HB.out | apply below_alloc | apply pw_below_drewN | apply below_drew1 | refine below_set ?_ GE106.out) | exact HB.out))); (case aF => exact (fun _ _ => trivial)); (case aO => exact (by (with_reducible repeat (first | apply Kd.R_alloc | apply Kd.R_drewN | apply Kd.R_drew)); exact Kd.R_mono (Kd.R_far (p := ⟨gb106, 2, none⟩) (Kd.R_far (p := ⟨gb106, 1, none⟩) (Kd.R_far (p := ⟨gb106, 0, none⟩) (Kd.R_types HO_3.out BK106.out (by decide)) (fun _ hk => hk.2) (.string ((rd_T82 l0 x8_1).f0))) (fun _ hk => hk.2) (.string ((rd_T82 l0 x8_1).f1))) (fun _ hk => hk.2) (.bool ((rd_T82 l0 x8_1).f2))) (fun _ hk => trivial))); (case aS => exact (below_size (by repeat (first | (with_reducible first | exact HB.out | apply below_alloc | apply pw_below_drewN | apply below_drew1 | refine below_set ?_ GE106.out) | exact HB.out)))); (case aL => have := LMc5.out; omega); intro v108 w8 ho hb hg hat; rw [← Ny107.out] at ho; have n0_ := Aside0.mk (blk_grown (g := gb106) (o := .cells #[.string ((rd_T82 l0 x8_1).f0), .string ((rd_T82 l0 x8_1).f1), .bool ((rd_T82 l0 x8_1).f2)] 82 (0, 0)) (by (with_reducible repeat (first | refine blk_drewN ?_ _ | refine blk_drew ?_ | refine blk_alloc ?_ _)); refine blk_put (cs := #[.string ((rd_T82 l0 x8_1).f0), .string ((rd_T82 l0 x8_1).f1), .bool false]) ?_ 2 _ rfl; (with_reducible repeat (first | refine blk_drewN ?_ _ | refine blk_drew ?_ | refine blk_alloc ?_ _)); refine blk_put (cs := #[.string ((rd_T82 l0 x8_1).f0), .string (⟨#[]⟩ : ByteArray), .bool false]) ?_ 1 _ rfl; (with_reducible repeat (first | refine blk_drewN ?_ _ | refine blk_drew ?_ | refine blk_alloc ?_ _)); refine blk_put (cs := #[.string (⟨#[]⟩ : ByteArray), .string (⟨#[]⟩ : ByteArray), .bool false]) ?_ 0 _ rfl; (with_reducible repeat (first | refine blk_drewN ?_ _ | refine blk_drew ?_ | refine blk_alloc ?_ _)); exact BK106.out) hg (Kd.R_ne HO_3.out BK106.out (by decide))); have n1_ := Aside0.mk (hb); have n2_ := Aside0.mk (ho); clear BK106; clear HB; clear HO_3; have BK106 := n0_; have HB := n1_; have HO109 := n2_; clear n0_ n1_ n2_; clear ho hb hg hat))
              go_roundg k1
              case measure => have := HK1.out; omega
              case rel => exact ⟨(y107), (wrap64 (x8_1 + 1)), (by first | rfl | (simp; done) | (simp [*]; done) | (simp [Go.Proofs.YtipmmjbjgbfgjaaX.isEmpty_ne]; done)), H', ⟨by have := HK1.out; omega⟩, ⟨by (with_reducible repeat (first | apply Kd.R_alloc | apply Kd.R_drewN | apply Kd.R_drew)); exact HO109.out⟩, ⟨by repeat (first | (with_reducible first | exact HB.out | apply below_alloc | apply pw_below_drewN | apply below_drew1 | refine below_set ?_ GE106.out) | exact HB.out)⟩⟩
            · rw [if_neg c5] at H
              exact absurd H (by simp)
          · rw [if_neg c4] at H
            exact absurd H (by simp)
        · rw [if_neg c3] at H
          exact absurd H (by simp)
      · rw [if_neg c2] at H
        have c2b0 : decide (x8_1 < (l0.length : Int)) = false := decide_eq_false c2
        clear c2
        obtain rfl := Option.some.inj H
        go_wp2
        go_ret
        exact ⟨_, by first | rfl | (simp [errW_none, errW_some] <;> rfl) | (simp [*, errW_none, errW_some] <;> rfl), by (with_reducible repeat (first | apply Kd.R_alloc | apply Kd.R_drewN | apply Kd.R_drew)); exact HO_3.out, by repeat (first | (with_reducible first | exact HB.out | apply below_alloc | apply pw_below_drewN | apply below_drew1) | exact HB.out)⟩

-- NOT PRINTED: function 104 (hertzproto_allocArg)

end Go.Proofs.Ytipmmjbjgbfgjaa.Q

-- Written by a program of this session out of the translation, with the kit's printer. Not trusted: Lean checks it.
namespace Go.Proofs.Ytipmmjbjgbfgjaa.Q
open Go.RowKit Go.Proofs.YtipmmjbjgbfgjaaW.PrintWords Go.Proofs.YtipmmjbjgbfgjaaW.PrintLast Go.Proofs.YtipmmjbjgbfgjaaW.PrintMore
attribute [local go_sem] max2_int min2_int max_two min_two max_three min_three max_four min_four   -- for this text's walks alone
set_option linter.unusedVariables false
set_option linter.unusedSimpArgs false

theorem V_afterl_hertzproto_decodeCookieArg {α : Type} {d : Kd α} {e base n m c : Nat} {W w1 : World} {ok : Nat → Prop} {A : Option Addr} {u v1 : Value} {xs : List α} (h : Kd.V d e W base (fun k => ok k ∧ some k ≠ (Value.slice A n c).ownBlock) u xs) (hg : W.grownBy w1 (Value.slice A m c).ownBlock) (hat : v1.ownBlock = (Value.slice A m c).ownBlock ∨ ∃ b, v1.ownBlock = some b ∧ W.heap.size ≤ b) : Kd.V d e w1 base (fun k => ok k ∧ some k ≠ v1.ownBlock) u xs := by
  have hl : (Value.slice A n c).ownBlock = (Value.slice A m c).ownBlock := by cases A <;> rfl
  rw [hl] at h
  exact Kd.V_afterv h hg hat
/-! ### hertzproto_decodeCookieArg: function 108 -/
mutual
def hertzproto_decodeCookieArg.j1 : Nat → List Int → List Int → Bool → Option (List Int)
  | 0, _, _, _ => none
  | k + 1, x0, x1, x2 => hertzproto_decodeCookieArg.l1 k x0 x1 x2
def hertzproto_decodeCookieArg.j3 : Nat → List Int → List Int → Bool → Option (List Int)
  | 0, _, _, _ => none
  | k + 1, x0, x1, x2 => if x2 = true then (if (x1.length : Int) > 1 then (if 0 < (x1.length : Int) then (if (rd x1 0) = 34 then (if 0 ≤ (wrap64 ((x1.length : Int) - 1)) then (if (wrap64 ((x1.length : Int) - 1)) < (x1.length : Int) then (if (rd x1 (wrap64 ((x1.length : Int) - 1))) = 34 then (if 1 ≤ (wrap64 ((x1.length : Int) - 1)) then (if (wrap64 ((x1.length : Int) - 1)) ≤ (x1.length : Int) then ((some ((x1.take ((wrap64 ((x1.length : Int) - 1)) : Int).toNat).drop 1 : List Int)).bind fun y124 => (if 0 ≤ (x0.length : Int) then ((some (x0.take (0 : Int).toNat : List Int)).bind fun y129 => (if y129.length + y124.length < 140737488355328 then (some (y129 ++ y124)) else (none))) else (none))) else (none)) else (none)) else (if 0 ≤ (x0.length : Int) then ((some (x0.take (0 : Int).toNat : List Int)).bind fun y135 => (if y135.length + x1.length < 140737488355328 then (some (y135 ++ x1)) else (none))) else (none))) else (none)) else (none)) else (if 0 ≤ (x0.length : Int) then ((some (x0.take (0 : Int).toNat : List Int)).bind fun y141 => (if y141.length + x1.length < 140737488355328 then (some (y141 ++ x1)) else (none))) else (none))) else (none)) else (if 0 ≤ (x0.length : Int) then ((some (x0.take (0 : Int).toNat : List Int)).bind fun y147 => (if y147.length + x1.length < 140737488355328 then (some (y147 ++ x1)) else (none))) else (none))) else (if 0 ≤ (x0.length : Int) then ((some (x0.take (0 : Int).toNat : List Int)).bind fun y153 => (if y153.length + x1.length < 140737488355328 then (some (y153 ++ x1)) else (none))) else (none))
def hertzproto_decodeCookieArg.l1 : Nat → List Int → List Int → Bool → Option (List Int)
  | 0, _, _, _ => none
  | k + 1, x0, x1, x2 => if (x1.length : Int) > 0 then (if 0 ≤ (wrap64 ((x1.length : Int) - 1)) then (if (wrap64 ((x1.length : Int) - 1)) < (x1.length : Int) then (if (rd x1 (wrap64 ((x1.length : Int) - 1))) = 32 then (if (wrap64 ((x1.length : Int) - 1)) ≤ (x1.length : Int) then (hertzproto_decodeCookieArg.l1 k x0 (x1.take ((wrap64 ((x1.length : Int) - 1)) : Int).toNat) x2) else (none)) else (hertzproto_decodeCookieArg.j3 k x0 x1 x2)) else (none)) else (none)) else (hertzproto_decodeCookieArg.j3 k x0 x1 x2)
def hertzproto_decodeCookieArg.l0 : Nat → List Int → List Int → Bool → Option (List Int)
  | 0, _, _, _ => none
  | k + 1, x0, x1, x2 => if (x1.length : Int) > 0 then (if 0 < (x1.length : Int) then (if (rd x1 0) = 32 then (if 1 ≤ (x1.length : Int) then (hertzproto_decodeCookieArg.l0 k x0 (x1.drop 1) x2) else (none)) else (hertzproto_decodeCookieArg.j1 k x0 x1 x2)) else (none)) else (hertzproto_decodeCookieArg.j1 k x0 x1 x2)
end
def hertzproto_decodeCookieArg.f (k : Nat) (l0 : List Int) (l1 : List Int) (a2 : Bool) : Option (List Int) := hertzproto_decodeCookieArg.l0 k l0 l1 a2
theorem hertzproto_decodeCookieArg.mono_l : ∀ k, (∀ y0 y1 y2, LeO (hertzproto_decodeCookieArg.j1 k y0 y1 y2) (hertzproto_decodeCookieArg.j1 (k + 1) y0 y1 y2)) ∧ (∀ y0 y1 y2, LeO (hertzproto_decodeCookieArg.j3 k y0 y1 y2) (hertzproto_decodeCookieArg.j3 (k + 1) y0 y1 y2)) ∧ (∀ y0 y1 y2, LeO (hertzproto_decodeCookieArg.l1 k y0 y1 y2) (hertzproto_decodeCookieArg.l1 (k + 1) y0 y1 y2)) ∧ (∀ y0 y1 y2, LeO (hertzproto_decodeCookieArg.l0 k y0 y1 y2) (hertzproto_decodeCookieArg.l0 (k + 1) y0 y1 y2))
  | 0 => ⟨fun _ _ _ r h => by simp [hertzproto_decodeCookieArg.j1] at h, fun _ _ _ r h => by simp [hertzproto_decodeCookieArg.j3] at h, fun _ _ _ r h => by simp [hertzproto_decodeCookieArg.l1] at h, fun _ _ _ r h => by simp [hertzproto_decodeCookieArg.l0] at h⟩
  | k + 1 => by
    obtain ⟨ih0, ih1, ih2, ih3⟩ := hertzproto_decodeCookieArg.mono_l k
    refine ⟨?_, ?_, ?_, ?_⟩
    · intro y0 y1 y2
      unfold hertzproto_decodeCookieArg.j1
      repeat' first
      | (with_reducible exact ih0 _ _ _)
      | (with_reducible exact ih1 _ _ _)
      | (with_reducible exact ih2 _ _ _)
      | (with_reducible exact ih3 _ _ _)
      | (with_reducible exact LeO.refl _)
      | (with_reducible exact LeO.none _)
      | (with_reducible refine LeO.ite ?_ ?_)
      | (with_reducible refine LeO.bind ?_ (fun _ => ?_))
      | exact ih0 _ _ _
      | exact ih1 _ _ _
      | exact ih2 _ _ _
      | exact ih3 _ _ _
      | exact LeO.none _
      | refine LeO.ite ?_ ?_
      | refine LeO.bind ?_ (fun _ => ?_)
    · intro y0 y1 y2
      unfold hertzproto_decodeCookieArg.j3
      repeat' first
      | (with_reducible exact ih0 _ _ _)
      | (with_reducible exact ih1 _ _ _)
      | (with_reducible exact ih2 _ _ _)
      | (with_reducible exact ih3 _ _ _)
      | (with_reducible exact LeO.refl _)
      | (with_reducible exact LeO.none _)
      | (with_reducible refine LeO.ite ?_ ?_)
      | (with_reducible refine LeO.bind ?_ (fun _ => ?_))
      | exact ih0 _ _ _
      | exact ih1 _ _ _
      | exact ih2 _ _ _
      | exact ih3 _ _ _
      | exact LeO.none _
      | refine LeO.ite ?_ ?_
      | refine LeO.bind ?_ (fun _ => ?_)
    · intro y0 y1 y2
      unfold hertzproto_decodeCookieArg.l1
      repeat' first
      | (with_reducible exact ih0 _ _ _)
      | (with_reducible exact ih1 _ _ _)
      | (with_reducible exact ih2 _ _ _)
      | (with_reducible exact ih3 _ _ _)
      | (with_reducible exact LeO.refl _)
      | (with_reducible exact LeO.none _)
      | (with_reducible refine LeO.ite ?_ ?_)
      | (with_reducible refine LeO.bind ?_ (fun _ => ?_))
      | exact ih0 _ _ _
      | exact ih1 _ _ _
      | exact ih2 _ _ _
      | exact ih3 _ _ _
      | exact LeO.none _
      | refine LeO.ite ?_ ?_
      | refine LeO.bind ?_ (fun _ => ?_)
    · intro y0 y1 y2
      unfold hertzproto_decodeCookieArg.l0
      repeat' first
      | (with_reducible exact ih0 _ _ _)
      | (with_reducible exact ih1 _ _ _)
      | (with_reducible exact ih2 _ _ _)
      | (with_reducible exact ih3 _ _ _)
      | (with_reducible exact LeO.refl _)
      | (with_reducible exact LeO.none _)
      | (with_reducible refine LeO.ite ?_ ?_)
      | (with_reducible refine LeO.bind ?_ (fun _ => ?_))
      | exact ih0 _ _ _
      | exact ih1 _ _ _
      | exact ih2 _ _ _
      | exact ih3 _ _ _
      | exact LeO.none _
      | refine LeO.ite ?_ ?_
      | refine LeO.bind ?_ (fun _ => ?_)
theorem hertzproto_decodeCookieArg.mono : ∀ a0 a1 a2 k, LeO (hertzproto_decodeCookieArg.f k a0 a1 a2) (hertzproto_decodeCookieArg.f (k + 1) a0 a1 a2) := by
  intro a0 a1 a2 k
  obtain ⟨ih0, ih1, ih2, ih3⟩ := hertzproto_decodeCookieArg.mono_l k
  unfold hertzproto_decodeCookieArg.f
  repeat' first
      | (with_reducible exact ih0 _ _ _)
      | (with_reducible exact ih1 _ _ _)
      | (with_reducible exact ih2 _ _ _)
      | (with_reducible exact ih3 _ _ _)
      | (with_reducible exact LeO.refl _)
      | (with_reducible exact LeO.none _)
      | (with_reducible refine LeO.ite ?_ ?_)
      | (with_reducible refine LeO.bind ?_ (fun _ => ?_))
      | exact ih0 _ _ _
      | exact ih1 _ _ _
      | exact ih2 _ _ _
      | exact ih3 _ _ _
      | exact LeO.none _
      | refine LeO.ite ?_ ?_
      | refine LeO.bind ?_ (fun _ => ?_)
set_option maxHeartbeats 8000000 in
set_option maxRecDepth 100000 in
theorem hertzproto_decodeCookieArg.calls (k : Nat) (P0_ : Nat → Prop) (u9000_ : Value) (l0 : List Int) (P1_ : Nat → Prop) (A1 : Option Addr) (c1 : Nat) (l1 : List Int) (a2 : Bool) (r : List Int) (w0 w : World) (hB : Below w0.heap.size w0 w) (ho0 : Kd.R (Kd.int .u8) 5 w w0.heap.size P0_ u9000_ l0) (hs1 : Kd.V (Kd.int .u8) 5 w w0.heap.size (fun k_ => P1_ k_ ∧ some k_ ≠ (u9000_ : Value).ownBlock) (.slice A1 l1.length c1) l1) (h : hertzproto_decodeCookieArg.f k l0 l1 a2 = some r) :
    Calls Try.prog 108 #[u9000_, .slice A1 l1.length c1, .bool a2] w fun e w' => ∃ v0_ : Value, e = .returned (v0_) ∧ Kd.R (Kd.int .u8) 5 w' w0.heap.size (fun k_ => (P0_ k_ ∨ w.heap.size ≤ k_)) v0_ r ∧ Below w0.heap.size w0 w' ∧ Kept w w' (fun k_ => P0_ k_) := by
  have HO0 := Aside0.mk (show Kd.R (Kd.int .u8) 5 w w0.heap.size (fun k_ => (P0_ k_ ∨ w.heap.size ≤ k_)) u9000_ l0 from Kd.R_mono ho0 (fun k_ hk => (.inl hk)))
  have HO1 := Aside0.mk (show Kd.V (Kd.int .u8) 5 w w0.heap.size (fun k_ => ((P0_ k_ ∨ P1_ k_) ∨ w.heap.size ≤ k_) ∧ some k_ ≠ (u9000_ : Value).ownBlock) (.slice A1 l1.length c1) l1 from Kd.V_mono hs1 (fun k_ hk => ⟨.inl (.inr hk.1), hk.2⟩))
  have HK := Aside0.mk (Kept.refl w (fun k_ => P0_ k_))
  have HW0 := Aside0.mk hB.size
  have HB := Aside0.mk hB
  clear hB
  have H : (hertzproto_decodeCookieArg.l0 k l0 l1 a2) = some r := h
  clear h
  have HC4 := Aside0.mk H
  clear H
  go_enter Try.func108, Try.ntmps108
  go_upto_block 0 with (fail)
  go_cut [1] (fun v1 wc => ∃ (kq : Nat) (x1_3 : List Int), Aside0 (hertzproto_decodeCookieArg.j1 kq l0 x1_3 a2 = some r) ∧ Aside0 (kq ≤ k) ∧ Aside0 (Kd.R (Kd.int .u8) 5 wc w0.heap.size (fun k_ => (P0_ k_ ∨ w.heap.size ≤ k_)) u9000_ l0) ∧ Aside0 (Kd.V (Kd.int .u8) 5 wc w0.heap.size (fun k_ => ((P0_ k_ ∨ P1_ k_) ∨ w.heap.size ≤ k_) ∧ some k_ ≠ (u9000_ : Value).ownBlock) v1 x1_3) ∧ Aside0 (Kept w wc (fun k_ => P0_ k_)) ∧ Aside0 (Below w0.heap.size w0 wc))
  case first =>
    have H := HC4.out
    clear HC4
    have H' := Aside0.mk H
    clear H
    go_wp2
    go_loopg [1] k (fun kq v1 w' => ∃ (x1_1 : List Int), Aside0 (hertzproto_decodeCookieArg.l0 kq l0 x1_1 a2 = some r) ∧ Aside0 (kq ≤ k) ∧ Aside0 (Kd.R (Kd.int .u8) 5 w' w0.heap.size (fun k_ => (P0_ k_ ∨ w.heap.size ≤ k_)) u9000_ l0) ∧ Aside0 (Kd.V (Kd.int .u8) 5 w' w0.heap.size (fun k_ => ((P0_ k_ ∨ P1_ k_) ∨ w.heap.size ≤ k_) ∧ some k_ ≠ (u9000_ : Value).ownBlock) v1 x1_1) ∧ Aside0 (Kept w w' (fun k_ => P0_ k_)) ∧ Aside0 (Below w0.heap.size w0 w'))
    case atStart => exact ⟨(l1), H', ⟨Nat.le_refl _⟩, ⟨by (with_reducible repeat (first | apply Kd.R_alloc | apply Kd.R_drewN | apply Kd.R_drew)); exact HO0.out⟩, ⟨by (with_reducible repeat (first | apply Kd.V_alloc | apply Kd.V_drewN | apply Kd.V_drew)); exact HO1.out⟩, ⟨by repeat (first | (with_reducible first | exact HK.out | apply Kept.alloc | apply Kept.drewN | apply Kept.drew) | exact HK.out)⟩, ⟨by repeat (first | (with_reducible first | exact HB.out | apply below_alloc | apply pw_below_drewN | apply below_drew1) | exact HB.out)⟩⟩
    case round =>
      clear H'
      try clear c1
      try clear p2
      obtain ⟨x1_1, HA, HK1, HO_0, HO_1, HK, HB⟩ := hrel
      cases gk with
      | zero => exact absurd HA.out (by simp [hertzproto_decodeCookieArg.l0])
      | succ k1 =>
        have H := HA.out
        clear HA
        simp only [hertzproto_decodeCookieArg.l0] at H
        by_cases c5 : (x1_1.length : Int) > 0
        · rw [if_pos c5] at H
          have c5b0 : decide (0 < (x1_1.length : Int)) = true := decide_eq_true c5
          have c5b1 : decide (0 < x1_1.length) = true := decide_eq_true (by omega)
          clear c5
          (first | rw [c5b0] | (simp only [i64_w, i32_w]; rw [c5b0]) | skip)
          by_cases c6 : 0 < (x1_1.length : Int)
          · rw [if_pos c6] at H
            have c6b0 : decide (0 < (x1_1.length : Int)) = true := decide_eq_true c6
            have c6b1 : decide (0 < x1_1.length) = true := decide_eq_true (by omega)
            clear c6
            by_cases c7 : (rd x1_1 0) = 32
            · rw [if_pos c7] at H
              have c7b0 : ((rd x1_1 0) == 32) = true := beq_iff_eq.mpr c7
              have c7b1 : ((rd x1_1 0) != 32) = false := bne_eq_false_iff_eq.mpr c7
              clear c7
              by_cases c8 : 1 ≤ (x1_1.length : Int)
              · rw [if_pos c8] at H
                have c8b0 := eq_true c8
                have c8b1 : decide (1 ≤ (x1_1.length : Int)) = true := decide_eq_true c8
                clear c8
                obtain ⟨y111, hy111⟩ : ∃ y_ : List Int, y_ = (x1_1.drop 1) := ⟨_, rfl⟩
                replace H : (hertzproto_decodeCookieArg.l0 k1 l0 y111 a2) = some r := by first | (rw [hy111]; with_reducible exact H) | (have H2_ := (Option.bind_some _ _).symm.trans H; rw [hy111]; with_reducible exact H2_) | (have H2_ := (Option.bind_some _ _).symm.trans H; with_reducible exact H2_) | with_reducible exact H | (rw [hy111]; exact H) | exact H
                have Ny111 := Aside0.mk hy111
                clear hy111
                have H' := Aside0.mk H
                clear H
                obtain ⟨Ao9, co9, eo9⟩ := Kd.V_slice HO_1.out
                subst eo9
                have p110 : 0 ≤ (0 : Int) := (by omega)
                have q110 : 0 < (x1_1.length : Int) := of_decide_eq_true (by first | (with_reducible assumption) | assumption)
                obtain ⟨ad110, e110, hx110_0⟩ := Kd.at_int (Kd.V_reads' HO_1.out).2.2 0 p110 q110
                cases e110
                have qi110 : (0 < x1_1.length) = True := eq_true (by omega)
                (try rw [show ((0 : Int)).toNat = 0 from rfl] at hx110_0)
                (try rw [Addr.add_zero'] at hx110_0)
                replace p110 := eq_true p110
                replace q110 := eq_true q110
                have q10 : (1 : Int) ≤ ((x1_1.length : Int) : Int) := of_decide_eq_true (by first | (with_reducible assumption) | assumption)
                obtain ⟨i010, hi010, _, hsz10, _⟩ := info_parts info5
                have hroom10 : x1_1.length ≤ co9 := (Kd.V_reads' HO_1.out).2.1
                have hC10 : Kd.F (Kd.int .u8) _ _ (some ad110) x1_1.length x1_1 := (Kd.V_at (base := w0.heap.size) HO_1.out).2.2
                have hcut10 := cut_from (P := Try.prog) 24 5 .i64 Try.underlying24 hi010 1 hsz10 (some ad110) x1_1.length co9 1 (by omega) q10
                have hr10 := Kd.F_cut (m := (1 : Int).toNat) (c := co9) hC10 (by omega) hroom10
                obtain ⟨A10, hA10⟩ : ∃ zq_, zq_ = (if co9 = (1 : Int).toNat then (some ad110) else ((some ad110) : Option Addr).map (·.add ((1 : Int).toNat * 1))) := ⟨_, rfl⟩
                obtain ⟨c10, hc10⟩ : ∃ zq_, zq_ = co9 - (1 : Int).toNat := ⟨_, rfl⟩
                have hy10 : y111.length = x1_1.length - (1 : Int).toNat := (by rw [Ny111.out, List.length_drop] <;> omega)
                rw [show (x1_1).drop (1 : Int).toNat = y111 from Ny111.out.symm] at hr10
                replace hr10 : Kd.F (Kd.int .u8) _ _ A10 y111.length y111 := (by rw [hA10]; exact hr10)
                rw [← hy10, ← hA10, ← hc10] at hcut10
                have HO115 := Aside0.mk (show Kd.V (Kd.int .u8) 5 _ w0.heap.size _ (.slice A10 y111.length c10) y111 from Kd.V_mk (by rw [hy10, hc10]; exact Nat.sub_le_sub_right hroom10 _) hr10)
                have HC115 := Aside0.mk (show y111.length ≤ c10 from by rw [hy10, hc10]; exact Nat.sub_le_sub_right hroom10 _)
                clear hr10 hC10 hroom10 hi010 hsz10 hc10
                have KY10 := Aside0.mk hy10
                have KA10 := Aside0.mk hA10
                clear hy10 hA10
                replace q10 := eq_true q10
                go_wp2
                go_roundg k1
                case measure => have := HK1.out; omega
                case rel => exact ⟨(y111), H', ⟨by have := HK1.out; omega⟩, ⟨by (with_reducible repeat (first | apply Kd.R_alloc | apply Kd.R_drewN | apply Kd.R_drew)); exact HO_0.out⟩, ⟨by (with_reducible repeat (first | apply Kd.V_alloc | apply Kd.V_drewN | apply Kd.V_drew)); exact HO115.out⟩, ⟨by repeat (first | (with_reducible first | exact HK.out | apply Kept.alloc | apply Kept.drewN | apply Kept.drew) | exact HK.out)⟩, ⟨by repeat (first | (with_reducible first | exact HB.out | apply below_alloc | apply pw_below_drewN | apply below_drew1) | exact HB.out)⟩⟩
              · rw [if_neg c8] at H
                exact absurd H (by simp)
            · rw [if_neg c7] at H
              have c7b0 : ((rd x1_1 0) == 32) = false := beq_eq_false_iff_ne.mpr c7
              have c7b1 : ((rd x1_1 0) != 32) = true := bne_iff_ne.mpr c7
              have H' := Aside0.mk H
              clear H
              obtain ⟨Ao11, co11, eo11⟩ := Kd.V_slice HO_1.out
              subst eo11
              have p110 : 0 ≤ (0 : Int) := (by omega)
              have q110 : 0 < (x1_1.length : Int) := of_decide_eq_true (by first | (with_reducible assumption) | assumption)
              obtain ⟨ad110, e110, hx110_0⟩ := Kd.at_int (Kd.V_reads' HO_1.out).2.2 0 p110 q110
              cases e110
              have qi110 : (0 < x1_1.length) = True := eq_true (by omega)
              (try rw [show ((0 : Int)).toNat = 0 from rfl] at hx110_0)
              (try rw [Addr.add_zero'] at hx110_0)
              replace p110 := eq_true p110
              replace q110 := eq_true q110
              go_wp2
              go_meet
              case rel => exact ⟨_, (x1_1), H', ⟨by have := HK1.out; first | omega | exact Nat.le_refl _⟩, ⟨by (with_reducible repeat (first | apply Kd.R_alloc | apply Kd.R_drewN | apply Kd.R_drew)); exact HO_0.out⟩, ⟨by (with_reducible repeat (first | apply Kd.V_alloc | apply Kd.V_drewN | apply Kd.V_drew)); exact HO_1.out⟩, ⟨by repeat (first | (with_reducible first | exact HK.out | apply Kept.alloc | apply Kept.drewN | apply Kept.drew) | exact HK.out)⟩, ⟨by repeat (first | (with_reducible first | exact HB.out | apply below_alloc | apply pw_below_drewN | apply below_drew1) | exact HB.out)⟩⟩
          · rw [if_neg c6] at H
            exact absurd H (by simp)
        · rw [if_neg c5] at H
          have c5b0 : decide (0 < (x1_1.length : Int)) = false := decide_eq_false c5
          have c5b1 : decide (0 < x1_1.length) = false := decide_eq_false (by omega)
          clear c5
          (first | rw [c5b0] | (simp only [i64_w, i32_w]; rw [c5b0]) | skip)
          have H' := Aside0.mk H
          clear H
          obtain ⟨Ao12, co12, eo12⟩ := Kd.V_slice HO_1.out
          subst eo12
          go_wp2
          go_meet
          case rel => exact ⟨_, (x1_1), H', ⟨by have := HK1.out; first | omega | exact Nat.le_refl _⟩, ⟨by (with_reducible repeat (first | apply Kd.R_alloc | apply Kd.R_drewN | apply Kd.R_drew)); exact HO_0.out⟩, ⟨by (with_reducible repeat (first | apply Kd.V_alloc | apply Kd.V_drewN | apply Kd.V_drew)); exact HO_1.out⟩, ⟨by repeat (first | (with_reducible first | exact HK.out | apply Kept.alloc | apply Kept.drewN | apply Kept.drew) | exact HK.out)⟩, ⟨by repeat (first | (with_reducible first | exact HB.out | apply below_alloc | apply pw_below_drewN | apply below_drew1) | exact HB.out)⟩⟩
  case rest =>
    clear HC4
    try clear c1
    try clear p1
    try clear q1
    try clear hx1
    try clear qi1
    try clear p2
    try clear c5
    try clear c5b0
    try clear c5b1
    try clear c6
    try clear c6b0
    try clear c6b1
    try clear c7
    try clear c7b0
    try clear c7b1
    try clear c8
    try clear c8b0
    try clear c8b1
    try clear c10
    try clear q10
    try clear p11
    try clear q11
    try clear hx11
    try clear qi11
    try clear hx110_0
    try clear p110
    try clear p2
    try clear q10
    try clear q110
    obtain ⟨kq, x1_3, HA, HJ3, HO_0, HO_1, HK, HB⟩ := hcut
    cases kq with
    | zero => exact absurd HA.out (by simp [hertzproto_decodeCookieArg.j1])
    | succ kj3 =>
      have H := HA.out
      clear HA
      simp only [hertzproto_decodeCookieArg.j1] at H
      have HC13 := Aside0.mk H
      clear H
      go_upto_block 2 with (fail)
      go_cut [1] (fun v1 wc => ∃ (kq : Nat) (x1_12 : List Int), Aside0 (hertzproto_decodeCookieArg.j3 kq l0 x1_12 a2 = some r) ∧ Aside0 (kq ≤ kj3) ∧ Aside0 (Kd.R (Kd.int .u8) 5 wc w0.heap.size (fun k_ => (P0_ k_ ∨ w.heap.size ≤ k_)) u9000_ l0) ∧ Aside0 (Kd.V (Kd.int .u8) 5 wc w0.heap.size (fun k_ => ((P0_ k_ ∨ P1_ k_) ∨ w.heap.size ≤ k_) ∧ some k_ ≠ (u9000_ : Value).ownBlock) v1 x1_12) ∧ Aside0 (Kept w wc (fun k_ => P0_ k_)) ∧ Aside0 (Below w0.heap.size w0 wc))
      case first =>
        have H := HC13.out
        clear HC13
        have H' := Aside0.mk H
        clear H
        go_wp2
        go_loopg [1] kj3 (fun kq v1 w' => ∃ (x1_2 : List Int), Aside0 (hertzproto_decodeCookieArg.l1 kq l0 x1_2 a2 = some r) ∧ Aside0 (kq ≤ kj3) ∧ Aside0 (Kd.R (Kd.int .u8) 5 w' w0.heap.size (fun k_ => (P0_ k_ ∨ w.heap.size ≤ k_)) u9000_ l0) ∧ Aside0 (Kd.V (Kd.int .u8) 5 w' w0.heap.size (fun k_ => ((P0_ k_ ∨ P1_ k_) ∨ w.heap.size ≤ k_) ∧ some k_ ≠ (u9000_ : Value).ownBlock) v1 x1_2) ∧ Aside0 (Kept w w' (fun k_ => P0_ k_)) ∧ Aside0 (Below w0.heap.size w0 w'))
        case atStart => exact ⟨(x1_3), H', ⟨Nat.le_refl _⟩, ⟨by (with_reducible repeat (first | apply Kd.R_alloc | apply Kd.R_drewN | apply Kd.R_drew)); exact HO_0.out⟩, ⟨by (with_reducible repeat (first | apply Kd.V_alloc | apply Kd.V_drewN | apply Kd.V_drew)); exact HO_1.out⟩, ⟨by repeat (first | (with_reducible first | exact HK.out | apply Kept.alloc | apply Kept.drewN | apply Kept.drew) | exact HK.out)⟩, ⟨by repeat (first | (with_reducible first | exact HB.out | apply below_alloc | apply pw_below_drewN | apply below_drew1) | exact HB.out)⟩⟩
        case round =>
          clear H'
          try clear c1
          try clear p1
          try clear q1
          try clear hx1
          try clear qi1
          try clear p2
          try clear c5
          try clear c5b0
          try clear c5b1
          try clear c6
          try clear c6b0
          try clear c6b1
          try clear c7
          try clear c7b0
          try clear c7b1
          try clear c8
          try clear c8b0
          try clear c8b1
          try clear c10
          try clear q10
          try clear p11
          try clear q11
          try clear hx11
          try clear qi11
          try clear hx110_0
          try clear p1
          try clear p11
          try clear p110
          try clear p2
          try clear q1
          try clear q10
          try clear q11
          try clear q110
          obtain ⟨x1_2, HA, HK2, HO_0, HO_1, HK, HB⟩ := hrel
          cases gk with
          | zero => exact absurd HA.out (by simp [hertzproto_decodeCookieArg.l1])
          | succ k2 =>
            have H := HA.out
            clear HA
            simp only [hertzproto_decodeCookieArg.l1] at H
            by_cases c14 : (x1_2.length : Int) > 0
            · rw [if_pos c14] at H
              have c14b0 : decide (0 < (x1_2.length : Int)) = true := decide_eq_true c14
              have c14b1 : decide (0 < x1_2.length) = true := decide_eq_true (by omega)
              clear c14
              (first | rw [c14b0] | (simp only [i64_w, i32_w]; rw [c14b0]) | skip)
              obtain ⟨ji15, hji15⟩ : ∃ j_ : Int, (wrap64 ((x1_2.length : Int) - 1)) = j_ := ⟨_, rfl⟩
              replace H : (if 0 ≤ (ji15) then (if (ji15) < (x1_2.length : Int) then (if (rd x1_2 (ji15)) = 32 then (if (ji15) ≤ (x1_2.length : Int) then (hertzproto_decodeCookieArg.l1 k2 l0 (x1_2.take ((ji15) : Int).toNat) a2) else (none)) else (hertzproto_decodeCookieArg.j3 k2 l0 x1_2 a2)) else (none)) else (none)) = some r := by first | (rw [hji15] at H; exact H) | (simp only [hji15] at H ⊢; exact H)
              have hji15w : (IntKind.i64.wrap ((x1_2.length : Int) - 1)) = ji15 := (i64_w _).trans hji15
              by_cases c16 : 0 ≤ (ji15)
              · rw [if_pos c16] at H
                have c16b0 : decide (0 ≤ (ji15)) = true := decide_eq_true c16
                clear c16
                by_cases c17 : (ji15) < (x1_2.length : Int)
                · rw [if_pos c17] at H
                  have c17b0 : decide ((ji15) < (x1_2.length : Int)) = true := decide_eq_true c17
                  clear c17
                  by_cases c18 : (rd x1_2 (ji15)) = 32
                  · rw [if_pos c18] at H
                    have c18b0 : ((rd x1_2 (ji15)) == 32) = true := beq_iff_eq.mpr c18
                    have c18b1 : ((rd x1_2 (ji15)) != 32) = false := bne_eq_false_iff_eq.mpr c18
                    clear c18
                    have c19b0 := eq_true (of_decide_eq_true (by first | (with_reducible assumption) | assumption) : 0 ≤ (ji15))
                    by_cases c20 : (ji15) ≤ (x1_2.length : Int)
                    · rw [if_pos c20] at H
                      have c20b0 := eq_true c20
                      have c20b1 : decide ((ji15) ≤ (x1_2.length : Int)) = true := decide_eq_true c20
                      clear c20
                      obtain ⟨y117, hy117⟩ : ∃ y_ : List Int, y_ = (x1_2.take ((ji15) : Int).toNat) := ⟨_, rfl⟩
                      replace H : (hertzproto_decodeCookieArg.l1 k2 l0 y117 a2) = some r := by first | (rw [hy117]; with_reducible exact H) | (have H2_ := (Option.bind_some _ _).symm.trans H; rw [hy117]; with_reducible exact H2_) | (have H2_ := (Option.bind_some _ _).symm.trans H; with_reducible exact H2_) | with_reducible exact H | (rw [hy117]; exact H) | exact H
                      have Ny117 := Aside0.mk hy117
                      clear hy117
                      have H' := Aside0.mk H
                      clear H
                      obtain ⟨Ao21, co21, eo21⟩ := Kd.V_slice HO_1.out
                      subst eo21
                      have p116 : 0 ≤ ((ji15) : Int) := of_decide_eq_true (by first | (with_reducible assumption) | assumption)
                      have q116 : (ji15) < (x1_2.length : Int) := of_decide_eq_true (by first | (with_reducible assumption) | assumption)
                      obtain ⟨ad116, e116, hx116_0⟩ := Kd.at_int (Kd.V_reads' HO_1.out).2.2 (ji15) p116 q116
                      cases e116
                      replace p116 := eq_true p116
                      replace q116 := eq_true q116
                      have q22 : ((ji15) : Int) ≤ ((x1_2.length : Int) : Int) := of_decide_eq_true (by first | (with_reducible assumption) | assumption)
                      obtain ⟨i022, hi022, _, hsz22, _⟩ := info_parts info5
                      have hroom22 : x1_2.length ≤ co21 := (Kd.V_reads' HO_1.out).2.1
                      have hC22 : Kd.F (Kd.int .u8) _ _ (some ad116) x1_2.length x1_2 := (Kd.V_at (base := w0.heap.size) HO_1.out).2.2
                      have hcut22 := cut_to (P := Try.prog) 24 5 .i64 Try.underlying24 hi022 (some ad116) x1_2.length co21 (ji15) (of_decide_eq_true (by first | (with_reducible assumption) | assumption)) q22 hroom22
                      have hr22 := Kd.F_take (m := ((ji15) : Int).toNat) hC22 (by omega)
                      have hy22 : y117.length = ((ji15) : Int).toNat := (by rw [Ny117.out, List.length_take]; omega)
                      rw [← Ny117.out] at hr22
                      rw [← hy22] at hcut22
                      have HO121 := Aside0.mk (show Kd.V (Kd.int .u8) 5 _ w0.heap.size _ (.slice (some ad116) y117.length co21) y117 from Kd.V_mk (by omega) hr22)
                      have HC121 := Aside0.mk (show y117.length ≤ co21 from by omega)
                      clear hr22 hC22 hroom22 hi022 hsz22
                      have KY22 := Aside0.mk hy22
                      clear hy22
                      replace q22 := eq_true q22
                      go_wp2
                      go_roundg k2
                      case measure => have := HJ3.out; have := HK2.out; omega
                      case rel => exact ⟨(y117), H', ⟨by have := HJ3.out; have := HK2.out; omega⟩, ⟨by (with_reducible repeat (first | apply Kd.R_alloc | apply Kd.R_drewN | apply Kd.R_drew)); exact HO_0.out⟩, ⟨by (with_reducible repeat (first | apply Kd.V_alloc | apply Kd.V_drewN | apply Kd.V_drew)); exact HO121.out⟩, ⟨by repeat (first | (with_reducible first | exact HK.out | apply Kept.alloc | apply Kept.drewN | apply Kept.drew) | exact HK.out)⟩, ⟨by repeat (first | (with_reducible first | exact HB.out | apply below_alloc | apply pw_below_drewN | apply below_drew1) | exact HB.out)⟩⟩
                    · rw [if_neg c20] at H
                      exact absurd H (by simp)
                  · rw [if_neg c18] at H
                    have c18b0 : ((rd x1_2 (ji15)) == 32) = false := beq_eq_false_iff_ne.mpr c18
                    have c18b1 : ((rd x1_2 (ji15)) != 32) = true := bne_iff_ne.mpr c18
                    have H' := Aside0.mk H
                    clear H
                    obtain ⟨Ao23, co23, eo23⟩ := Kd.V_slice HO_1.out
                    subst eo23
                    have p116 : 0 ≤ ((ji15) : Int) := of_decide_eq_true (by first | (with_reducible assumption) | assumption)
                    have q116 : (ji15) < (x1_2.length : Int) := of_decide_eq_true (by first | (with_reducible assumption) | assumption)
                    obtain ⟨ad116, e116, hx116_0⟩ := Kd.at_int (Kd.V_reads' HO_1.out).2.2 (ji15) p116 q116
                    cases e116
                    replace p116 := eq_true p116
                    replace q116 := eq_true q116
                    go_wp2
                    go_meet
                    case rel => exact ⟨_, (x1_2), H', ⟨by have := HJ3.out; have := HK2.out; first | omega | exact Nat.le_refl _⟩, ⟨by (with_reducible repeat (first | apply Kd.R_alloc | apply Kd.R_drewN | apply Kd.R_drew)); exact HO_0.out⟩, ⟨by (with_reducible repeat (first | apply Kd.V_alloc | apply Kd.V_drewN | apply Kd.V_drew)); exact HO_1.out⟩, ⟨by repeat (first | (with_reducible first | exact HK.out | apply Kept.alloc | apply Kept.drewN | apply Kept.drew) | exact HK.out)⟩, ⟨by repeat (first | (with_reducible first | exact HB.out | apply below_alloc | apply pw_below_drewN | apply below_drew1) | exact HB.out)⟩⟩
                · rw [if_neg c17] at H
                  exact absurd H (by simp)
              · rw [if_neg c16] at H
                exact absurd H (by simp)
            · rw [if_neg c14] at H
              have c14b0 : decide (0 < (x1_2.length : Int)) = false := decide_eq_false c14
              have c14b1 : decide (0 < x1_2.length) = false := decide_eq_false (by omega)
              clear c14
              (first | rw [c14b0] | (simp only [i64_w, i32_w]; rw [c14b0]) | skip)
              have H' := Aside0.mk H
              clear H
              obtain ⟨Ao24, co24, eo24⟩ := Kd.V_slice HO_1.out
              subst eo24
              go_wp2
              go_meet
              case rel => exact ⟨_, (x1_2), H', ⟨by have := HJ3.out; have := HK2.out; first | omega | exact Nat.le_refl _⟩, ⟨by (with_reducible repeat (first | apply Kd.R_alloc | apply Kd.R_drewN | apply Kd.R_drew)); exact HO_0.out⟩, ⟨by (with_reducible repeat (first | apply Kd.V_alloc | apply Kd.V_drewN | apply Kd.V_drew)); exact HO_1.out⟩, ⟨by repeat (first | (with_reducible first | exact HK.out | apply Kept.alloc | apply Kept.drewN | apply Kept.drew) | exact HK.out)⟩, ⟨by repeat (first | (with_reducible first | exact HB.out | apply below_alloc | apply pw_below_drewN | apply below_drew1) | exact HB.out)⟩⟩
      case rest =>
        clear HC13
        try clear c1
        try clear p1
        try clear q1
        try clear hx1
        try clear qi1
        try clear c2
        try clear p2
        try clear q2
        try clear c5
        try clear c5b0
        try clear c5b1
        try clear c6
        try clear c6b0
        try clear c6b1
        try clear p6
        try clear c7
        try clear c7b0
        try clear c7b1
        try clear c8
        try clear c8b0
        try clear c8b1
        try clear c10
        try clear q10
        try clear p11
        try clear q11
        try clear hx11
        try clear qi11
        try clear c14
        try clear c14b0
        try clear c14b1
        try clear c16
        try clear c16b0
        try clear c17
        try clear c17b0
        try clear c18
        try clear c18b0
        try clear c18b1
        try clear c19
        try clear c19b0
        try clear c20
        try clear c20b0
        try clear c20b1
        try clear q22
        try clear hx110_0
        try clear hx116_0
        try clear p1
        try clear p11
        try clear p110
        try clear p116
        try clear p2
        try clear q1
        try clear q10
        try clear q11
        try clear q110
        try clear q116
        try clear q22
        obtain ⟨kq, x1_12, HA, HJ12, HO_0, HO_1, HK, HB⟩ := hcut
        cases kq with
        | zero => exact absurd HA.out (by simp [hertzproto_decodeCookieArg.j3])
        | succ kj12 =>
          have H := HA.out
          clear HA
          simp only [hertzproto_decodeCookieArg.j3] at H
          by_cases c25 : a2 = true
          · subst c25
            have H1 : (if (x1_12.length : Int) > 1 then (if 0 < (x1_12.length : Int) then (if (rd x1_12 0) = 34 then (if 0 ≤ (wrap64 ((x1_12.length : Int) - 1)) then (if (wrap64 ((x1_12.length : Int) - 1)) < (x1_12.length : Int) then (if (rd x1_12 (wrap64 ((x1_12.length : Int) - 1))) = 34 then (if 1 ≤ (wrap64 ((x1_12.length : Int) - 1)) then (if (wrap64 ((x1_12.length : Int) - 1)) ≤ (x1_12.length : Int) then ((some ((x1_12.take ((wrap64 ((x1_12.length : Int) - 1)) : Int).toNat).drop 1 : List Int)).bind fun y124 => (if 0 ≤ (l0.length : Int) then ((some (l0.take (0 : Int).toNat : List Int)).bind fun y129 => (if y129.length + y124.length < 140737488355328 then (some (y129 ++ y124)) else (none))) else (none))) else (none)) else (none)) else (if 0 ≤ (l0.length : Int) then ((some (l0.take (0 : Int).toNat : List Int)).bind fun y135 => (if y135.length + x1_12.length < 140737488355328 then (some (y135 ++ x1_12)) else (none))) else (none))) else (none)) else (none)) else (if 0 ≤ (l0.length : Int) then ((some (l0.take (0 : Int).toNat : List Int)).bind fun y141 => (if y141.length + x1_12.length < 140737488355328 then (some (y141 ++ x1_12)) else (none))) else (none))) else (none)) else (if 0 ≤ (l0.length : Int) then ((some (l0.take (0 : Int).toNat : List Int)).bind fun y147 => (if y147.length + x1_12.length < 140737488355328 then (some (y147 ++ x1_12)) else (none))) else (none))) = some r := by rw [if_pos rfl] at H; exact H
            clear H
            have H := H1
            clear H1
            by_cases c26 : (x1_12.length : Int) > 1
            · rw [if_pos c26] at H
              have c26b0 : decide (1 < (x1_12.length : Int)) = true := decide_eq_true c26
              have c26b1 : decide (1 < x1_12.length) = true := decide_eq_true (by omega)
              clear c26
              by_cases c27 : 0 < (x1_12.length : Int)
              · rw [if_pos c27] at H
                have c27b0 : decide (0 < (x1_12.length : Int)) = true := decide_eq_true c27
                have c27b1 : decide (0 < x1_12.length) = true := decide_eq_true (by omega)
                clear c27
                by_cases c28 : (rd x1_12 0) = 34
                · rw [if_pos c28] at H
                  have c28b0 : ((rd x1_12 0) == 34) = true := beq_iff_eq.mpr c28
                  have c28b1 : ((rd x1_12 0) != 34) = false := bne_eq_false_iff_eq.mpr c28
                  clear c28
                  obtain ⟨ji29, hji29⟩ : ∃ j_ : Int, (wrap64 ((x1_12.length : Int) - 1)) = j_ := ⟨_, rfl⟩
                  replace H : (if 0 ≤ (ji29) then (if (ji29) < (x1_12.length : Int) then (if (rd x1_12 (ji29)) = 34 then (if 1 ≤ (ji29) then (if (ji29) ≤ (x1_12.length : Int) then ((some ((x1_12.take ((ji29) : Int).toNat).drop 1 : List Int)).bind fun y124 => (if 0 ≤ (l0.length : Int) then ((some (l0.take (0 : Int).toNat : List Int)).bind fun y129 => (if y129.length + y124.length < 140737488355328 then (some (y129 ++ y124)) else (none))) else (none))) else (none)) else (none)) else (if 0 ≤ (l0.length : Int) then ((some (l0.take (0 : Int).toNat : List Int)).bind fun y135 => (if y135.length + x1_12.length < 140737488355328 then (some (y135 ++ x1_12)) else (none))) else (none))) else (none)) else (none)) = some r := by first | (rw [hji29] at H; exact H) | (simp only [hji29] at H ⊢; exact H)
                  have hji29w : (IntKind.i64.wrap ((x1_12.length : Int) - 1)) = ji29 := (i64_w _).trans hji29
                  by_cases c30 : 0 ≤ (ji29)
                  · rw [if_pos c30] at H
                    have c30b0 : decide (0 ≤ (ji29)) = true := decide_eq_true c30
                    clear c30
                    by_cases c31 : (ji29) < (x1_12.length : Int)
                    · rw [if_pos c31] at H
                      have c31b0 : decide ((ji29) < (x1_12.length : Int)) = true := decide_eq_true c31
                      clear c31
                      by_cases c32 : (rd x1_12 (ji29)) = 34
                      · rw [if_pos c32] at H
                        have c32b0 : ((rd x1_12 (ji29)) == 34) = true := beq_iff_eq.mpr c32
                        have c32b1 : ((rd x1_12 (ji29)) != 34) = false := bne_eq_false_iff_eq.mpr c32
                        clear c32
                        by_cases c33 : 1 ≤ (ji29)
                        · rw [if_pos c33] at H
                          have c33b0 := eq_true c33
                          have c33b1 : decide (1 ≤ (ji29)) = true := decide_eq_true c33
                          clear c33
                          by_cases c34 : (ji29) ≤ (x1_12.length : Int)
                          · rw [if_pos c34] at H
                            have c34b0 := eq_true c34
                            have c34b1 : decide ((ji29) ≤ (x1_12.length : Int)) = true := decide_eq_true c34
                            clear c34
                            obtain ⟨y124, hy124⟩ : ∃ y_ : List Int, y_ = ((x1_12.take ((ji29) : Int).toNat).drop 1) := ⟨_, rfl⟩
                            replace H : (if 0 ≤ (l0.length : Int) then ((some (l0.take (0 : Int).toNat : List Int)).bind fun y129 => (if y129.length + y124.length < 140737488355328 then (some (y129 ++ y124)) else (none))) else (none)) = some r := by first | (rw [hy124]; with_reducible exact H) | (have H2_ := (Option.bind_some _ _).symm.trans H; rw [hy124]; with_reducible exact H2_) | (have H2_ := (Option.bind_some _ _).symm.trans H; with_reducible exact H2_) | with_reducible exact H | (rw [hy124]; exact H) | exact H
                            have Ny124 := Aside0.mk hy124
                            clear hy124
                            by_cases c35 : 0 ≤ (l0.length : Int)
                            · rw [if_pos c35] at H
                              have c35b0 := eq_true c35
                              have c35b1 : decide (0 ≤ (l0.length : Int)) = true := decide_eq_true c35
                              clear c35
                              obtain ⟨y129, hy129⟩ : ∃ y_ : List Int, y_ = (l0.take (0 : Int).toNat) := ⟨_, rfl⟩
                              replace H : (if y129.length + y124.length < 140737488355328 then (some (y129 ++ y124)) else (none)) = some r := by first | (rw [hy129]; with_reducible exact H) | (have H2_ := (Option.bind_some _ _).symm.trans H; rw [hy129]; with_reducible exact H2_) | (have H2_ := (Option.bind_some _ _).symm.trans H; with_reducible exact H2_) | with_reducible exact H | (rw [hy129]; exact H) | exact H
                              have Ny129 := Aside0.mk hy129
                              clear hy129
                              by_cases c36 : y129.length + y124.length < 140737488355328
                              · rw [if_pos c36] at H
                                have LMc36 := Aside0.mk c36
                                clear c36
                                obtain ⟨y132, hy132⟩ : ∃ y_ : List Int, y_ = (y129 ++ y124) := ⟨_, rfl⟩
                                replace H : (some y132) = some r := by first | (rw [hy132]; with_reducible exact H) | (have H2_ := (Option.bind_some _ _).symm.trans H; rw [hy132]; with_reducible exact H2_) | (have H2_ := (Option.bind_some _ _).symm.trans H; with_reducible exact H2_) | with_reducible exact H | (rw [hy132]; exact H) | exact H
                                have Ny132 := Aside0.mk hy132
                                clear hy132
                                obtain rfl := Option.some.inj H
                                obtain ⟨Ao37, co37, eo37⟩ := Kd.V_slice HO_1.out
                                subst eo37
                                have p122 : 0 ≤ (0 : Int) := (by omega)
                                have q122 : 0 < (x1_12.length : Int) := of_decide_eq_true (by first | (with_reducible assumption) | assumption)
                                obtain ⟨ad122, e122, hx122_0⟩ := Kd.at_int (Kd.V_reads' HO_1.out).2.2 0 p122 q122
                                cases e122
                                have qi122 : (0 < x1_12.length) = True := eq_true (by omega)
                                (try rw [show ((0 : Int)).toNat = 0 from rfl] at hx122_0)
                                (try rw [Addr.add_zero'] at hx122_0)
                                replace p122 := eq_true p122
                                replace q122 := eq_true q122
                                have p123 : 0 ≤ ((ji29) : Int) := of_decide_eq_true (by first | (with_reducible assumption) | assumption)
                                have q123 : (ji29) < (x1_12.length : Int) := of_decide_eq_true (by first | (with_reducible assumption) | assumption)
                                obtain ⟨ad123, e123, hx123_0⟩ := Kd.at_int (Kd.V_reads' HO_1.out).2.2 (ji29) p123 q123
                                obtain rfl : ad122 = ad123 := (by injection e123)
                                replace p123 := eq_true p123
                                replace q123 := eq_true q123
                                have q38 : ((ji29) : Int) ≤ ((x1_12.length : Int) : Int) := of_decide_eq_true (by first | (with_reducible assumption) | assumption)
                                obtain ⟨i038, hi038, _, hsz38, _⟩ := info_parts info5
                                have hroom38 : x1_12.length ≤ co37 := (Kd.V_reads' HO_1.out).2.1
                                have hC38 : Kd.F (Kd.int .u8) _ _ (some ad122) x1_12.length x1_12 := (Kd.V_at (base := w0.heap.size) HO_1.out).2.2
                                have ql38 : (1 : Int) ≤ ((ji29) : Int) := of_decide_eq_true (by first | (with_reducible assumption) | assumption)
                                have hcut38 := cut_mid (P := Try.prog) 24 5 .i64 .i64 Try.underlying24 hi038 1 hsz38 (some ad122) x1_12.length co37 1 (ji29) (by omega) ql38 q38 hroom38
                                have hr38 := Kd.F_mid (lo := (1 : Int).toNat) (hi := ((ji29) : Int).toNat) (c := co37) hC38 (by omega) (by omega) hroom38
                                obtain ⟨A38, hA38⟩ : ∃ zq_, zq_ = (if co37 = (1 : Int).toNat then (some ad122) else ((some ad122) : Option Addr).map (·.add ((1 : Int).toNat * 1))) := ⟨_, rfl⟩
                                obtain ⟨c38, hc38⟩ : ∃ zq_, zq_ = co37 - (1 : Int).toNat := ⟨_, rfl⟩
                                have hy38 : y124.length = ((ji29) : Int).toNat - (1 : Int).toNat := (by rw [Ny124.out, List.length_drop, List.length_take] <;> omega)
                                rw [show ((x1_12).take ((ji29) : Int).toNat).drop (1 : Int).toNat = y124 from Ny124.out.symm] at hr38
                                replace hr38 : Kd.F (Kd.int .u8) _ _ A38 y124.length y124 := (by rw [hA38]; exact hr38)
                                rw [← hy38, ← hA38, ← hc38] at hcut38
                                have HO128 := Aside0.mk (show Kd.V (Kd.int .u8) 5 _ w0.heap.size _ (.slice A38 y124.length c38) y124 from Kd.V_mk (by rw [hy38, hc38]; exact Nat.sub_le_sub_right (Nat.le_trans (by omega) hroom38) _) hr38)
                                have HC128 := Aside0.mk (show y124.length ≤ c38 from by rw [hy38, hc38]; exact Nat.sub_le_sub_right (Nat.le_trans (by omega) hroom38) _)
                                clear hr38 hC38 hroom38 hi038 hsz38 hc38
                                have KY38 := Aside0.mk hy38
                                have KA38 := Aside0.mk hA38
                                clear hy38 hA38
                                replace q38 := eq_true q38
                                obtain ⟨Ao39, co39, eo39⟩ := Kd.R_slice HO_0.out
                                subst eo39
                                have q40 : (0 : Int) ≤ ((l0.length : Int) : Int) := of_decide_eq_true (by first | (with_reducible assumption) | assumption)
                                obtain ⟨i040, hi040, _, hsz40, _⟩ := info_parts info5
                                have hcut40 := cut_to (P := Try.prog) 24 5 .i64 Try.underlying24 hi040 Ao39 l0.length co39 0 (by omega) q40 (Kd.R_reads' HO_0.out).2.1
                                have hr40 := Kd.R_take (m := (0 : Int).toNat) HO_0.out (by omega)
                                have hy40 : y129.length = (0 : Int).toNat := (by rw [Ny129.out, List.length_take]; omega)
                                rw [← Ny129.out] at hr40
                                rw [← hy40] at hr40 hcut40
                                clear hy40 hi040 hsz40 HO_0
                                have HO131 := Aside0.mk hr40
                                clear hr40
                                replace q40 := eq_true q40
                                go_wp2_with (first | ((with_reducible refine gate_builtin (b := .append) (xs := #[.tmp 60, .tmp 61]) rfl ?_); (try (refine gate_guard (by rfl) ?_; dsimp only)); at_builtin; refine Kd.R_append_rows (Kd.int .u8) (w0 := w0) w0.heap.size rfl (.tmp 60) (.tmp 61) 24 5 (.int .u8 0) 1 rfl Try.underlying24 info5 rfl (by decide) (by omega) (.slice Ao39 y129.length co39) y129 y124 _ _ _ (fun k_ => (P0_ k_ ∨ w.heap.size ≤ k_)) (fun _ => False) rfl rfl ?aO ?aR (fun _ _ h => h) (fun _ h => h.elim) ?aF ?aB ?aS ?aL ?_; (case aR => repeat (first | exact (Kd.V_reads' HO128.out).2.2 | (with_reducible refine Kd.C_alloc ?_ _) | (with_reducible refine Kd.C_drewN ?_ _) | (with_reducible refine Kd.C_drew ?_))); (case aB => exact (by repeat (first | (with_reducible first | exact HB.out | apply below_alloc | apply pw_below_drewN | apply below_drew1) | exact HB.out))); (case aF => exact (fun k_ hk => (.inr (Nat.le_trans (by first | exact HK.out.1 | exact (show Kept w _ (fun k_ => P0_ k_) from by repeat (first | (with_reducible first | exact HK.out | apply Kept.alloc | apply Kept.drewN | apply Kept.drew) | exact HK.out)).1) hk)))); (case aO => exact (by (with_reducible repeat (first | apply Kd.R_alloc | apply Kd.R_drewN | apply Kd.R_drew)); exact HO131.out)); (case aS => exact (below_size (by repeat (first | (with_reducible first | exact HB.out | apply below_alloc | apply pw_below_drewN | apply below_drew1) | exact HB.out)))); (case aL => have := LMc36.out; omega); intro v133 w41 ho hb hg hat; rw [← Ny132.out] at ho; have n0_ := Aside0.mk (V_afterl_hertzproto_decodeCookieArg (ok := (fun k_ => ((P0_ k_ ∨ P1_ k_) ∨ w.heap.size ≤ k_))) (by (with_reducible repeat (first | apply Kd.V_alloc | apply Kd.V_drewN | apply Kd.V_drew)); exact HO_1.out) hg hat); have n1_ := Aside0.mk (V_afterl_hertzproto_decodeCookieArg (ok := (fun k_ => ((P0_ k_ ∨ P1_ k_) ∨ w.heap.size ≤ k_))) (by (with_reducible repeat (first | apply Kd.V_alloc | apply Kd.V_drewN | apply Kd.V_drew)); exact HO128.out) hg hat); have n2_ := Aside0.mk (hb); have n3_ := Aside0.mk (Kept.of_grown (S := (fun k_ => P0_ k_)) hg (by repeat (first | (with_reducible first | exact HK.out | apply Kept.alloc | apply Kept.drewN | apply Kept.drew) | exact HK.out)) (fun k_ e_ => (HO131.out.1 k_ e_))); have n4_ := Aside0.mk (ho); clear HO_1; clear HO128; clear HB; clear HK; clear HO131; have HO_1 := n0_; have HO128 := n1_; have HB := n2_; have HK := n3_; have HO134 := n4_; clear n0_ n1_ n2_ n3_ n4_; clear ho hb hg hat))
                                go_ret
                                exact ⟨_, by first | rfl | (simp [errW_none, errW_some] <;> rfl) | (simp only [← hji29]; first | rfl | (simp [errW_none, errW_some] <;> rfl)) | (simp [*, errW_none, errW_some] <;> rfl), by (with_reducible repeat (first | apply Kd.R_alloc | apply Kd.R_drewN | apply Kd.R_drew)); exact HO134.out, by repeat (first | (with_reducible first | exact HB.out | apply below_alloc | apply pw_below_drewN | apply below_drew1) | exact HB.out), by repeat (first | (with_reducible first | exact HK.out | apply Kept.alloc | apply Kept.drewN | apply Kept.drew) | exact HK.out)⟩
                              · rw [if_neg c36] at H
                                exact absurd H (by simp)
                            · rw [if_neg c35] at H
                              exact absurd H (by simp)
                          · rw [if_neg c34] at H
                            exact absurd H (by simp)
                        · rw [if_neg c33] at H
                          exact absurd H (by simp)
                      · rw [if_neg c32] at H
                        have c32b0 : ((rd x1_12 (ji29)) == 34) = false := beq_eq_false_iff_ne.mpr c32
                        have c32b1 : ((rd x1_12 (ji29)) != 34) = true := bne_iff_ne.mpr c32
                        by_cases c42 : 0 ≤ (l0.length : Int)
                        · rw [if_pos c42] at H
                          have c42b0 := eq_true c42
                          have c42b1 : decide (0 ≤ (l0.length : Int)) = true := decide_eq_true c42
                          clear c42
                          obtain ⟨y135, hy135⟩ : ∃ y_ : List Int, y_ = (l0.take (0 : Int).toNat) := ⟨_, rfl⟩
                          replace H : (if y135.length + x1_12.length < 140737488355328 then (some (y135 ++ x1_12)) else (none)) = some r := by first | (rw [hy135]; with_reducible exact H) | (have H2_ := (Option.bind_some _ _).symm.trans H; rw [hy135]; with_reducible exact H2_) | (have H2_ := (Option.bind_some _ _).symm.trans H; with_reducible exact H2_) | with_reducible exact H | (rw [hy135]; exact H) | exact H
                          have Ny135 := Aside0.mk hy135
                          clear hy135
                          by_cases c43 : y135.length + x1_12.length < 140737488355328
                          · rw [if_pos c43] at H
                            have LMc43 := Aside0.mk c43
                            clear c43
                            obtain ⟨y138, hy138⟩ : ∃ y_ : List Int, y_ = (y135 ++ x1_12) := ⟨_, rfl⟩
                            replace H : (some y138) = some r := by first | (rw [hy138]; with_reducible exact H) | (have H2_ := (Option.bind_some _ _).symm.trans H; rw [hy138]; with_reducible exact H2_) | (have H2_ := (Option.bind_some _ _).symm.trans H; with_reducible exact H2_) | with_reducible exact H | (rw [hy138]; exact H) | exact H
                            have Ny138 := Aside0.mk hy138
                            clear hy138
                            obtain rfl := Option.some.inj H
                            obtain ⟨Ao44, co44, eo44⟩ := Kd.V_slice HO_1.out
                            subst eo44
                            have p122 : 0 ≤ (0 : Int) := (by omega)
                            have q122 : 0 < (x1_12.length : Int) := of_decide_eq_true (by first | (with_reducible assumption) | assumption)
                            obtain ⟨ad122, e122, hx122_0⟩ := Kd.at_int (Kd.V_reads' HO_1.out).2.2 0 p122 q122
                            cases e122
                            have qi122 : (0 < x1_12.length) = True := eq_true (by omega)
                            (try rw [show ((0 : Int)).toNat = 0 from rfl] at hx122_0)
                            (try rw [Addr.add_zero'] at hx122_0)
                            replace p122 := eq_true p122
                            replace q122 := eq_true q122
                            have p123 : 0 ≤ ((ji29) : Int) := of_decide_eq_true (by first | (with_reducible assumption) | assumption)
                            have q123 : (ji29) < (x1_12.length : Int) := of_decide_eq_true (by first | (with_reducible assumption) | assumption)
                            obtain ⟨ad123, e123, hx123_0⟩ := Kd.at_int (Kd.V_reads' HO_1.out).2.2 (ji29) p123 q123
                            obtain rfl : ad122 = ad123 := (by injection e123)
                            replace p123 := eq_true p123
                            replace q123 := eq_true q123
                            obtain ⟨Ao45, co45, eo45⟩ := Kd.R_slice HO_0.out
                            subst eo45
                            have q46 : (0 : Int) ≤ ((l0.length : Int) : Int) := of_decide_eq_true (by first | (with_reducible assumption) | assumption)
                            obtain ⟨i046, hi046, _, hsz46, _⟩ := info_parts info5
                            have hcut46 := cut_to (P := Try.prog) 24 5 .i64 Try.underlying24 hi046 Ao45 l0.length co45 0 (by omega) q46 (Kd.R_reads' HO_0.out).2.1
                            have hr46 := Kd.R_take (m := (0 : Int).toNat) HO_0.out (by omega)
                            have hy46 : y135.length = (0 : Int).toNat := (by rw [Ny135.out, List.length_take]; omega)
                            rw [← Ny135.out] at hr46
                            rw [← hy46] at hr46 hcut46
                            clear hy46 hi046 hsz46 HO_0
                            have HO137 := Aside0.mk hr46
                            clear hr46
                            replace q46 := eq_true q46
                            go_wp2_with (first | ((with_reducible refine gate_builtin (b := .append) (xs := #[.tmp 60, .tmp 61]) rfl ?_); (try (refine gate_guard (by rfl) ?_; dsimp only)); at_builtin; refine Kd.R_append_rows (Kd.int .u8) (w0 := w0) w0.heap.size rfl (.tmp 60) (.tmp 61) 24 5 (.int .u8 0) 1 rfl Try.underlying24 info5 rfl (by decide) (by omega) (.slice Ao45 y135.length co45) y135 x1_12 _ _ _ (fun k_ => (P0_ k_ ∨ w.heap.size ≤ k_)) (fun _ => False) rfl rfl ?aO ?aR (fun _ _ h => h) (fun _ h => h.elim) ?aF ?aB ?aS ?aL ?_; (case aR => repeat (first | exact (Kd.V_reads' HO_1.out).2.2 | (with_reducible refine Kd.C_alloc ?_ _) | (with_reducible refine Kd.C_drewN ?_ _) | (with_reducible refine Kd.C_drew ?_))); (case aB => exact (by repeat (first | (with_reducible first | exact HB.out | apply below_alloc | apply pw_below_drewN | apply below_drew1) | exact HB.out))); (case aF => exact (fun k_ hk => (.inr (Nat.le_trans (by first | exact HK.out.1 | exact (show Kept w _ (fun k_ => P0_ k_) from by repeat (first | (with_reducible first | exact HK.out | apply Kept.alloc | apply Kept.drewN | apply Kept.drew) | exact HK.out)).1) hk)))); (case aO => exact (by (with_reducible repeat (first | apply Kd.R_alloc | apply Kd.R_drewN | apply Kd.R_drew)); exact HO137.out)); (case aS => exact (below_size (by repeat (first | (with_reducible first | exact HB.out | apply below_alloc | apply pw_below_drewN | apply below_drew1) | exact HB.out)))); (case aL => have := LMc43.out; omega); intro v139 w47 ho hb hg hat; rw [← Ny138.out] at ho; have n0_ := Aside0.mk (V_afterl_hertzproto_decodeCookieArg (ok := (fun k_ => ((P0_ k_ ∨ P1_ k_) ∨ w.heap.size ≤ k_))) (by (with_reducible repeat (first | apply Kd.V_alloc | apply Kd.V_drewN | apply Kd.V_drew)); exact HO_1.out) hg hat); have n1_ := Aside0.mk (hb); have n2_ := Aside0.mk (Kept.of_grown (S := (fun k_ => P0_ k_)) hg (by repeat (first | (with_reducible first | exact HK.out | apply Kept.alloc | apply Kept.drewN | apply Kept.drew) | exact HK.out)) (fun k_ e_ => (HO137.out.1 k_ e_))); have n3_ := Aside0.mk (ho); clear HO_1; clear HB; clear HK; clear HO137; have HO_1 := n0_; have HB := n1_; have HK := n2_; have HO140 := n3_; clear n0_ n1_ n2_ n3_; clear ho hb hg hat))
                            go_ret
                            exact ⟨_, by first | rfl | (simp [errW_none, errW_some] <;> rfl) | (simp only [← hji29]; first | rfl | (simp [errW_none, errW_some] <;> rfl)) | (simp [*, errW_none, errW_some] <;> rfl), by (with_reducible repeat (first | apply Kd.R_alloc | apply Kd.R_drewN | apply Kd.R_drew)); exact HO140.out, by repeat (first | (with_reducible first | exact HB.out | apply below_alloc | apply pw_below_drewN | apply below_drew1) | exact HB.out), by repeat (first | (with_reducible first | exact HK.out | apply Kept.alloc | apply Kept.drewN | apply Kept.drew) | exact HK.out)⟩
                          · rw [if_neg c43] at H
                            exact absurd H (by simp)
                        · rw [if_neg c42] at H
                          exact absurd H (by simp)
                    · rw [if_neg c31] at H
                      exact absurd H (by simp)
                  · rw [if_neg c30] at H
                    exact absurd H (by simp)
                · rw [if_neg c28] at H
                  have c28b0 : ((rd x1_12 0) == 34) = false := beq_eq_false_iff_ne.mpr c28
                  have c28b1 : ((rd x1_12 0) != 34) = true := bne_iff_ne.mpr c28
                  by_cases c48 : 0 ≤ (l0.length : Int)
                  · rw [if_pos c48] at H
                    have c48b0 := eq_true c48
                    have c48b1 : decide (0 ≤ (l0.length : Int)) = true := decide_eq_true c48
                    clear c48
                    obtain ⟨y141, hy141⟩ : ∃ y_ : List Int, y_ = (l0.take (0 : Int).toNat) := ⟨_, rfl⟩
                    replace H : (if y141.length + x1_12.length < 140737488355328 then (some (y141 ++ x1_12)) else (none)) = some r := by first | (rw [hy141]; with_reducible exact H) | (have H2_ := (Option.bind_some _ _).symm.trans H; rw [hy141]; with_reducible exact H2_) | (have H2_ := (Option.bind_some _ _).symm.trans H; with_reducible exact H2_) | with_reducible exact H | (rw [hy141]; exact H) | exact H
                    have Ny141 := Aside0.mk hy141
                    clear hy141
                    by_cases c49 : y141.length + x1_12.length < 140737488355328
                    · rw [if_pos c49] at H
                      have LMc49 := Aside0.mk c49
                      clear c49
                      obtain ⟨y144, hy144⟩ : ∃ y_ : List Int, y_ = (y141 ++ x1_12) := ⟨_, rfl⟩
                      replace H : (some y144) = some r := by first | (rw [hy144]; with_reducible exact H) | (have H2_ := (Option.bind_some _ _).symm.trans H; rw [hy144]; with_reducible exact H2_) | (have H2_ := (Option.bind_some _ _).symm.trans H; with_reducible exact H2_) | with_reducible exact H | (rw [hy144]; exact H) | exact H
                      have Ny144 := Aside0.mk hy144
                      clear hy144
                      obtain rfl := Option.some.inj H
                      obtain ⟨Ao50, co50, eo50⟩ := Kd.V_slice HO_1.out
                      subst eo50
                      have p122 : 0 ≤ (0 : Int) := (by omega)
                      have q122 : 0 < (x1_12.length : Int) := of_decide_eq_true (by first | (with_reducible assumption) | assumption)
                      obtain ⟨ad122, e122, hx122_0⟩ := Kd.at_int (Kd.V_reads' HO_1.out).2.2 0 p122 q122
                      cases e122
                      have qi122 : (0 < x1_12.length) = True := eq_true (by omega)
                      (try rw [show ((0 : Int)).toNat = 0 from rfl] at hx122_0)
                      (try rw [Addr.add_zero'] at hx122_0)
                      replace p122 := eq_true p122
                      replace q122 := eq_true q122
                      obtain ⟨Ao51, co51, eo51⟩ := Kd.R_slice HO_0.out
                      subst eo51
                      have q52 : (0 : Int) ≤ ((l0.length : Int) : Int) := of_decide_eq_true (by first | (with_reducible assumption) | assumption)
                      obtain ⟨i052, hi052, _, hsz52, _⟩ := info_parts info5
                      have hcut52 := cut_to (P := Try.prog) 24 5 .i64 Try.underlying24 hi052 Ao51 l0.length co51 0 (by omega) q52 (Kd.R_reads' HO_0.out).2.1
                      have hr52 := Kd.R_take (m := (0 : Int).toNat) HO_0.out (by omega)
                      have hy52 : y141.length = (0 : Int).toNat := (by rw [Ny141.out, List.length_take]; omega)
                      rw [← Ny141.out] at hr52
                      rw [← hy52] at hr52 hcut52
                      clear hy52 hi052 hsz52 HO_0
                      have HO143 := Aside0.mk hr52
                      clear hr52
                      replace q52 := eq_true q52
                      go_wp2_with (first | ((with_reducible refine gate_builtin (b := .append) (xs := #[.tmp 60, .tmp 61]) rfl ?_); (try (refine gate_guard (by rfl) ?_; dsimp only)); at_builtin; refine Kd.R_append_rows (Kd.int .u8) (w0 := w0) w0.heap.size rfl (.tmp 60) (.tmp 61) 24 5 (.int .u8 0) 1 rfl Try.underlying24 info5 rfl (by decide) (by omega) (.slice Ao51 y141.length co51) y141 x1_12 _ _ _ (fun k_ => (P0_ k_ ∨ w.heap.size ≤ k_)) (fun _ => False) rfl rfl ?aO ?aR (fun _ _ h => h) (fun _ h => h.elim) ?aF ?aB ?aS ?aL ?_; (case aR => repeat (first | exact (Kd.V_reads' HO_1.out).2.2 | (with_reducible refine Kd.C_alloc ?_ _) | (with_reducible refine Kd.C_drewN ?_ _) | (with_reducible refine Kd.C_drew ?_))); (case aB => exact (by repeat (first | (with_reducible first | exact HB.out | apply below_alloc | apply pw_below_drewN | apply below_drew1) | exact HB.out))); (case aF => exact (fun k_ hk => (.inr (Nat.le_trans (by first | exact HK.out.1 | exact (show Kept w _ (fun k_ => P0_ k_) from by repeat (first | (with_reducible first | exact HK.out | apply Kept.alloc | apply Kept.drewN | apply Kept.drew) | exact HK.out)).1) hk)))); (case aO => exact (by (with_reducible repeat (first | apply Kd.R_alloc | apply Kd.R_drewN | apply Kd.R_drew)); exact HO143.out)); (case aS => exact (below_size (by repeat (first | (with_reducible first | exact HB.out | apply below_alloc | apply pw_below_drewN | apply below_drew1) | exact HB.out)))); (case aL => have := LMc49.out; omega); intro v145 w53 ho hb hg hat; rw [← Ny144.out] at ho; have n0_ := Aside0.mk (V_afterl_hertzproto_decodeCookieArg (ok := (fun k_ => ((P0_ k_ ∨ P1_ k_) ∨ w.heap.size ≤ k_))) (by (with_reducible repeat (first | apply Kd.V_alloc | apply Kd.V_drewN | apply Kd.V_drew)); exact HO_1.out) hg hat); have n1_ := Aside0.mk (hb); have n2_ := Aside0.mk (Kept.of_grown (S := (fun k_ => P0_ k_)) hg (by repeat (first | (with_reducible first | exact HK.out | apply Kept.alloc | apply Kept.drewN | apply Kept.drew) | exact HK.out)) (fun k_ e_ => (HO143.out.1 k_ e_))); have n3_ := Aside0.mk (ho); clear HO_1; clear HB; clear HK; clear HO143; have HO_1 := n0_; have HB := n1_; have HK := n2_; have HO146 := n3_; clear n0_ n1_ n2_ n3_; clear ho hb hg hat))
                      go_ret
                      exact ⟨_, by first | rfl | (simp [errW_none, errW_some] <;> rfl) | (simp [*, errW_none, errW_some] <;> rfl), by (with_reducible repeat (first | apply Kd.R_alloc | apply Kd.R_drewN | apply Kd.R_drew)); exact HO146.out, by repeat (first | (with_reducible first | exact HB.out | apply below_alloc | apply pw_below_drewN | apply below_drew1) | exact HB.out), by repeat (first | (with_reducible first | exact HK.out | apply Kept.alloc | apply Kept.drewN | apply Kept.drew) | exact HK.out)⟩
                    · rw [if_neg c49] at H
                      exact absurd H (by simp)
                  · rw [if_neg c48] at H
                    exact absurd H (by simp)
              · rw [if_neg c27] at H
                exact absurd H (by simp)
            · rw [if_neg c26] at H
              have c26b0 : decide (1 < (x1_12.length : Int)) = false := decide_eq_false c26
              have c26b1 : decide (1 < x1_12.length) = false := decide_eq_false (by omega)
              clear c26
              by_cases c54 : 0 ≤ (l0.length : Int)
              · rw [if_pos c54] at H
                have c54b0 := eq_true c54
                have c54b1 : decide (0 ≤ (l0.length : Int)) = true := decide_eq_true c54
                clear c54
                obtain ⟨y147, hy147⟩ : ∃ y_ : List Int, y_ = (l0.take (0 : Int).toNat) := ⟨_, rfl⟩
                replace H : (if y147.length + x1_12.length < 140737488355328 then (some (y147 ++ x1_12)) else (none)) = some r := by first | (rw [hy147]; with_reducible exact H) | (have H2_ := (Option.bind_some _ _).symm.trans H; rw [hy147]; with_reducible exact H2_) | (have H2_ := (Option.bind_some _ _).symm.trans H; with_reducible exact H2_) | with_reducible exact H | (rw [hy147]; exact H) | exact H
                have Ny147 := Aside0.mk hy147
                clear hy147
                by_cases c55 : y147.length + x1_12.length < 140737488355328
                · rw [if_pos c55] at H
                  have LMc55 := Aside0.mk c55
                  clear c55
                  obtain ⟨y150, hy150⟩ : ∃ y_ : List Int, y_ = (y147 ++ x1_12) := ⟨_, rfl⟩
                  replace H : (some y150) = some r := by first | (rw [hy150]; with_reducible exact H) | (have H2_ := (Option.bind_some _ _).symm.trans H; rw [hy150]; with_reducible exact H2_) | (have H2_ := (Option.bind_some _ _).symm.trans H; with_reducible exact H2_) | with_reducible exact H | (rw [hy150]; exact H) | exact H
                  have Ny150 := Aside0.mk hy150
                  clear hy150
                  obtain rfl := Option.some.inj H
                  obtain ⟨Ao56, co56, eo56⟩ := Kd.V_slice HO_1.out
                  subst eo56
                  obtain ⟨Ao57, co57, eo57⟩ := Kd.R_slice HO_0.out
                  subst eo57
                  have q58 : (0 : Int) ≤ ((l0.length : Int) : Int) := of_decide_eq_true (by first | (with_reducible assumption) | assumption)
                  obtain ⟨i058, hi058, _, hsz58, _⟩ := info_parts info5
                  have hcut58 := cut_to (P := Try.prog) 24 5 .i64 Try.underlying24 hi058 Ao57 l0.length co57 0 (by omega) q58 (Kd.R_reads' HO_0.out).2.1
                  have hr58 := Kd.R_take (m := (0 : Int).toNat) HO_0.out (by omega)
                  have hy58 : y147.length = (0 : Int).toNat := (by rw [Ny147.out, List.length_take]; omega)
                  rw [← Ny147.out] at hr58
                  rw [← hy58] at hr58 hcut58
                  clear hy58 hi058 hsz58 HO_0
                  have HO149 := Aside0.mk hr58
                  clear hr58
                  replace q58 := eq_true q58
                  go_wp2_with (first | ((with_reducible refine gate_builtin (b := .append) (xs := #[.tmp 60, .tmp 61]) rfl ?_); (try (refine gate_guard (by rfl) ?_; dsimp only)); at_builtin; refine Kd.R_append_rows (Kd.int .u8) (w0 := w0) w0.heap.size rfl (.tmp 60) (.tmp 61) 24 5 (.int .u8 0) 1 rfl Try.underlying24 info5 rfl (by decide) (by omega) (.slice Ao57 y147.length co57) y147 x1_12 _ _ _ (fun k_ => (P0_ k_ ∨ w.heap.size ≤ k_)) (fun _ => False) rfl rfl ?aO ?aR (fun _ _ h => h) (fun _ h => h.elim) ?aF ?aB ?aS ?aL ?_; (case aR => repeat (first | exact (Kd.V_reads' HO_1.out).2.2 | (with_reducible refine Kd.C_alloc ?_ _) | (with_reducible refine Kd.C_drewN ?_ _) | (with_reducible refine Kd.C_drew ?_))); (case aB => exact (by repeat (first | (with_reducible first | exact HB.out | apply below_alloc | apply pw_below_drewN | apply below_drew1) | exact HB.out))); (case aF => exact (fun k_ hk => (.inr (Nat.le_trans (by first | exact HK.out.1 | exact (show Kept w _ (fun k_ => P0_ k_) from by repeat (first | (with_reducible first | exact HK.out | apply Kept.alloc | apply Kept.drewN | apply Kept.drew) | exact HK.out)).1) hk)))); (case aO => exact (by (with_reducible repeat (first | apply Kd.R_alloc | apply Kd.R_drewN | apply Kd.R_drew)); exact HO149.out)); (case aS => exact (below_size (by repeat (first | (with_reducible first | exact HB.out | apply below_alloc | apply pw_below_drewN | apply below_drew1) | exact HB.out)))); (case aL => have := LMc55.out; omega); intro v151 w59 ho hb hg hat; rw [← Ny150.out] at ho; have n0_ := Aside0.mk (V_afterl_hertzproto_decodeCookieArg (ok := (fun k_ => ((P0_ k_ ∨ P1_ k_) ∨ w.heap.size ≤ k_))) (by (with_reducible repeat (first | apply Kd.V_alloc | apply Kd.V_drewN | apply Kd.V_drew)); exact HO_1.out) hg hat); have n1_ := Aside0.mk (hb); have n2_ := Aside0.mk (Kept.of_grown (S := (fun k_ => P0_ k_)) hg (by repeat (first | (with_reducible first | exact HK.out | apply Kept.alloc | apply Kept.drewN | apply Kept.drew) | exact HK.out)) (fun k_ e_ => (HO149.out.1 k_ e_))); have n3_ := Aside0.mk (ho); clear HO_1; clear HB; clear HK; clear HO149; have HO_1 := n0_; have HB := n1_; have HK := n2_; have HO152 := n3_; clear n0_ n1_ n2_ n3_; clear ho hb hg hat))
                  go_ret
                  exact ⟨_, by first | rfl | (simp [errW_none, errW_some] <;> rfl) | (simp [*, errW_none, errW_some] <;> rfl), by (with_reducible repeat (first | apply Kd.R_alloc | apply Kd.R_drewN | apply Kd.R_drew)); exact HO152.out, by repeat (first | (with_reducible first | exact HB.out | apply below_alloc | apply pw_below_drewN | apply below_drew1) | exact HB.out), by repeat (first | (with_reducible first | exact HK.out | apply Kept.alloc | apply Kept.drewN | apply Kept.drew) | exact HK.out)⟩
                · rw [if_neg c55] at H
                  exact absurd H (by simp)
              · rw [if_neg c54] at H
                exact absurd H (by simp)
          · replace c25 := Bool.eq_false_iff.mpr c25
            subst c25
            have H1 : (if 0 ≤ (l0.length : Int) then ((some (l0.take (0 : Int).toNat : List Int)).bind fun y153 => (if y153.length + x1_12.length < 140737488355328 then (some (y153 ++ x1_12)) else (none))) else (none)) = some r := by rw [if_neg (show ¬ (false = true) by decide)] at H; exact H
            clear H
            have H := H1
            clear H1
            by_cases c60 : 0 ≤ (l0.length : Int)
            · rw [if_pos c60] at H
              have c60b0 := eq_true c60
              have c60b1 : decide (0 ≤ (l0.length : Int)) = true := decide_eq_true c60
              clear c60
              obtain ⟨y153, hy153⟩ : ∃ y_ : List Int, y_ = (l0.take (0 : Int).toNat) := ⟨_, rfl⟩
              replace H : (if y153.length + x1_12.length < 140737488355328 then (some (y153 ++ x1_12)) else (none)) = some r := by first | (rw [hy153]; with_reducible exact H) | (have H2_ := (Option.bind_some _ _).symm.trans H; rw [hy153]; with_reducible exact H2_) | (have H2_ := (Option.bind_some _ _).symm.trans H; with_reducible exact H2_) | with_reducible exact H | (rw [hy153]; exact H) | exact H
              have Ny153 := Aside0.mk hy153
              clear hy153
              by_cases c61 : y153.length + x1_12.length < 140737488355328
              · rw [if_pos c61] at H
                have LMc61 := Aside0.mk c61
                clear c61
                obtain ⟨y156, hy156⟩ : ∃ y_ : List Int, y_ = (y153 ++ x1_12) := ⟨_, rfl⟩
                replace H : (some y156) = some r := by first | (rw [hy156]; with_reducible exact H) | (have H2_ := (Option.bind_some _ _).symm.trans H; rw [hy156]; with_reducible exact H2_) | (have H2_ := (Option.bind_some _ _).symm.trans H; with_reducible exact H2_) | with_reducible exact H | (rw [hy156]; exact H) | exact H
                have Ny156 := Aside0.mk hy156
                clear hy156
                obtain rfl := Option.some.inj H
                obtain ⟨Ao62, co62, eo62⟩ := Kd.R_slice HO_0.out
                subst eo62
                have q63 : (0 : Int) ≤ ((l0.length : Int) : Int) := of_decide_eq_true (by first | (with_reducible assumption) | assumption)
                obtain ⟨i063, hi063, _, hsz63, _⟩ := info_parts info5
                have hcut63 := cut_to (P := Try.prog) 24 5 .i64 Try.underlying24 hi063 Ao62 l0.length co62 0 (by omega) q63 (Kd.R_reads' HO_0.out).2.1
                have hr63 := Kd.R_take (m := (0 : Int).toNat) HO_0.out (by omega)
                have hy63 : y153.length = (0 : Int).toNat := (by rw [Ny153.out, List.length_take]; omega)
                rw [← Ny153.out] at hr63
                rw [← hy63] at hr63 hcut63
                clear hy63 hi063 hsz63 HO_0
                have HO155 := Aside0.mk hr63
                clear hr63
                replace q63 := eq_true q63
                obtain ⟨Ao65, co65, eo65⟩ := Kd.V_slice HO_1.out
                subst eo65
                go_wp2_with (first | ((with_reducible refine gate_builtin (b := .append) (xs := #[.tmp 60, .tmp 61]) rfl ?_); (try (refine gate_guard (by rfl) ?_; dsimp only)); at_builtin; refine Kd.R_append_rows (Kd.int .u8) (w0 := w0) w0.heap.size rfl (.tmp 60) (.tmp 61) 24 5 (.int .u8 0) 1 rfl Try.underlying24 info5 rfl (by decide) (by omega) (.slice Ao62 y153.length co62) y153 x1_12 _ _ _ (fun k_ => (P0_ k_ ∨ w.heap.size ≤ k_)) (fun _ => False) rfl rfl ?aO ?aR (fun _ _ h => h) (fun _ h => h.elim) ?aF ?aB ?aS ?aL ?_; (case aR => repeat (first | exact (Kd.V_reads' HO_1.out).2.2 | (with_reducible refine Kd.C_alloc ?_ _) | (with_reducible refine Kd.C_drewN ?_ _) | (with_reducible refine Kd.C_drew ?_))); (case aB => exact (by repeat (first | (with_reducible first | exact HB.out | apply below_alloc | apply pw_below_drewN | apply below_drew1) | exact HB.out))); (case aF => exact (fun k_ hk => (.inr (Nat.le_trans (by first | exact HK.out.1 | exact (show Kept w _ (fun k_ => P0_ k_) from by repeat (first | (with_reducible first | exact HK.out | apply Kept.alloc | apply Kept.drewN | apply Kept.drew) | exact HK.out)).1) hk)))); (case aO => exact (by (with_reducible repeat (first | apply Kd.R_alloc | apply Kd.R_drewN | apply Kd.R_drew)); exact HO155.out)); (case aS => exact (below_size (by repeat (first | (with_reducible first | exact HB.out | apply below_alloc | apply pw_below_drewN | apply below_drew1) | exact HB.out)))); (case aL => have := LMc61.out; omega); intro v157 w64 ho hb hg hat; rw [← Ny156.out] at ho; have n0_ := Aside0.mk (V_afterl_hertzproto_decodeCookieArg (ok := (fun k_ => ((P0_ k_ ∨ P1_ k_) ∨ w.heap.size ≤ k_))) (by (with_reducible repeat (first | apply Kd.V_alloc | apply Kd.V_drewN | apply Kd.V_drew)); exact HO_1.out) hg hat); have n1_ := Aside0.mk (hb); have n2_ := Aside0.mk (Kept.of_grown (S := (fun k_ => P0_ k_)) hg (by repeat (first | (with_reducible first | exact HK.out | apply Kept.alloc | apply Kept.drewN | apply Kept.drew) | exact HK.out)) (fun k_ e_ => (HO155.out.1 k_ e_))); have n3_ := Aside0.mk (ho); clear HO_1; clear HB; clear HK; clear HO155; have HO_1 := n0_; have HB := n1_; have HK := n2_; have HO158 := n3_; clear n0_ n1_ n2_ n3_; clear ho hb hg hat))
                go_ret
                exact ⟨_, by first | rfl | (simp [errW_none, errW_some] <;> rfl) | (simp [*, errW_none, errW_some] <;> rfl), by (with_reducible repeat (first | apply Kd.R_alloc | apply Kd.R_drewN | apply Kd.R_drew)); exact HO158.out, by repeat (first | (with_reducible first | exact HB.out | apply below_alloc | apply pw_below_drewN | apply below_drew1) | exact HB.out), by repeat (first | (with_reducible first | exact HK.out | apply Kept.alloc | apply Kept.drewN | apply Kept.drew) | exact HK.out)⟩
              · rw [if_neg c61] at H
                exact absurd H (by simp)
            · rw [if_neg c60] at H
              exact absurd H (by simp)

end Go.Proofs.Ytipmmjbjgbfgjaa.Q
