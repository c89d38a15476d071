import Derived.Test.YtjklempjljikpaaQ0
import Derived.Test.YtjklempjljikpaaQ12
-- Written by a program of this session out of the translation, with the kit's printer. Not trusted: Lean checks it.
namespace Go.Proofs.Ytjklempjljikpaa.Q
open Go.RowKit Go.Proofs.YtjklempjljikpaaW.PrintWords Go.Proofs.YtjklempjljikpaaW.PrintLast Go.Proofs.YtjklempjljikpaaW.PrintMore
attribute [local go_sem] max2_int min2_int max_two min_two max_three min_three max_four min_four   -- for this text's walks alone
set_option linter.unusedVariables false
set_option linter.unusedSimpArgs false

/-! ### laws_few: function 27 -/
def laws_few.l0 : Nat → List (S36) → List (S36) → Int → Int → Option (Bool)
  | 0, _, _, _, _ => none
  | k + 1, x0, x5, x6, x7 => if x7 < x6 then (if 0 ≤ x7 then (if x7 < (x5.length : Int) then (if (((rd_T36 x5 x7).f0).size : Int) > 200 then (some false) else (if (((rd_T36 x5 x7).f1).size : Int) > 200 then (some false) else (laws_few.l0 k x0 x5 x6 (wrap64 (x7 + 1))))) else (none)) else (none)) else (some (decide ((x0.length : Int) ≤ 20)))
def laws_few.f (k : Nat) (l0 : List (S36)) : Option (Bool) := laws_few.l0 k l0 l0 (l0.length : Int) 0
theorem laws_few.mono_l : ∀ k, (∀ y0 y1 y2 y3, LeO (laws_few.l0 k y0 y1 y2 y3) (laws_few.l0 (k + 1) y0 y1 y2 y3))
  | 0 => fun _ _ _ _ r h => by simp [laws_few.l0] at h
  | k + 1 => by
    have ih0 := laws_few.mono_l k
    · intro y0 y1 y2 y3
      unfold laws_few.l0
      repeat' first
      | (with_reducible exact ih0 _ _ _ _)
      | (with_reducible exact LeO.refl _)
      | (with_reducible exact LeO.none _)
      | (with_reducible refine LeO.ite ?_ ?_)
      | (with_reducible refine LeO.bind ?_ (fun _ => ?_))
      | exact ih0 _ _ _ _
      | exact LeO.none _
      | refine LeO.ite ?_ ?_
      | refine LeO.bind ?_ (fun _ => ?_)
theorem laws_few.mono : ∀ a0 k, LeO (laws_few.f k a0) (laws_few.f (k + 1) a0) := by
  intro a0 k
  have ih0 := laws_few.mono_l k
  unfold laws_few.f
  repeat' first
      | (with_reducible exact ih0 _ _ _ _)
      | (with_reducible exact LeO.refl _)
      | (with_reducible exact LeO.none _)
      | (with_reducible refine LeO.ite ?_ ?_)
      | (with_reducible refine LeO.bind ?_ (fun _ => ?_))
      | exact ih0 _ _ _ _
      | exact LeO.none _
      | refine LeO.ite ?_ ?_
      | refine LeO.bind ?_ (fun _ => ?_)
set_option maxHeartbeats 8000000 in
set_option maxRecDepth 100000 in
theorem laws_few.calls (k : Nat) (A0 : Option Addr) (c0 : Nat) (l0 : List (S36)) (r : Bool) (w : World) (hr0 : Kd.C k36 w A0 l0.length l0) (hc0 : l0.length ≤ c0) (h : laws_few.f k l0 = some r) :
    Calls Try.prog 27 #[.slice A0 l0.length c0] w fun e w' => e = .returned (.bool r) ∧ Below w.heap.size w w' := by
  have hu36 := Try.underlying36
  have HR0 := Aside0.mk hr0
  have HC0 := Aside0.mk hc0
  clear hr0 hc0
  have HB := Aside0.mk (Below.refl w.heap.size w)
  have H : (laws_few.l0 k l0 l0 (l0.length : Int) 0) = some r := h
  clear h
  have H' := Aside0.mk H
  clear H
  go_enter Try.func27, Try.ntmps27
  go_wp2
  go_loopg [7] k (fun kq v7 w' => ∃ (x7_1 : Int), v7 = .int .i64 x7_1 ∧ Aside0 (laws_few.l0 kq l0 l0 (l0.length : Int) x7_1 = some r) ∧ Aside0 (kq ≤ k) ∧ Aside0 (Below w.heap.size w w'))
  case atStart => exact ⟨(0), (by first | rfl | (simp; done) | (simp [*]; done) | (simp [Go.Proofs.YtjklempjljikpaaX.isEmpty_ne]; done)), H', ⟨Nat.le_refl _⟩, ⟨by repeat (first | (with_reducible first | exact HB.out | apply below_alloc | apply pw_below_drewN | apply below_drew1) | exact HB.out)⟩⟩
  case round =>
    clear H'
    obtain ⟨x7_1, rfl, HA, HK1, HB⟩ := hrel
    cases gk with
    | zero => exact absurd HA.out (by simp [laws_few.l0])
    | succ k1 =>
      have H := HA.out
      clear HA
      simp only [laws_few.l0] at H
      by_cases c2 : x7_1 < (l0.length : Int)
      · rw [if_pos c2] at H
        have c2b0 : decide (x7_1 < (l0.length : Int)) = true := decide_eq_true c2
        clear c2
        by_cases c3 : 0 ≤ x7_1
        · rw [if_pos c3] at H
          have c3b0 : decide (0 ≤ x7_1) = true := decide_eq_true c3
          clear c3
          by_cases c4 : x7_1 < (l0.length : Int)
          · rw [if_pos c4] at H
            have c4b0 : decide (x7_1 < (l0.length : Int)) = true := decide_eq_true c4
            clear c4
            by_cases c5 : (((rd_T36 l0 x7_1).f0).size : Int) > 200
            · rw [if_pos c5] at H
              have c5b0 : decide (200 < (((rd_T36 l0 x7_1).f0).size : Int)) = true := decide_eq_true c5
              have c5b1 : decide (200 < ((rd_T36 l0 x7_1).f0).size) = true := decide_eq_true (by omega)
              clear c5
              obtain rfl := Option.some.inj H
              have p240 : 0 ≤ (x7_1 : Int) := of_decide_eq_true (by first | (with_reducible assumption) | assumption)
              have q240 : x7_1 < (l0.length : Int) := of_decide_eq_true (by first | (with_reducible assumption) | assumption)
              obtain ⟨ad240, e240, hx240_0, hx240_1, hx240_2⟩ := at_T36 HR0.out x7_1 p240 q240
              cases e240
              replace hx240_0 := (HB.out.cell (World.block_lt_of_cell? w _ hx240_0)).trans hx240_0
              replace hx240_1 := (HB.out.cell (World.block_lt_of_cell? w _ hx240_1)).trans hx240_1
              replace hx240_2 := (HB.out.cell (World.block_lt_of_cell? w _ hx240_2)).trans hx240_2
              replace p240 := eq_true p240
              replace q240 := eq_true q240
              go_wp2_with (first | ((with_reducible refine gate_dst (N := 4) rfl ?_); (try (refine gate_guard (by rfl) ?_; dsimp only)); refine box_event ?hg (N := 4) ?hd (cs := #[.string (⟨#[]⟩ : ByteArray), .string (⟨#[]⟩ : ByteArray), .bool false]) (t := 36) ?hr ?_; (case hd => rfl); (case hg => rfl); (case hr => first | (go_simp; done) | (go_simp; rfl)); intro gb241 hg w6 hbox hb; have n0_ := Aside0.mk (below_step (by repeat (first | (with_reducible first | exact HB.out | apply below_alloc | apply pw_below_drewN | apply below_drew1) | exact HB.out)) hb); have n1_ := Aside0.mk (hbox); have n2_ := Aside0.mk ((by rw [hg]; exact (below_size (by repeat (first | (with_reducible first | exact HB.out | apply below_alloc | apply pw_below_drewN | apply below_drew1) | exact HB.out))) : w.heap.size ≤ gb241)); have n3_ := Aside0.mk ((by rw [hg]; exact (below_size (by repeat (first | (with_reducible first | exact HB.out | apply below_alloc | apply pw_below_drewN | apply below_drew1) | exact HB.out))) : w.heap.size ≤ gb241)); clear HB; have HB := n0_; have BK241 := n1_; have GW241 := n2_; have GE241 := n3_; clear n0_ n1_ n2_ n3_; clear hb hbox hg; have hcz7_0 : w6.cell? ⟨gb241, 0, none⟩ = some (.string (⟨#[]⟩ : ByteArray)) := (blk_cell BK241.out 0).trans rfl; have hcz7_1 : w6.cell? ⟨gb241, 1, none⟩ = some (.string (⟨#[]⟩ : ByteArray)) := (blk_cell BK241.out 1).trans rfl; have hcz7_2 : w6.cell? ⟨gb241, 2, none⟩ = some (.bool false) := (blk_cell BK241.out 2).trans rfl; have hfz7_0 := blk_frozen BK241.out 0; have hfz7_1 := blk_frozen BK241.out 1; have hfz7_2 := blk_frozen BK241.out 2))
              go_ret
              exact ⟨by first | rfl | (simp [errW_none, errW_some] <;> rfl) | (simp [*, errW_none, errW_some] <;> rfl), by repeat (first | (with_reducible first | exact HB.out | apply below_alloc | apply pw_below_drewN | apply below_drew1 | refine below_set ?_ GE241.out) | exact HB.out)⟩
            · rw [if_neg c5] at H
              have c5b0 : decide (200 < (((rd_T36 l0 x7_1).f0).size : Int)) = false := decide_eq_false c5
              have c5b1 : decide (200 < ((rd_T36 l0 x7_1).f0).size) = false := decide_eq_false (by omega)
              clear c5
              by_cases c8 : (((rd_T36 l0 x7_1).f1).size : Int) > 200
              · rw [if_pos c8] at H
                have c8b0 : decide (200 < (((rd_T36 l0 x7_1).f1).size : Int)) = true := decide_eq_true c8
                have c8b1 : decide (200 < ((rd_T36 l0 x7_1).f1).size) = true := decide_eq_true (by omega)
                clear c8
                obtain rfl := Option.some.inj H
                have p240 : 0 ≤ (x7_1 : Int) := of_decide_eq_true (by first | (with_reducible assumption) | assumption)
                have q240 : x7_1 < (l0.length : Int) := of_decide_eq_true (by first | (with_reducible assumption) | assumption)
                obtain ⟨ad240, e240, hx240_0, hx240_1, hx240_2⟩ := at_T36 HR0.out x7_1 p240 q240
                cases e240
                replace hx240_0 := (HB.out.cell (World.block_lt_of_cell? w _ hx240_0)).trans hx240_0
                replace hx240_1 := (HB.out.cell (World.block_lt_of_cell? w _ hx240_1)).trans hx240_1
                replace hx240_2 := (HB.out.cell (World.block_lt_of_cell? w _ hx240_2)).trans hx240_2
                replace p240 := eq_true p240
                replace q240 := eq_true q240
                go_wp2_with (first | ((with_reducible refine gate_dst (N := 4) rfl ?_); (try (refine gate_guard (by rfl) ?_; dsimp only)); refine box_event ?hg (N := 4) ?hd (cs := #[.string (⟨#[]⟩ : ByteArray), .string (⟨#[]⟩ : ByteArray), .bool false]) (t := 36) ?hr ?_; (case hd => rfl); (case hg => rfl); (case hr => first | (go_simp; done) | (go_simp; rfl)); intro gb241 hg w9 hbox hb; have n0_ := Aside0.mk (below_step (by repeat (first | (with_reducible first | exact HB.out | apply below_alloc | apply pw_below_drewN | apply below_drew1) | exact HB.out)) hb); have n1_ := Aside0.mk (hbox); have n2_ := Aside0.mk ((by rw [hg]; exact (below_size (by repeat (first | (with_reducible first | exact HB.out | apply below_alloc | apply pw_below_drewN | apply below_drew1) | exact HB.out))) : w.heap.size ≤ gb241)); have n3_ := Aside0.mk ((by rw [hg]; exact (below_size (by repeat (first | (with_reducible first | exact HB.out | apply below_alloc | apply pw_below_drewN | apply below_drew1) | exact HB.out))) : w.heap.size ≤ gb241)); clear HB; have HB := n0_; have BK241 := n1_; have GW241 := n2_; have GE241 := n3_; clear n0_ n1_ n2_ n3_; clear hb hbox hg; have hcz10_0 : w9.cell? ⟨gb241, 0, none⟩ = some (.string (⟨#[]⟩ : ByteArray)) := (blk_cell BK241.out 0).trans rfl; have hcz10_1 : w9.cell? ⟨gb241, 1, none⟩ = some (.string (⟨#[]⟩ : ByteArray)) := (blk_cell BK241.out 1).trans rfl; have hcz10_2 : w9.cell? ⟨gb241, 2, none⟩ = some (.bool false) := (blk_cell BK241.out 2).trans rfl; have hfz10_0 := blk_frozen BK241.out 0; have hfz10_1 := blk_frozen BK241.out 1; have hfz10_2 := blk_frozen BK241.out 2))
                go_ret
                exact ⟨by first | rfl | (simp [errW_none, errW_some] <;> rfl) | (simp [*, errW_none, errW_some] <;> rfl), by repeat (first | (with_reducible first | exact HB.out | apply below_alloc | apply pw_below_drewN | apply below_drew1 | refine below_set ?_ GE241.out) | exact HB.out)⟩
              · rw [if_neg c8] at H
                have c8b0 : decide (200 < (((rd_T36 l0 x7_1).f1).size : Int)) = false := decide_eq_false c8
                have c8b1 : decide (200 < ((rd_T36 l0 x7_1).f1).size) = false := decide_eq_false (by omega)
                clear c8
                have H' := Aside0.mk H
                clear H
                have p240 : 0 ≤ (x7_1 : Int) := of_decide_eq_true (by first | (with_reducible assumption) | assumption)
                have q240 : x7_1 < (l0.length : Int) := of_decide_eq_true (by first | (with_reducible assumption) | assumption)
                obtain ⟨ad240, e240, hx240_0, hx240_1, hx240_2⟩ := at_T36 HR0.out x7_1 p240 q240
                cases e240
                replace hx240_0 := (HB.out.cell (World.block_lt_of_cell? w _ hx240_0)).trans hx240_0
                replace hx240_1 := (HB.out.cell (World.block_lt_of_cell? w _ hx240_1)).trans hx240_1
                replace hx240_2 := (HB.out.cell (World.block_lt_of_cell? w _ hx240_2)).trans hx240_2
                replace p240 := eq_true p240
                replace q240 := eq_true q240
                go_wp2_with (first | ((with_reducible refine gate_dst (N := 4) rfl ?_); (try (refine gate_guard (by rfl) ?_; dsimp only)); refine box_event ?hg (N := 4) ?hd (cs := #[.string (⟨#[]⟩ : ByteArray), .string (⟨#[]⟩ : ByteArray), .bool false]) (t := 36) ?hr ?_; (case hd => rfl); (case hg => rfl); (case hr => first | (go_simp; done) | (go_simp; rfl)); intro gb241 hg w11 hbox hb; have n0_ := Aside0.mk (below_step (by repeat (first | (with_reducible first | exact HB.out | apply below_alloc | apply pw_below_drewN | apply below_drew1) | exact HB.out)) hb); have n1_ := Aside0.mk (hbox); have n2_ := Aside0.mk ((by rw [hg]; exact (below_size (by repeat (first | (with_reducible first | exact HB.out | apply below_alloc | apply pw_below_drewN | apply below_drew1) | exact HB.out))) : w.heap.size ≤ gb241)); have n3_ := Aside0.mk ((by rw [hg]; exact (below_size (by repeat (first | (with_reducible first | exact HB.out | apply below_alloc | apply pw_below_drewN | apply below_drew1) | exact HB.out))) : w.heap.size ≤ gb241)); clear HB; have HB := n0_; have BK241 := n1_; have GW241 := n2_; have GE241 := n3_; clear n0_ n1_ n2_ n3_; clear hb hbox hg; have hcz12_0 : w11.cell? ⟨gb241, 0, none⟩ = some (.string (⟨#[]⟩ : ByteArray)) := (blk_cell BK241.out 0).trans rfl; have hcz12_1 : w11.cell? ⟨gb241, 1, none⟩ = some (.string (⟨#[]⟩ : ByteArray)) := (blk_cell BK241.out 1).trans rfl; have hcz12_2 : w11.cell? ⟨gb241, 2, none⟩ = some (.bool false) := (blk_cell BK241.out 2).trans rfl; have hfz12_0 := blk_frozen BK241.out 0; have hfz12_1 := blk_frozen BK241.out 1; have hfz12_2 := blk_frozen BK241.out 2))
                go_roundg k1
                case measure => have := HK1.out; omega
                case rel => exact ⟨(wrap64 (x7_1 + 1)), (by first | rfl | (simp; done) | (simp [*]; done) | (simp [Go.Proofs.YtjklempjljikpaaX.isEmpty_ne]; done)), H', ⟨by have := HK1.out; omega⟩, ⟨by repeat (first | (with_reducible first | exact HB.out | apply below_alloc | apply pw_below_drewN | apply below_drew1 | refine below_set ?_ GE241.out) | exact HB.out)⟩⟩
          · rw [if_neg c4] at H
            exact absurd H (by simp)
        · rw [if_neg c3] at H
          exact absurd H (by simp)
      · rw [if_neg c2] at H
        have c2b0 : decide (x7_1 < (l0.length : Int)) = false := decide_eq_false c2
        clear c2
        obtain rfl := Option.some.inj H
        go_wp2
        go_ret
        exact ⟨by first | rfl | (simp [errW_none, errW_some] <;> rfl) | (simp [*, errW_none, errW_some] <;> rfl), by repeat (first | (with_reducible first | exact HB.out | apply below_alloc | apply pw_below_drewN | apply below_drew1) | exact HB.out)⟩

end Go.Proofs.Ytjklempjljikpaa.Q

-- Written by a program of this session out of the translation, with the kit's printer. Not trusted: Lean checks it.
namespace Go.Proofs.Ytjklempjljikpaa.Q
open Go.RowKit Go.Proofs.YtjklempjljikpaaW.PrintWords Go.Proofs.YtjklempjljikpaaW.PrintLast Go.Proofs.YtjklempjljikpaaW.PrintMore
attribute [local go_sem] max2_int min2_int max_two min_two max_three min_three max_four min_four   -- for this text's walks alone
set_option linter.unusedVariables false
set_option linter.unusedSimpArgs false

/-! ### spec_unreserved: function 69 -/
def spec_unreserved.f (a0 : Int) : Option (Bool) := if a0 ≥ 97 then (if a0 ≤ 122 then (some true) else (if a0 ≥ 65 then (if a0 ≤ 90 then (some true) else (if a0 ≥ 48 then (if a0 ≤ 57 then (some true) else (if a0 = 45 then (some true) else (if a0 = 46 then (some true) else (if a0 = 95 then (some true) else (some (a0 == 126)))))) else (if a0 = 45 then (some true) else (if a0 = 46 then (some true) else (if a0 = 95 then (some true) else (some (a0 == 126))))))) else (if a0 ≥ 48 then (if a0 ≤ 57 then (some true) else (if a0 = 45 then (some true) else (if a0 = 46 then (some true) else (if a0 = 95 then (some true) else (some (a0 == 126)))))) else (if a0 = 45 then (some true) else (if a0 = 46 then (some true) else (if a0 = 95 then (some true) else (some (a0 == 126)))))))) else (if a0 ≥ 65 then (if a0 ≤ 90 then (some true) else (if a0 ≥ 48 then (if a0 ≤ 57 then (some true) else (if a0 = 45 then (some true) else (if a0 = 46 then (some true) else (if a0 = 95 then (some true) else (some (a0 == 126)))))) else (if a0 = 45 then (some true) else (if a0 = 46 then (some true) else (if a0 = 95 then (some true) else (some (a0 == 126))))))) else (if a0 ≥ 48 then (if a0 ≤ 57 then (some true) else (if a0 = 45 then (some true) else (if a0 = 46 then (some true) else (if a0 = 95 then (some true) else (some (a0 == 126)))))) else (if a0 = 45 then (some true) else (if a0 = 46 then (some true) else (if a0 = 95 then (some true) else (some (a0 == 126)))))))
set_option maxHeartbeats 8000000 in
set_option maxRecDepth 100000 in
theorem spec_unreserved.calls (a0 : Int) (r : Bool) (w : World) (h : spec_unreserved.f a0 = some r) :
    Calls Try.prog 69 #[.int .u8 a0] w fun e w' => e = .returned (.bool r) ∧ Drawn0 w w' := by
  have H : (if a0 ≥ 97 then (if a0 ≤ 122 then (some true) else (if a0 ≥ 65 then (if a0 ≤ 90 then (some true) else (if a0 ≥ 48 then (if a0 ≤ 57 then (some true) else (if a0 = 45 then (some true) else (if a0 = 46 then (some true) else (if a0 = 95 then (some true) else (some (a0 == 126)))))) else (if a0 = 45 then (some true) else (if a0 = 46 then (some true) else (if a0 = 95 then (some true) else (some (a0 == 126))))))) else (if a0 ≥ 48 then (if a0 ≤ 57 then (some true) else (if a0 = 45 then (some true) else (if a0 = 46 then (some true) else (if a0 = 95 then (some true) else (some (a0 == 126)))))) else (if a0 = 45 then (some true) else (if a0 = 46 then (some true) else (if a0 = 95 then (some true) else (some (a0 == 126)))))))) else (if a0 ≥ 65 then (if a0 ≤ 90 then (some true) else (if a0 ≥ 48 then (if a0 ≤ 57 then (some true) else (if a0 = 45 then (some true) else (if a0 = 46 then (some true) else (if a0 = 95 then (some true) else (some (a0 == 126)))))) else (if a0 = 45 then (some true) else (if a0 = 46 then (some true) else (if a0 = 95 then (some true) else (some (a0 == 126))))))) else (if a0 ≥ 48 then (if a0 ≤ 57 then (some true) else (if a0 = 45 then (some true) else (if a0 = 46 then (some true) else (if a0 = 95 then (some true) else (some (a0 == 126)))))) else (if a0 = 45 then (some true) else (if a0 = 46 then (some true) else (if a0 = 95 then (some true) else (some (a0 == 126)))))))) = some r := h
  clear h
  by_cases c2 : a0 ≥ 97
  · rw [if_pos c2] at H
    have c2b0 : decide (97 ≤ a0) = true := decide_eq_true c2
    clear c2
    by_cases c3 : a0 ≤ 122
    · rw [if_pos c3] at H
      have c3b0 : decide (a0 ≤ 122) = true := decide_eq_true c3
      clear c3
      obtain rfl := Option.some.inj H
      go_enter Try.func69, Try.ntmps69
      go_wp2
      go_ret
      exact ⟨by first | rfl | (simp; done) | (simp [*]; done) | (simp [Go.Proofs.YtjklempjljikpaaX.isEmpty_ne]; done), by repeat (first | exact Drawn0.refl _ | apply Drawn0.step)⟩
    · rw [if_neg c3] at H
      have c3b0 : decide (a0 ≤ 122) = false := decide_eq_false c3
      clear c3
      by_cases c4 : a0 ≥ 65
      · rw [if_pos c4] at H
        have c4b0 : decide (65 ≤ a0) = true := decide_eq_true c4
        clear c4
        by_cases c5 : a0 ≤ 90
        · rw [if_pos c5] at H
          have c5b0 : decide (a0 ≤ 90) = true := decide_eq_true c5
          clear c5
          obtain rfl := Option.some.inj H
          go_enter Try.func69, Try.ntmps69
          go_wp2
          go_ret
          exact ⟨by first | rfl | (simp; done) | (simp [*]; done) | (simp [Go.Proofs.YtjklempjljikpaaX.isEmpty_ne]; done), by repeat (first | exact Drawn0.refl _ | apply Drawn0.step)⟩
        · rw [if_neg c5] at H
          have c5b0 : decide (a0 ≤ 90) = false := decide_eq_false c5
          clear c5
          by_cases c6 : a0 ≥ 48
          · rw [if_pos c6] at H
            have c6b0 : decide (48 ≤ a0) = true := decide_eq_true c6
            clear c6
            by_cases c7 : a0 ≤ 57
            · rw [if_pos c7] at H
              have c7b0 : decide (a0 ≤ 57) = true := decide_eq_true c7
              clear c7
              obtain rfl := Option.some.inj H
              go_enter Try.func69, Try.ntmps69
              go_wp2
              go_ret
              exact ⟨by first | rfl | (simp; done) | (simp [*]; done) | (simp [Go.Proofs.YtjklempjljikpaaX.isEmpty_ne]; done), by repeat (first | exact Drawn0.refl _ | apply Drawn0.step)⟩
            · rw [if_neg c7] at H
              have c7b0 : decide (a0 ≤ 57) = false := decide_eq_false c7
              clear c7
              by_cases c8 : a0 = 45
              · rw [if_pos c8] at H
                have c8b0 : (a0 == 45) = true := beq_iff_eq.mpr c8
                have c8b1 : (a0 != 45) = false := bne_eq_false_iff_eq.mpr c8
                clear c8
                obtain rfl := Option.some.inj H
                go_enter Try.func69, Try.ntmps69
                go_wp2
                go_ret
                exact ⟨by first | rfl | (simp; done) | (simp [*]; done) | (simp [Go.Proofs.YtjklempjljikpaaX.isEmpty_ne]; done), by repeat (first | exact Drawn0.refl _ | apply Drawn0.step)⟩
              · rw [if_neg c8] at H
                have c8b0 : (a0 == 45) = false := beq_eq_false_iff_ne.mpr c8
                have c8b1 : (a0 != 45) = true := bne_iff_ne.mpr c8
                by_cases c9 : a0 = 46
                · rw [if_pos c9] at H
                  have c9b0 : (a0 == 46) = true := beq_iff_eq.mpr c9
                  have c9b1 : (a0 != 46) = false := bne_eq_false_iff_eq.mpr c9
                  clear c9
                  obtain rfl := Option.some.inj H
                  go_enter Try.func69, Try.ntmps69
                  go_wp2
                  go_ret
                  exact ⟨by first | rfl | (simp; done) | (simp [*]; done) | (simp [Go.Proofs.YtjklempjljikpaaX.isEmpty_ne]; done), by repeat (first | exact Drawn0.refl _ | apply Drawn0.step)⟩
                · rw [if_neg c9] at H
                  have c9b0 : (a0 == 46) = false := beq_eq_false_iff_ne.mpr c9
                  have c9b1 : (a0 != 46) = true := bne_iff_ne.mpr c9
                  by_cases c10 : a0 = 95
                  · rw [if_pos c10] at H
                    have c10b0 : (a0 == 95) = true := beq_iff_eq.mpr c10
                    have c10b1 : (a0 != 95) = false := bne_eq_false_iff_eq.mpr c10
                    clear c10
                    obtain rfl := Option.some.inj H
                    go_enter Try.func69, Try.ntmps69
                    go_wp2
                    go_ret
                    exact ⟨by first | rfl | (simp; done) | (simp [*]; done) | (simp [Go.Proofs.YtjklempjljikpaaX.isEmpty_ne]; done), by repeat (first | exact Drawn0.refl _ | apply Drawn0.step)⟩
                  · rw [if_neg c10] at H
                    have c10b0 : (a0 == 95) = false := beq_eq_false_iff_ne.mpr c10
                    have c10b1 : (a0 != 95) = true := bne_iff_ne.mpr c10
                    obtain rfl := Option.some.inj H
                    go_enter Try.func69, Try.ntmps69
                    go_wp2
                    go_ret
                    exact ⟨by first | rfl | (simp; done) | (simp [*]; done) | (simp [Go.Proofs.YtjklempjljikpaaX.isEmpty_ne]; done), by repeat (first | exact Drawn0.refl _ | apply Drawn0.step)⟩
          · rw [if_neg c6] at H
            have c6b0 : decide (48 ≤ a0) = false := decide_eq_false c6
            clear c6
            by_cases c11 : a0 = 45
            · rw [if_pos c11] at H
              have c11b0 : (a0 == 45) = true := beq_iff_eq.mpr c11
              have c11b1 : (a0 != 45) = false := bne_eq_false_iff_eq.mpr c11
              clear c11
              obtain rfl := Option.some.inj H
              go_enter Try.func69, Try.ntmps69
              go_wp2
              go_ret
              exact ⟨by first | rfl | (simp; done) | (simp [*]; done) | (simp [Go.Proofs.YtjklempjljikpaaX.isEmpty_ne]; done), by repeat (first | exact Drawn0.refl _ | apply Drawn0.step)⟩
            · rw [if_neg c11] at H
              have c11b0 : (a0 == 45) = false := beq_eq_false_iff_ne.mpr c11
              have c11b1 : (a0 != 45) = true := bne_iff_ne.mpr c11
              by_cases c12 : a0 = 46
              · rw [if_pos c12] at H
                have c12b0 : (a0 == 46) = true := beq_iff_eq.mpr c12
                have c12b1 : (a0 != 46) = false := bne_eq_false_iff_eq.mpr c12
                clear c12
                obtain rfl := Option.some.inj H
                go_enter Try.func69, Try.ntmps69
                go_wp2
                go_ret
                exact ⟨by first | rfl | (simp; done) | (simp [*]; done) | (simp [Go.Proofs.YtjklempjljikpaaX.isEmpty_ne]; done), by repeat (first | exact Drawn0.refl _ | apply Drawn0.step)⟩
              · rw [if_neg c12] at H
                have c12b0 : (a0 == 46) = false := beq_eq_false_iff_ne.mpr c12
                have c12b1 : (a0 != 46) = true := bne_iff_ne.mpr c12
                by_cases c13 : a0 = 95
                · rw [if_pos c13] at H
                  have c13b0 : (a0 == 95) = true := beq_iff_eq.mpr c13
                  have c13b1 : (a0 != 95) = false := bne_eq_false_iff_eq.mpr c13
                  clear c13
                  obtain rfl := Option.some.inj H
                  go_enter Try.func69, Try.ntmps69
                  go_wp2
                  go_ret
                  exact ⟨by first | rfl | (simp; done) | (simp [*]; done) | (simp [Go.Proofs.YtjklempjljikpaaX.isEmpty_ne]; done), by repeat (first | exact Drawn0.refl _ | apply Drawn0.step)⟩
                · rw [if_neg c13] at H
                  have c13b0 : (a0 == 95) = false := beq_eq_false_iff_ne.mpr c13
                  have c13b1 : (a0 != 95) = true := bne_iff_ne.mpr c13
                  obtain rfl := Option.some.inj H
                  go_enter Try.func69, Try.ntmps69
                  go_wp2
                  go_ret
                  exact ⟨by first | rfl | (simp; done) | (simp [*]; done) | (simp [Go.Proofs.YtjklempjljikpaaX.isEmpty_ne]; done), by repeat (first | exact Drawn0.refl _ | apply Drawn0.step)⟩
      · rw [if_neg c4] at H
        have c4b0 : decide (65 ≤ a0) = false := decide_eq_false c4
        clear c4
        by_cases c14 : a0 ≥ 48
        · rw [if_pos c14] at H
          have c14b0 : decide (48 ≤ a0) = true := decide_eq_true c14
          clear c14
          by_cases c15 : a0 ≤ 57
          · rw [if_pos c15] at H
            have c15b0 : decide (a0 ≤ 57) = true := decide_eq_true c15
            clear c15
            obtain rfl := Option.some.inj H
            go_enter Try.func69, Try.ntmps69
            go_wp2
            go_ret
            exact ⟨by first | rfl | (simp; done) | (simp [*]; done) | (simp [Go.Proofs.YtjklempjljikpaaX.isEmpty_ne]; done), by repeat (first | exact Drawn0.refl _ | apply Drawn0.step)⟩
          · rw [if_neg c15] at H
            have c15b0 : decide (a0 ≤ 57) = false := decide_eq_false c15
            clear c15
            by_cases c16 : a0 = 45
            · rw [if_pos c16] at H
              have c16b0 : (a0 == 45) = true := beq_iff_eq.mpr c16
              have c16b1 : (a0 != 45) = false := bne_eq_false_iff_eq.mpr c16
              clear c16
              obtain rfl := Option.some.inj H
              go_enter Try.func69, Try.ntmps69
              go_wp2
              go_ret
              exact ⟨by first | rfl | (simp; done) | (simp [*]; done) | (simp [Go.Proofs.YtjklempjljikpaaX.isEmpty_ne]; done), by repeat (first | exact Drawn0.refl _ | apply Drawn0.step)⟩
            · rw [if_neg c16] at H
              have c16b0 : (a0 == 45) = false := beq_eq_false_iff_ne.mpr c16
              have c16b1 : (a0 != 45) = true := bne_iff_ne.mpr c16
              by_cases c17 : a0 = 46
              · rw [if_pos c17] at H
                have c17b0 : (a0 == 46) = true := beq_iff_eq.mpr c17
                have c17b1 : (a0 != 46) = false := bne_eq_false_iff_eq.mpr c17
                clear c17
                obtain rfl := Option.some.inj H
                go_enter Try.func69, Try.ntmps69
                go_wp2
                go_ret
                exact ⟨by first | rfl | (simp; done) | (simp [*]; done) | (simp [Go.Proofs.YtjklempjljikpaaX.isEmpty_ne]; done), by repeat (first | exact Drawn0.refl _ | apply Drawn0.step)⟩
              · rw [if_neg c17] at H
                have c17b0 : (a0 == 46) = false := beq_eq_false_iff_ne.mpr c17
                have c17b1 : (a0 != 46) = true := bne_iff_ne.mpr c17
                by_cases c18 : a0 = 95
                · rw [if_pos c18] at H
                  have c18b0 : (a0 == 95) = true := beq_iff_eq.mpr c18
                  have c18b1 : (a0 != 95) = false := bne_eq_false_iff_eq.mpr c18
                  clear c18
                  obtain rfl := Option.some.inj H
                  go_enter Try.func69, Try.ntmps69
                  go_wp2
                  go_ret
                  exact ⟨by first | rfl | (simp; done) | (simp [*]; done) | (simp [Go.Proofs.YtjklempjljikpaaX.isEmpty_ne]; done), by repeat (first | exact Drawn0.refl _ | apply Drawn0.step)⟩
                · rw [if_neg c18] at H
                  have c18b0 : (a0 == 95) = false := beq_eq_false_iff_ne.mpr c18
                  have c18b1 : (a0 != 95) = true := bne_iff_ne.mpr c18
                  obtain rfl := Option.some.inj H
                  go_enter Try.func69, Try.ntmps69
                  go_wp2
                  go_ret
                  exact ⟨by first | rfl | (simp; done) | (simp [*]; done) | (simp [Go.Proofs.YtjklempjljikpaaX.isEmpty_ne]; done), by repeat (first | exact Drawn0.refl _ | apply Drawn0.step)⟩
        · rw [if_neg c14] at H
          have c14b0 : decide (48 ≤ a0) = false := decide_eq_false c14
          clear c14
          by_cases c19 : a0 = 45
          · rw [if_pos c19] at H
            have c19b0 : (a0 == 45) = true := beq_iff_eq.mpr c19
            have c19b1 : (a0 != 45) = false := bne_eq_false_iff_eq.mpr c19
            clear c19
            obtain rfl := Option.some.inj H
            go_enter Try.func69, Try.ntmps69
            go_wp2
            go_ret
            exact ⟨by first | rfl | (simp; done) | (simp [*]; done) | (simp [Go.Proofs.YtjklempjljikpaaX.isEmpty_ne]; done), by repeat (first | exact Drawn0.refl _ | apply Drawn0.step)⟩
          · rw [if_neg c19] at H
            have c19b0 : (a0 == 45) = false := beq_eq_false_iff_ne.mpr c19
            have c19b1 : (a0 != 45) = true := bne_iff_ne.mpr c19
            by_cases c20 : a0 = 46
            · rw [if_pos c20] at H
              have c20b0 : (a0 == 46) = true := beq_iff_eq.mpr c20
              have c20b1 : (a0 != 46) = false := bne_eq_false_iff_eq.mpr c20
              clear c20
              obtain rfl := Option.some.inj H
              go_enter Try.func69, Try.ntmps69
              go_wp2
              go_ret
              exact ⟨by first | rfl | (simp; done) | (simp [*]; done) | (simp [Go.Proofs.YtjklempjljikpaaX.isEmpty_ne]; done), by repeat (first | exact Drawn0.refl _ | apply Drawn0.step)⟩
            · rw [if_neg c20] at H
              have c20b0 : (a0 == 46) = false := beq_eq_false_iff_ne.mpr c20
              have c20b1 : (a0 != 46) = true := bne_iff_ne.mpr c20
              by_cases c21 : a0 = 95
              · rw [if_pos c21] at H
                have c21b0 : (a0 == 95) = true := beq_iff_eq.mpr c21
                have c21b1 : (a0 != 95) = false := bne_eq_false_iff_eq.mpr c21
                clear c21
                obtain rfl := Option.some.inj H
                go_enter Try.func69, Try.ntmps69
                go_wp2
                go_ret
                exact ⟨by first | rfl | (simp; done) | (simp [*]; done) | (simp [Go.Proofs.YtjklempjljikpaaX.isEmpty_ne]; done), by repeat (first | exact Drawn0.refl _ | apply Drawn0.step)⟩
              · rw [if_neg c21] at H
                have c21b0 : (a0 == 95) = false := beq_eq_false_iff_ne.mpr c21
                have c21b1 : (a0 != 95) = true := bne_iff_ne.mpr c21
                obtain rfl := Option.some.inj H
                go_enter Try.func69, Try.ntmps69
                go_wp2
                go_ret
                exact ⟨by first | rfl | (simp; done) | (simp [*]; done) | (simp [Go.Proofs.YtjklempjljikpaaX.isEmpty_ne]; done), by repeat (first | exact Drawn0.refl _ | apply Drawn0.step)⟩
  · rw [if_neg c2] at H
    have c2b0 : decide (97 ≤ a0) = false := decide_eq_false c2
    clear c2
    by_cases c22 : a0 ≥ 65
    · rw [if_pos c22] at H
      have c22b0 : decide (65 ≤ a0) = true := decide_eq_true c22
      clear c22
      by_cases c23 : a0 ≤ 90
      · rw [if_pos c23] at H
        have c23b0 : decide (a0 ≤ 90) = true := decide_eq_true c23
        clear c23
        obtain rfl := Option.some.inj H
        go_enter Try.func69, Try.ntmps69
        go_wp2
        go_ret
        exact ⟨by first | rfl | (simp; done) | (simp [*]; done) | (simp [Go.Proofs.YtjklempjljikpaaX.isEmpty_ne]; done), by repeat (first | exact Drawn0.refl _ | apply Drawn0.step)⟩
      · rw [if_neg c23] at H
        have c23b0 : decide (a0 ≤ 90) = false := decide_eq_false c23
        clear c23
        by_cases c24 : a0 ≥ 48
        · rw [if_pos c24] at H
          have c24b0 : decide (48 ≤ a0) = true := decide_eq_true c24
          clear c24
          by_cases c25 : a0 ≤ 57
          · rw [if_pos c25] at H
            have c25b0 : decide (a0 ≤ 57) = true := decide_eq_true c25
            clear c25
            obtain rfl := Option.some.inj H
            go_enter Try.func69, Try.ntmps69
            go_wp2
            go_ret
            exact ⟨by first | rfl | (simp; done) | (simp [*]; done) | (simp [Go.Proofs.YtjklempjljikpaaX.isEmpty_ne]; done), by repeat (first | exact Drawn0.refl _ | apply Drawn0.step)⟩
          · rw [if_neg c25] at H
            have c25b0 : decide (a0 ≤ 57) = false := decide_eq_false c25
            clear c25
            by_cases c26 : a0 = 45
            · rw [if_pos c26] at H
              have c26b0 : (a0 == 45) = true := beq_iff_eq.mpr c26
              have c26b1 : (a0 != 45) = false := bne_eq_false_iff_eq.mpr c26
              clear c26
              obtain rfl := Option.some.inj H
              go_enter Try.func69, Try.ntmps69
              go_wp2
              go_ret
              exact ⟨by first | rfl | (simp; done) | (simp [*]; done) | (simp [Go.Proofs.YtjklempjljikpaaX.isEmpty_ne]; done), by repeat (first | exact Drawn0.refl _ | apply Drawn0.step)⟩
            · rw [if_neg c26] at H
              have c26b0 : (a0 == 45) = false := beq_eq_false_iff_ne.mpr c26
              have c26b1 : (a0 != 45) = true := bne_iff_ne.mpr c26
              by_cases c27 : a0 = 46
              · rw [if_pos c27] at H
                have c27b0 : (a0 == 46) = true := beq_iff_eq.mpr c27
                have c27b1 : (a0 != 46) = false := bne_eq_false_iff_eq.mpr c27
                clear c27
                obtain rfl := Option.some.inj H
                go_enter Try.func69, Try.ntmps69
                go_wp2
                go_ret
                exact ⟨by first | rfl | (simp; done) | (simp [*]; done) | (simp [Go.Proofs.YtjklempjljikpaaX.isEmpty_ne]; done), by repeat (first | exact Drawn0.refl _ | apply Drawn0.step)⟩
              · rw [if_neg c27] at H
                have c27b0 : (a0 == 46) = false := beq_eq_false_iff_ne.mpr c27
                have c27b1 : (a0 != 46) = true := bne_iff_ne.mpr c27
                by_cases c28 : a0 = 95
                · rw [if_pos c28] at H
                  have c28b0 : (a0 == 95) = true := beq_iff_eq.mpr c28
                  have c28b1 : (a0 != 95) = false := bne_eq_false_iff_eq.mpr c28
                  clear c28
                  obtain rfl := Option.some.inj H
                  go_enter Try.func69, Try.ntmps69
                  go_wp2
                  go_ret
                  exact ⟨by first | rfl | (simp; done) | (simp [*]; done) | (simp [Go.Proofs.YtjklempjljikpaaX.isEmpty_ne]; done), by repeat (first | exact Drawn0.refl _ | apply Drawn0.step)⟩
                · rw [if_neg c28] at H
                  have c28b0 : (a0 == 95) = false := beq_eq_false_iff_ne.mpr c28
                  have c28b1 : (a0 != 95) = true := bne_iff_ne.mpr c28
                  obtain rfl := Option.some.inj H
                  go_enter Try.func69, Try.ntmps69
                  go_wp2
                  go_ret
                  exact ⟨by first | rfl | (simp; done) | (simp [*]; done) | (simp [Go.Proofs.YtjklempjljikpaaX.isEmpty_ne]; done), by repeat (first | exact Drawn0.refl _ | apply Drawn0.step)⟩
        · rw [if_neg c24] at H
          have c24b0 : decide (48 ≤ a0) = false := decide_eq_false c24
          clear c24
          by_cases c29 : a0 = 45
          · rw [if_pos c29] at H
            have c29b0 : (a0 == 45) = true := beq_iff_eq.mpr c29
            have c29b1 : (a0 != 45) = false := bne_eq_false_iff_eq.mpr c29
            clear c29
            obtain rfl := Option.some.inj H
            go_enter Try.func69, Try.ntmps69
            go_wp2
            go_ret
            exact ⟨by first | rfl | (simp; done) | (simp [*]; done) | (simp [Go.Proofs.YtjklempjljikpaaX.isEmpty_ne]; done), by repeat (first | exact Drawn0.refl _ | apply Drawn0.step)⟩
          · rw [if_neg c29] at H
            have c29b0 : (a0 == 45) = false := beq_eq_false_iff_ne.mpr c29
            have c29b1 : (a0 != 45) = true := bne_iff_ne.mpr c29
            by_cases c30 : a0 = 46
            · rw [if_pos c30] at H
              have c30b0 : (a0 == 46) = true := beq_iff_eq.mpr c30
              have c30b1 : (a0 != 46) = false := bne_eq_false_iff_eq.mpr c30
              clear c30
              obtain rfl := Option.some.inj H
              go_enter Try.func69, Try.ntmps69
              go_wp2
              go_ret
              exact ⟨by first | rfl | (simp; done) | (simp [*]; done) | (simp [Go.Proofs.YtjklempjljikpaaX.isEmpty_ne]; done), by repeat (first | exact Drawn0.refl _ | apply Drawn0.step)⟩
            · rw [if_neg c30] at H
              have c30b0 : (a0 == 46) = false := beq_eq_false_iff_ne.mpr c30
              have c30b1 : (a0 != 46) = true := bne_iff_ne.mpr c30
              by_cases c31 : a0 = 95
              · rw [if_pos c31] at H
                have c31b0 : (a0 == 95) = true := beq_iff_eq.mpr c31
                have c31b1 : (a0 != 95) = false := bne_eq_false_iff_eq.mpr c31
                clear c31
                obtain rfl := Option.some.inj H
                go_enter Try.func69, Try.ntmps69
                go_wp2
                go_ret
                exact ⟨by first | rfl | (simp; done) | (simp [*]; done) | (simp [Go.Proofs.YtjklempjljikpaaX.isEmpty_ne]; done), by repeat (first | exact Drawn0.refl _ | apply Drawn0.step)⟩
              · rw [if_neg c31] at H
                have c31b0 : (a0 == 95) = false := beq_eq_false_iff_ne.mpr c31
                have c31b1 : (a0 != 95) = true := bne_iff_ne.mpr c31
                obtain rfl := Option.some.inj H
                go_enter Try.func69, Try.ntmps69
                go_wp2
                go_ret
                exact ⟨by first | rfl | (simp; done) | (simp [*]; done) | (simp [Go.Proofs.YtjklempjljikpaaX.isEmpty_ne]; done), by repeat (first | exact Drawn0.refl _ | apply Drawn0.step)⟩
    · rw [if_neg c22] at H
      have c22b0 : decide (65 ≤ a0) = false := decide_eq_false c22
      clear c22
      by_cases c32 : a0 ≥ 48
      · rw [if_pos c32] at H
        have c32b0 : decide (48 ≤ a0) = true := decide_eq_true c32
        clear c32
        by_cases c33 : a0 ≤ 57
        · rw [if_pos c33] at H
          have c33b0 : decide (a0 ≤ 57) = true := decide_eq_true c33
          clear c33
          obtain rfl := Option.some.inj H
          go_enter Try.func69, Try.ntmps69
          go_wp2
          go_ret
          exact ⟨by first | rfl | (simp; done) | (simp [*]; done) | (simp [Go.Proofs.YtjklempjljikpaaX.isEmpty_ne]; done), by repeat (first | exact Drawn0.refl _ | apply Drawn0.step)⟩
        · rw [if_neg c33] at H
          have c33b0 : decide (a0 ≤ 57) = false := decide_eq_false c33
          clear c33
          by_cases c34 : a0 = 45
          · rw [if_pos c34] at H
            have c34b0 : (a0 == 45) = true := beq_iff_eq.mpr c34
            have c34b1 : (a0 != 45) = false := bne_eq_false_iff_eq.mpr c34
            clear c34
            obtain rfl := Option.some.inj H
            go_enter Try.func69, Try.ntmps69
            go_wp2
            go_ret
            exact ⟨by first | rfl | (simp; done) | (simp [*]; done) | (simp [Go.Proofs.YtjklempjljikpaaX.isEmpty_ne]; done), by repeat (first | exact Drawn0.refl _ | apply Drawn0.step)⟩
          · rw [if_neg c34] at H
            have c34b0 : (a0 == 45) = false := beq_eq_false_iff_ne.mpr c34
            have c34b1 : (a0 != 45) = true := bne_iff_ne.mpr c34
            by_cases c35 : a0 = 46
            · rw [if_pos c35] at H
              have c35b0 : (a0 == 46) = true := beq_iff_eq.mpr c35
              have c35b1 : (a0 != 46) = false := bne_eq_false_iff_eq.mpr c35
              clear c35
              obtain rfl := Option.some.inj H
              go_enter Try.func69, Try.ntmps69
              go_wp2
              go_ret
              exact ⟨by first | rfl | (simp; done) | (simp [*]; done) | (simp [Go.Proofs.YtjklempjljikpaaX.isEmpty_ne]; done), by repeat (first | exact Drawn0.refl _ | apply Drawn0.step)⟩
            · rw [if_neg c35] at H
              have c35b0 : (a0 == 46) = false := beq_eq_false_iff_ne.mpr c35
              have c35b1 : (a0 != 46) = true := bne_iff_ne.mpr c35
              by_cases c36 : a0 = 95
              · rw [if_pos c36] at H
                have c36b0 : (a0 == 95) = true := beq_iff_eq.mpr c36
                have c36b1 : (a0 != 95) = false := bne_eq_false_iff_eq.mpr c36
                clear c36
                obtain rfl := Option.some.inj H
                go_enter Try.func69, Try.ntmps69
                go_wp2
                go_ret
                exact ⟨by first | rfl | (simp; done) | (simp [*]; done) | (simp [Go.Proofs.YtjklempjljikpaaX.isEmpty_ne]; done), by repeat (first | exact Drawn0.refl _ | apply Drawn0.step)⟩
              · rw [if_neg c36] at H
                have c36b0 : (a0 == 95) = false := beq_eq_false_iff_ne.mpr c36
                have c36b1 : (a0 != 95) = true := bne_iff_ne.mpr c36
                obtain rfl := Option.some.inj H
                go_enter Try.func69, Try.ntmps69
                go_wp2
                go_ret
                exact ⟨by first | rfl | (simp; done) | (simp [*]; done) | (simp [Go.Proofs.YtjklempjljikpaaX.isEmpty_ne]; done), by repeat (first | exact Drawn0.refl _ | apply Drawn0.step)⟩
      · rw [if_neg c32] at H
        have c32b0 : decide (48 ≤ a0) = false := decide_eq_false c32
        clear c32
        by_cases c37 : a0 = 45
        · rw [if_pos c37] at H
          have c37b0 : (a0 == 45) = true := beq_iff_eq.mpr c37
          have c37b1 : (a0 != 45) = false := bne_eq_false_iff_eq.mpr c37
          clear c37
          obtain rfl := Option.some.inj H
          go_enter Try.func69, Try.ntmps69
          go_wp2
          go_ret
          exact ⟨by first | rfl | (simp; done) | (simp [*]; done) | (simp [Go.Proofs.YtjklempjljikpaaX.isEmpty_ne]; done), by repeat (first | exact Drawn0.refl _ | apply Drawn0.step)⟩
        · rw [if_neg c37] at H
          have c37b0 : (a0 == 45) = false := beq_eq_false_iff_ne.mpr c37
          have c37b1 : (a0 != 45) = true := bne_iff_ne.mpr c37
          by_cases c38 : a0 = 46
          · rw [if_pos c38] at H
            have c38b0 : (a0 == 46) = true := beq_iff_eq.mpr c38
            have c38b1 : (a0 != 46) = false := bne_eq_false_iff_eq.mpr c38
            clear c38
            obtain rfl := Option.some.inj H
            go_enter Try.func69, Try.ntmps69
            go_wp2
            go_ret
            exact ⟨by first | rfl | (simp; done) | (simp [*]; done) | (simp [Go.Proofs.YtjklempjljikpaaX.isEmpty_ne]; done), by repeat (first | exact Drawn0.refl _ | apply Drawn0.step)⟩
          · rw [if_neg c38] at H
            have c38b0 : (a0 == 46) = false := beq_eq_false_iff_ne.mpr c38
            have c38b1 : (a0 != 46) = true := bne_iff_ne.mpr c38
            by_cases c39 : a0 = 95
            · rw [if_pos c39] at H
              have c39b0 : (a0 == 95) = true := beq_iff_eq.mpr c39
              have c39b1 : (a0 != 95) = false := bne_eq_false_iff_eq.mpr c39
              clear c39
              obtain rfl := Option.some.inj H
              go_enter Try.func69, Try.ntmps69
              go_wp2
              go_ret
              exact ⟨by first | rfl | (simp; done) | (simp [*]; done) | (simp [Go.Proofs.YtjklempjljikpaaX.isEmpty_ne]; done), by repeat (first | exact Drawn0.refl _ | apply Drawn0.step)⟩
            · rw [if_neg c39] at H
              have c39b0 : (a0 == 95) = false := beq_eq_false_iff_ne.mpr c39
              have c39b1 : (a0 != 95) = true := bne_iff_ne.mpr c39
              obtain rfl := Option.some.inj H
              go_enter Try.func69, Try.ntmps69
              go_wp2
              go_ret
              exact ⟨by first | rfl | (simp; done) | (simp [*]; done) | (simp [Go.Proofs.YtjklempjljikpaaX.isEmpty_ne]; done), by repeat (first | exact Drawn0.refl _ | apply Drawn0.step)⟩

end Go.Proofs.Ytjklempjljikpaa.Q

-- Written by a program of this session out of the translation, with the kit's printer. Not trusted: Lean checks it.
namespace Go.Proofs.Ytjklempjljikpaa.Q
open Go.RowKit Go.Proofs.YtjklempjljikpaaW.PrintWords Go.Proofs.YtjklempjljikpaaW.PrintLast Go.Proofs.YtjklempjljikpaaW.PrintMore
attribute [local go_sem] max2_int min2_int max_two min_two max_three min_three max_four min_four   -- for this text's walks alone
set_option linter.unusedVariables false
set_option linter.unusedSimpArgs false

/-! ### spec_quoted: function 56 -/
mutual
def spec_quoted.l0 : Nat → ByteArray → ByteArray → ByteArray → ByteArray → Int → Option (ByteArray)
  | 0, _, _, _, _, _ => none
  | k + 1, x0, x1, x2, x7, x8 => if x8 < (x0.size : Int) then (if 0 ≤ x8 then ((spec_unreserved.f (bt x0 x8)).bind fun t242 => (if t242 = true then (spec_quoted.j1 k x0 x1 x2 x7 x8 (bt x0 x8) true) else ((spec_indexOf.f k x1 (bt x0 x8)).bind fun t243 => (spec_quoted.j1 k x0 x1 x2 x7 x8 (bt x0 x8) (decide (t243 ≥ 0)))))) else (none)) else (some x7)
def spec_quoted.j1 : Nat → ByteArray → ByteArray → ByteArray → ByteArray → Int → Int → Bool → Option (ByteArray)
  | 0, _, _, _, _, _, _, _ => none
  | k + 1, x0, x1, x2, x7, x8, x9, x35 => if x35 = true then (if 0 ≤ x8 then (if x8 ≤ (wrap64 (x8 + 1)) then (if (wrap64 (x8 + 1)) ≤ (x0.size : Int) then (if x7.size + ((min ((wrap64 (x8 + 1)) : Int).toNat x0.size - (x8 : Int).toNat)) ≤ 9223372036854775807 then (spec_quoted.l0 k x0 x1 x2 (x7 ++ (x0.extract (x8 : Int).toNat ((wrap64 (x8 + 1)) : Int).toNat)) (wrap64 (x8 + 1))) else (none)) else (none)) else (none)) else (none)) else (if x9 = 32 then (if x2.toList = ([] : List UInt8) then (if 0 ≤ (x9 / 16) then (if (x9 / 16) ≤ (((x9 / 16) + 1) % 256) then (if (((x9 / 16) + 1) % 256) ≤ 16 then (if 1 + ((min ((((x9 / 16) + 1) % 256) : Int).toNat 16 - ((x9 / 16) : Int).toNat)) ≤ 9223372036854775807 then (if 0 ≤ (Go.bits .and .u8 x9 15) then (if (Go.bits .and .u8 x9 15) ≤ (((Go.bits .and .u8 x9 15) + 1) % 256) then (if (((Go.bits .and .u8 x9 15) + 1) % 256) ≤ 16 then (if 1 + ((min ((((x9 / 16) + 1) % 256) : Int).toNat 16 - ((x9 / 16) : Int).toNat)) + ((min ((((Go.bits .and .u8 x9 15) + 1) % 256) : Int).toNat 16 - ((Go.bits .and .u8 x9 15) : Int).toNat)) ≤ 9223372036854775807 then (if x7.size + (1 + ((min ((((x9 / 16) + 1) % 256) : Int).toNat 16 - ((x9 / 16) : Int).toNat)) + ((min ((((Go.bits .and .u8 x9 15) + 1) % 256) : Int).toNat 16 - ((Go.bits .and .u8 x9 15) : Int).toNat))) ≤ 9223372036854775807 then (spec_quoted.l0 k x0 x1 x2 (x7 ++ (((⟨#[37]⟩ : ByteArray) ++ ((⟨#[48, 49, 50, 51, 52, 53, 54, 55, 56, 57, 65, 66, 67, 68, 69, 70]⟩ : ByteArray).extract ((x9 / 16) : Int).toNat ((((x9 / 16) + 1) % 256) : Int).toNat)) ++ ((⟨#[48, 49, 50, 51, 52, 53, 54, 55, 56, 57, 65, 66, 67, 68, 69, 70]⟩ : ByteArray).extract ((Go.bits .and .u8 x9 15) : Int).toNat ((((Go.bits .and .u8 x9 15) + 1) % 256) : Int).toNat))) (wrap64 (x8 + 1))) else (none)) else (none)) else (none)) else (none)) else (none)) else (none)) else (none)) else (none)) else (none)) else (if x7.size + x2.size ≤ 9223372036854775807 then (spec_quoted.l0 k x0 x1 x2 (x7 ++ x2) (wrap64 (x8 + 1))) else (none))) else (if 0 ≤ (x9 / 16) then (if (x9 / 16) ≤ (((x9 / 16) + 1) % 256) then (if (((x9 / 16) + 1) % 256) ≤ 16 then (if 1 + ((min ((((x9 / 16) + 1) % 256) : Int).toNat 16 - ((x9 / 16) : Int).toNat)) ≤ 9223372036854775807 then (if 0 ≤ (Go.bits .and .u8 x9 15) then (if (Go.bits .and .u8 x9 15) ≤ (((Go.bits .and .u8 x9 15) + 1) % 256) then (if (((Go.bits .and .u8 x9 15) + 1) % 256) ≤ 16 then (if 1 + ((min ((((x9 / 16) + 1) % 256) : Int).toNat 16 - ((x9 / 16) : Int).toNat)) + ((min ((((Go.bits .and .u8 x9 15) + 1) % 256) : Int).toNat 16 - ((Go.bits .and .u8 x9 15) : Int).toNat)) ≤ 9223372036854775807 then (if x7.size + (1 + ((min ((((x9 / 16) + 1) % 256) : Int).toNat 16 - ((x9 / 16) : Int).toNat)) + ((min ((((Go.bits .and .u8 x9 15) + 1) % 256) : Int).toNat 16 - ((Go.bits .and .u8 x9 15) : Int).toNat))) ≤ 9223372036854775807 then (spec_quoted.l0 k x0 x1 x2 (x7 ++ (((⟨#[37]⟩ : ByteArray) ++ ((⟨#[48, 49, 50, 51, 52, 53, 54, 55, 56, 57, 65, 66, 67, 68, 69, 70]⟩ : ByteArray).extract ((x9 / 16) : Int).toNat ((((x9 / 16) + 1) % 256) : Int).toNat)) ++ ((⟨#[48, 49, 50, 51, 52, 53, 54, 55, 56, 57, 65, 66, 67, 68, 69, 70]⟩ : ByteArray).extract ((Go.bits .and .u8 x9 15) : Int).toNat ((((Go.bits .and .u8 x9 15) + 1) % 256) : Int).toNat))) (wrap64 (x8 + 1))) else (none)) else (none)) else (none)) else (none)) else (none)) else (none)) else (none)) else (none)) else (none)))
end
def spec_quoted.f (k : Nat) (a0 : ByteArray) (a1 : ByteArray) (a2 : ByteArray) : Option (ByteArray) := spec_quoted.l0 k a0 a1 a2 (⟨#[]⟩ : ByteArray) 0
theorem spec_quoted.mono_l : ∀ k, (∀ y0 y1 y2 y3 y4, LeO (spec_quoted.l0 k y0 y1 y2 y3 y4) (spec_quoted.l0 (k + 1) y0 y1 y2 y3 y4)) ∧ (∀ y0 y1 y2 y3 y4 y5 y6, LeO (spec_quoted.j1 k y0 y1 y2 y3 y4 y5 y6) (spec_quoted.j1 (k + 1) y0 y1 y2 y3 y4 y5 y6))
  | 0 => ⟨fun _ _ _ _ _ r h => by simp [spec_quoted.l0] at h, fun _ _ _ _ _ _ _ r h => by simp [spec_quoted.j1] at h⟩
  | k + 1 => by
    obtain ⟨ih0, ih1⟩ := spec_quoted.mono_l k
    refine ⟨?_, ?_⟩
    · intro y0 y1 y2 y3 y4
      unfold spec_quoted.l0
      repeat' first
      | (with_reducible exact ih0 _ _ _ _ _)
      | (with_reducible exact ih1 _ _ _ _ _ _ _)
      | (with_reducible exact spec_indexOf.mono _ _ _)
      | (with_reducible exact LeO.refl _)
      | (with_reducible exact LeO.none _)
      | (with_reducible refine LeO.ite ?_ ?_)
      | (with_reducible refine LeO.bind ?_ (fun _ => ?_))
      | exact ih0 _ _ _ _ _
      | exact ih1 _ _ _ _ _ _ _
      | exact spec_indexOf.mono _ _ _
      | exact LeO.none _
      | refine LeO.ite ?_ ?_
      | refine LeO.bind ?_ (fun _ => ?_)
    · intro y0 y1 y2 y3 y4 y5 y6
      unfold spec_quoted.j1
      repeat' first
      | (with_reducible exact ih0 _ _ _ _ _)
      | (with_reducible exact ih1 _ _ _ _ _ _ _)
      | (with_reducible exact spec_indexOf.mono _ _ _)
      | (with_reducible exact LeO.refl _)
      | (with_reducible exact LeO.none _)
      | (with_reducible refine LeO.ite ?_ ?_)
      | (with_reducible refine LeO.bind ?_ (fun _ => ?_))
      | exact ih0 _ _ _ _ _
      | exact ih1 _ _ _ _ _ _ _
      | exact spec_indexOf.mono _ _ _
      | exact LeO.none _
      | refine LeO.ite ?_ ?_
      | refine LeO.bind ?_ (fun _ => ?_)
theorem spec_quoted.mono : ∀ a0 a1 a2 k, LeO (spec_quoted.f k a0 a1 a2) (spec_quoted.f (k + 1) a0 a1 a2) := by
  intro a0 a1 a2 k
  obtain ⟨ih0, ih1⟩ := spec_quoted.mono_l k
  unfold spec_quoted.f
  repeat' first
      | (with_reducible exact ih0 _ _ _ _ _)
      | (with_reducible exact ih1 _ _ _ _ _ _ _)
      | (with_reducible exact spec_indexOf.mono _ _ _)
      | (with_reducible exact LeO.refl _)
      | (with_reducible exact LeO.none _)
      | (with_reducible refine LeO.ite ?_ ?_)
      | (with_reducible refine LeO.bind ?_ (fun _ => ?_))
      | exact ih0 _ _ _ _ _
      | exact ih1 _ _ _ _ _ _ _
      | exact spec_indexOf.mono _ _ _
      | exact LeO.none _
      | refine LeO.ite ?_ ?_
      | refine LeO.bind ?_ (fun _ => ?_)
set_option maxHeartbeats 8000000 in
set_option maxRecDepth 100000 in
theorem spec_quoted.calls (k : Nat) (a0 : ByteArray) (a1 : ByteArray) (a2 : ByteArray) (r : ByteArray) (w : World) (h : spec_quoted.f k a0 a1 a2 = some r) :
    Calls Try.prog 56 #[.string a0, .string a1, .string a2] w fun e w' => e = .returned (.string r) ∧ Drawn0 w w' := by
  have H : (spec_quoted.l0 k a0 a1 a2 (⟨#[]⟩ : ByteArray) 0) = some r := h
  clear h
  have H' := Aside0.mk H
  clear H
  go_enter Try.func56, Try.ntmps56
  go_wp2
  have hw8_ := Go.Proofs.YtjklempjljikpaaX.wrap_u8; have hw64_ := Go.Proofs.YtjklempjljikpaaX.wrap_i64; repeat (go_quiet (fail); try go_wp2)
  go_loopg [7, 8] k (fun kq v7 v8 w' => ∃ (x7_1 : ByteArray) (x8_1 : Int), v7 = .string x7_1 ∧ v8 = .int .i64 x8_1 ∧ Aside0 (spec_quoted.l0 kq a0 a1 a2 x7_1 x8_1 = some r) ∧ Aside0 (kq ≤ k) ∧ Drawn0 w w')
  case atStart => exact ⟨((⟨#[]⟩ : ByteArray)), (0), (by first | rfl | (simp; done) | (simp [*]; done) | (simp [Go.Proofs.YtjklempjljikpaaX.isEmpty_ne]; done)), (by first | rfl | (simp; done) | (simp [*]; done) | (simp [Go.Proofs.YtjklempjljikpaaX.isEmpty_ne]; done)), H', ⟨Nat.le_refl _⟩, by repeat (first | exact Drawn0.refl _ | apply Drawn0.step)⟩
  case round =>
    clear H'
    try clear p2
    obtain ⟨x7_1, x8_1, rfl, rfl, HA, HK1, ⟨m1, rfl⟩⟩ := hrel
    cases gk with
    | zero => exact absurd HA.out (by simp [spec_quoted.l0])
    | succ k1 =>
      have H := HA.out
      clear HA
      simp only [spec_quoted.l0] at H
      by_cases c4 : x8_1 < (a0.size : Int)
      · rw [if_pos c4] at H
        have c4b0 : decide (x8_1 < (a0.size : Int)) = true := decide_eq_true c4
        clear c4
        by_cases c5 : 0 ≤ x8_1
        · rw [if_pos c5] at H
          have c5b0 : decide (0 ≤ x8_1) = true := decide_eq_true c5
          clear c5
          have HC7 := Aside0.mk H
          clear H
          have p6 : 0 ≤ (x8_1 : Int) := of_decide_eq_true (by first | (with_reducible assumption) | assumption)
          have q6 : x8_1 < (a0.size : Int) := of_decide_eq_true (by first | (with_reducible assumption) | assumption)
          have hx6 := bt_at a0 x8_1
          replace p6 := eq_true p6
          replace q6 := eq_true q6
          go_upto_region 7 with (fail)
          repeat (go_quiet (fail); go_upto_region 7 with (fail))
          go_cut [35] (fun v35 wc => ∃ (kq : Nat) (x35_6 : Bool), v35 = .bool x35_6 ∧ Aside0 (spec_quoted.j1 kq a0 a1 a2 x7_1 x8_1 (bt a0 x8_1) x35_6 = some r) ∧ Aside0 (kq ≤ k1) ∧ Drawn0 w wc)
          case first =>
            have H := HC7.out
            clear HC7
            replace H := Option.bind_eq_some_iff.mp H
            obtain ⟨t242, A80, H⟩ := H
            replace H : (if t242 = true then (spec_quoted.j1 k1 a0 a1 a2 x7_1 x8_1 (bt a0 x8_1) true) else ((spec_indexOf.f k1 a1 (bt a0 x8_1)).bind fun t243 => (spec_quoted.j1 k1 a0 a1 a2 x7_1 x8_1 (bt a0 x8_1) (decide (t243 ≥ 0))))) = some r := H
            have A8 := Aside0.mk A80
            clear A80
            by_cases c9 : t242 = true
            · subst c9
              have H1 : (spec_quoted.j1 k1 a0 a1 a2 x7_1 x8_1 (bt a0 x8_1) true) = some r := by rw [if_pos rfl] at H; exact H
              clear H
              have H := H1
              clear H1
              have H' := Aside0.mk H
              clear H
              go_wp2_with (first | (go_at_call 69; (with_reducible refine (spec_unreserved.calls (bt a0 x8_1) true _ A8.out).mono ?_); rintro e w' ⟨rfl, ⟨nd, rfl⟩⟩; (try first | exact ⟨rfl, _, World.drewN_drewN _ _ _⟩ | exact ⟨rfl, _, Eq.trans (World.drewN_drewN _ _ _) (congrArg (World.drewN _) (Nat.add_assoc _ _ _))⟩)))
              repeat (go_quiet (first | (go_at_call 69; (with_reducible refine (spec_unreserved.calls (bt a0 x8_1) true _ A8.out).mono ?_); rintro e w' ⟨rfl, ⟨nd, rfl⟩⟩; (try first | exact ⟨rfl, _, World.drewN_drewN _ _ _⟩ | exact ⟨rfl, _, Eq.trans (World.drewN_drewN _ _ _) (congrArg (World.drewN _) (Nat.add_assoc _ _ _))⟩))); try go_wp2_with (first | (go_at_call 69; (with_reducible refine (spec_unreserved.calls (bt a0 x8_1) true _ A8.out).mono ?_); rintro e w' ⟨rfl, ⟨nd, rfl⟩⟩; (try first | exact ⟨rfl, _, World.drewN_drewN _ _ _⟩ | exact ⟨rfl, _, Eq.trans (World.drewN_drewN _ _ _) (congrArg (World.drewN _) (Nat.add_assoc _ _ _))⟩))))
              go_meet
              case rel => exact ⟨_, (true), (by first | rfl | (simp; done) | (simp [*]; done) | (simp [Go.Proofs.YtjklempjljikpaaX.isEmpty_ne]; done)), H', ⟨by have := HK1.out; first | omega | exact Nat.le_refl _⟩, by repeat (first | exact Drawn0.refl _ | apply Drawn0.step)⟩
            · replace c9 := Bool.eq_false_iff.mpr c9
              subst c9
              have H1 : ((spec_indexOf.f k1 a1 (bt a0 x8_1)).bind fun t243 => (spec_quoted.j1 k1 a0 a1 a2 x7_1 x8_1 (bt a0 x8_1) (decide (t243 ≥ 0)))) = some r := by rw [if_neg (show ¬ (false = true) by decide)] at H; exact H
              clear H
              have H := H1
              clear H1
              replace H := Option.bind_eq_some_iff.mp H
              obtain ⟨t243, A100, H⟩ := H
              replace H : (spec_quoted.j1 k1 a0 a1 a2 x7_1 x8_1 (bt a0 x8_1) (decide (t243 ≥ 0))) = some r := H
              have A10 := Aside0.mk A100
              clear A100
              have H' := Aside0.mk H
              clear H
              go_wp2_with (first | (go_at_call 69; (with_reducible refine (spec_unreserved.calls (bt a0 x8_1) false _ A8.out).mono ?_); rintro e w' ⟨rfl, ⟨nd, rfl⟩⟩; (try first | exact ⟨rfl, _, World.drewN_drewN _ _ _⟩ | exact ⟨rfl, _, Eq.trans (World.drewN_drewN _ _ _) (congrArg (World.drewN _) (Nat.add_assoc _ _ _))⟩)) | (go_at_call 45; (with_reducible refine (spec_indexOf.calls k1 a1 (bt a0 x8_1) t243 _ A10.out).mono ?_); rintro e w' ⟨rfl, ⟨nd, rfl⟩⟩; (try first | exact ⟨rfl, _, World.drewN_drewN _ _ _⟩ | exact ⟨rfl, _, Eq.trans (World.drewN_drewN _ _ _) (congrArg (World.drewN _) (Nat.add_assoc _ _ _))⟩)))
              repeat (go_quiet (first | (go_at_call 69; (with_reducible refine (spec_unreserved.calls (bt a0 x8_1) false _ A8.out).mono ?_); rintro e w' ⟨rfl, ⟨nd, rfl⟩⟩; (try first | exact ⟨rfl, _, World.drewN_drewN _ _ _⟩ | exact ⟨rfl, _, Eq.trans (World.drewN_drewN _ _ _) (congrArg (World.drewN _) (Nat.add_assoc _ _ _))⟩)) | (go_at_call 45; (with_reducible refine (spec_indexOf.calls k1 a1 (bt a0 x8_1) t243 _ A10.out).mono ?_); rintro e w' ⟨rfl, ⟨nd, rfl⟩⟩; (try first | exact ⟨rfl, _, World.drewN_drewN _ _ _⟩ | exact ⟨rfl, _, Eq.trans (World.drewN_drewN _ _ _) (congrArg (World.drewN _) (Nat.add_assoc _ _ _))⟩))); try go_wp2_with (first | (go_at_call 69; (with_reducible refine (spec_unreserved.calls (bt a0 x8_1) false _ A8.out).mono ?_); rintro e w' ⟨rfl, ⟨nd, rfl⟩⟩; (try first | exact ⟨rfl, _, World.drewN_drewN _ _ _⟩ | exact ⟨rfl, _, Eq.trans (World.drewN_drewN _ _ _) (congrArg (World.drewN _) (Nat.add_assoc _ _ _))⟩)) | (go_at_call 45; (with_reducible refine (spec_indexOf.calls k1 a1 (bt a0 x8_1) t243 _ A10.out).mono ?_); rintro e w' ⟨rfl, ⟨nd, rfl⟩⟩; (try first | exact ⟨rfl, _, World.drewN_drewN _ _ _⟩ | exact ⟨rfl, _, Eq.trans (World.drewN_drewN _ _ _) (congrArg (World.drewN _) (Nat.add_assoc _ _ _))⟩))))
              go_meet
              case rel => exact ⟨_, (decide (t243 ≥ 0)), (by first | rfl | (simp; done) | (simp [*]; done) | (simp [Go.Proofs.YtjklempjljikpaaX.isEmpty_ne]; done)), H', ⟨by have := HK1.out; first | omega | exact Nat.le_refl _⟩, by repeat (first | exact Drawn0.refl _ | apply Drawn0.step)⟩
          case rest =>
            clear HC7
            try clear p2
            try clear c4
            try clear c4b0
            try clear c5
            try clear c5b0
            try clear p6
            try clear q6
            try clear hx6
            try clear c9
            try clear p2
            try clear p6
            try clear q6
            obtain ⟨kq, x35_6, rfl, HA, HJ6, ⟨mc6, rfl⟩⟩ := hcut
            cases kq with
            | zero => exact absurd HA.out (by simp [spec_quoted.j1])
            | succ kj6 =>
              have H := HA.out
              clear HA
              simp only [spec_quoted.j1] at H
              by_cases c11 : x35_6 = true
              · subst c11
                have H1 : (if 0 ≤ x8_1 then (if x8_1 ≤ (wrap64 (x8_1 + 1)) then (if (wrap64 (x8_1 + 1)) ≤ (a0.size : Int) then (if x7_1.size + ((min ((wrap64 (x8_1 + 1)) : Int).toNat a0.size - (x8_1 : Int).toNat)) ≤ 9223372036854775807 then (spec_quoted.l0 kj6 a0 a1 a2 (x7_1 ++ (a0.extract (x8_1 : Int).toNat ((wrap64 (x8_1 + 1)) : Int).toNat)) (wrap64 (x8_1 + 1))) else (none)) else (none)) else (none)) else (none)) = some r := by rw [if_pos rfl] at H; exact H
                clear H
                have H := H1
                clear H1
                by_cases c12 : 0 ≤ x8_1
                · rw [if_pos c12] at H
                  have c12b0 := eq_true c12
                  have c12b1 : decide (0 ≤ x8_1) = true := decide_eq_true c12
                  clear c12
                  by_cases c13 : x8_1 ≤ (wrap64 (x8_1 + 1))
                  · rw [if_pos c13] at H
                    have c13b0 := eq_true c13
                    have c13b1 : decide (x8_1 ≤ (wrap64 (x8_1 + 1))) = true := decide_eq_true c13
                    by_cases c14 : (wrap64 (x8_1 + 1)) ≤ (a0.size : Int)
                    · rw [if_pos c14] at H
                      have c14b0 := eq_true c14
                      have c14b1 : decide ((wrap64 (x8_1 + 1)) ≤ (a0.size : Int)) = true := decide_eq_true c14
                      by_cases c15 : x7_1.size + ((min ((wrap64 (x8_1 + 1)) : Int).toNat a0.size - (x8_1 : Int).toNat)) ≤ 9223372036854775807
                      · rw [if_pos c15] at H
                        have c15b0 := eq_true c15
                        have c15b1 : decide (x7_1.size + ((min ((wrap64 (x8_1 + 1)) : Int).toNat a0.size - (x8_1 : Int).toNat)) ≤ 9223372036854775807) = true := decide_eq_true c15
                        try have c15b2 : (9223372036854775807 < x7_1.size + ((min ((wrap64 (x8_1 + 1)) : Int).toNat a0.size - (x8_1 : Int).toNat))) = False := eq_false (Nat.not_lt.2 c15)
                        have H' := Aside0.mk H
                        clear H
                        go_wp2
                        have hw8_ := Go.Proofs.YtjklempjljikpaaX.wrap_u8; have hw64_ := Go.Proofs.YtjklempjljikpaaX.wrap_i64; repeat (go_quiet (fail); try go_wp2)
                        any_goals (try (exfalso; have zc4b0 := of_decide_eq_true c4b0; have zc5b0 := of_decide_eq_true c5b0; have zc12b1 := of_decide_eq_true c12b1; have zc13b1 := of_decide_eq_true c13b1; have zc14b1 := of_decide_eq_true c14b1; have zc15b1 := of_decide_eq_true c15b1; omega))
                        go_roundg kj6
                        case measure => have := HK1.out; have := HJ6.out; omega
                        case rel => exact ⟨(x7_1 ++ (a0.extract (x8_1 : Int).toNat ((wrap64 (x8_1 + 1)) : Int).toNat)), (wrap64 (x8_1 + 1)), (by first | rfl | (simp; done) | (simp [*]; done) | (simp [Go.Proofs.YtjklempjljikpaaX.isEmpty_ne]; done)), (by first | rfl | (simp; done) | (simp [*]; done) | (simp [Go.Proofs.YtjklempjljikpaaX.isEmpty_ne]; done)), H', ⟨by have := HK1.out; have := HJ6.out; omega⟩, by repeat (first | exact Drawn0.refl _ | apply Drawn0.step)⟩
                      · rw [if_neg c15] at H
                        exact absurd H (by simp)
                    · rw [if_neg c14] at H
                      exact absurd H (by simp)
                  · rw [if_neg c13] at H
                    exact absurd H (by simp)
                · rw [if_neg c12] at H
                  exact absurd H (by simp)
              · replace c11 := Bool.eq_false_iff.mpr c11
                subst c11
                have H1 : (if (bt a0 x8_1) = 32 then (if a2.toList = ([] : List UInt8) then (if 0 ≤ ((bt a0 x8_1) / 16) then (if ((bt a0 x8_1) / 16) ≤ ((((bt a0 x8_1) / 16) + 1) % 256) then (if ((((bt a0 x8_1) / 16) + 1) % 256) ≤ 16 then (if 1 + ((min (((((bt a0 x8_1) / 16) + 1) % 256) : Int).toNat 16 - (((bt a0 x8_1) / 16) : Int).toNat)) ≤ 9223372036854775807 then (if 0 ≤ (Go.bits .and .u8 (bt a0 x8_1) 15) then (if (Go.bits .and .u8 (bt a0 x8_1) 15) ≤ (((Go.bits .and .u8 (bt a0 x8_1) 15) + 1) % 256) then (if (((Go.bits .and .u8 (bt a0 x8_1) 15) + 1) % 256) ≤ 16 then (if 1 + ((min (((((bt a0 x8_1) / 16) + 1) % 256) : Int).toNat 16 - (((bt a0 x8_1) / 16) : Int).toNat)) + ((min ((((Go.bits .and .u8 (bt a0 x8_1) 15) + 1) % 256) : Int).toNat 16 - ((Go.bits .and .u8 (bt a0 x8_1) 15) : Int).toNat)) ≤ 9223372036854775807 then (if x7_1.size + (1 + ((min (((((bt a0 x8_1) / 16) + 1) % 256) : Int).toNat 16 - (((bt a0 x8_1) / 16) : Int).toNat)) + ((min ((((Go.bits .and .u8 (bt a0 x8_1) 15) + 1) % 256) : Int).toNat 16 - ((Go.bits .and .u8 (bt a0 x8_1) 15) : Int).toNat))) ≤ 9223372036854775807 then (spec_quoted.l0 kj6 a0 a1 a2 (x7_1 ++ (((⟨#[37]⟩ : ByteArray) ++ ((⟨#[48, 49, 50, 51, 52, 53, 54, 55, 56, 57, 65, 66, 67, 68, 69, 70]⟩ : ByteArray).extract (((bt a0 x8_1) / 16) : Int).toNat (((((bt a0 x8_1) / 16) + 1) % 256) : Int).toNat)) ++ ((⟨#[48, 49, 50, 51, 52, 53, 54, 55, 56, 57, 65, 66, 67, 68, 69, 70]⟩ : ByteArray).extract ((Go.bits .and .u8 (bt a0 x8_1) 15) : Int).toNat ((((Go.bits .and .u8 (bt a0 x8_1) 15) + 1) % 256) : Int).toNat))) (wrap64 (x8_1 + 1))) else (none)) else (none)) else (none)) else (none)) else (none)) else (none)) else (none)) else (none)) else (none)) else (if x7_1.size + a2.size ≤ 9223372036854775807 then (spec_quoted.l0 kj6 a0 a1 a2 (x7_1 ++ a2) (wrap64 (x8_1 + 1))) else (none))) else (if 0 ≤ ((bt a0 x8_1) / 16) then (if ((bt a0 x8_1) / 16) ≤ ((((bt a0 x8_1) / 16) + 1) % 256) then (if ((((bt a0 x8_1) / 16) + 1) % 256) ≤ 16 then (if 1 + ((min (((((bt a0 x8_1) / 16) + 1) % 256) : Int).toNat 16 - (((bt a0 x8_1) / 16) : Int).toNat)) ≤ 9223372036854775807 then (if 0 ≤ (Go.bits .and .u8 (bt a0 x8_1) 15) then (if (Go.bits .and .u8 (bt a0 x8_1) 15) ≤ (((Go.bits .and .u8 (bt a0 x8_1) 15) + 1) % 256) then (if (((Go.bits .and .u8 (bt a0 x8_1) 15) + 1) % 256) ≤ 16 then (if 1 + ((min (((((bt a0 x8_1) / 16) + 1) % 256) : Int).toNat 16 - (((bt a0 x8_1) / 16) : Int).toNat)) + ((min ((((Go.bits .and .u8 (bt a0 x8_1) 15) + 1) % 256) : Int).toNat 16 - ((Go.bits .and .u8 (bt a0 x8_1) 15) : Int).toNat)) ≤ 9223372036854775807 then (if x7_1.size + (1 + ((min (((((bt a0 x8_1) / 16) + 1) % 256) : Int).toNat 16 - (((bt a0 x8_1) / 16) : Int).toNat)) + ((min ((((Go.bits .and .u8 (bt a0 x8_1) 15) + 1) % 256) : Int).toNat 16 - ((Go.bits .and .u8 (bt a0 x8_1) 15) : Int).toNat))) ≤ 9223372036854775807 then (spec_quoted.l0 kj6 a0 a1 a2 (x7_1 ++ (((⟨#[37]⟩ : ByteArray) ++ ((⟨#[48, 49, 50, 51, 52, 53, 54, 55, 56, 57, 65, 66, 67, 68, 69, 70]⟩ : ByteArray).extract (((bt a0 x8_1) / 16) : Int).toNat (((((bt a0 x8_1) / 16) + 1) % 256) : Int).toNat)) ++ ((⟨#[48, 49, 50, 51, 52, 53, 54, 55, 56, 57, 65, 66, 67, 68, 69, 70]⟩ : ByteArray).extract ((Go.bits .and .u8 (bt a0 x8_1) 15) : Int).toNat ((((Go.bits .and .u8 (bt a0 x8_1) 15) + 1) % 256) : Int).toNat))) (wrap64 (x8_1 + 1))) else (none)) else (none)) else (none)) else (none)) else (none)) else (none)) else (none)) else (none)) else (none))) = some r := by rw [if_neg (show ¬ (false = true) by decide)] at H; exact H
                clear H
                have H := H1
                clear H1
                by_cases c16 : (bt a0 x8_1) = 32
                · rw [if_pos c16] at H
                  have c16b0 : ((bt a0 x8_1) == 32) = true := beq_iff_eq.mpr c16
                  have c16b1 : ((bt a0 x8_1) != 32) = false := bne_eq_false_iff_eq.mpr c16
                  clear c16
                  by_cases c17 : a2.toList = ([] : List UInt8)
                  · rw [if_pos c17] at H
                    have c17b0 : (a2.toList == ([] : List UInt8)) = true := beq_iff_eq.mpr c17
                    have c17b1 : (a2.toList != ([] : List UInt8)) = false := bne_eq_false_iff_eq.mpr c17
                    clear c17
                    obtain ⟨ji18, hji18⟩ : ∃ j_ : Int, ((bt a0 x8_1) / 16) = j_ := ⟨_, rfl⟩
                    replace H : (if 0 ≤ (ji18) then (if (ji18) ≤ (((ji18) + 1) % 256) then (if (((ji18) + 1) % 256) ≤ 16 then (if 1 + ((min ((((ji18) + 1) % 256) : Int).toNat 16 - ((ji18) : Int).toNat)) ≤ 9223372036854775807 then (if 0 ≤ (Go.bits .and .u8 (bt a0 x8_1) 15) then (if (Go.bits .and .u8 (bt a0 x8_1) 15) ≤ (((Go.bits .and .u8 (bt a0 x8_1) 15) + 1) % 256) then (if (((Go.bits .and .u8 (bt a0 x8_1) 15) + 1) % 256) ≤ 16 then (if 1 + ((min ((((ji18) + 1) % 256) : Int).toNat 16 - ((ji18) : Int).toNat)) + ((min ((((Go.bits .and .u8 (bt a0 x8_1) 15) + 1) % 256) : Int).toNat 16 - ((Go.bits .and .u8 (bt a0 x8_1) 15) : Int).toNat)) ≤ 9223372036854775807 then (if x7_1.size + (1 + ((min ((((ji18) + 1) % 256) : Int).toNat 16 - ((ji18) : Int).toNat)) + ((min ((((Go.bits .and .u8 (bt a0 x8_1) 15) + 1) % 256) : Int).toNat 16 - ((Go.bits .and .u8 (bt a0 x8_1) 15) : Int).toNat))) ≤ 9223372036854775807 then (spec_quoted.l0 kj6 a0 a1 a2 (x7_1 ++ (((⟨#[37]⟩ : ByteArray) ++ ((⟨#[48, 49, 50, 51, 52, 53, 54, 55, 56, 57, 65, 66, 67, 68, 69, 70]⟩ : ByteArray).extract ((ji18) : Int).toNat ((((ji18) + 1) % 256) : Int).toNat)) ++ ((⟨#[48, 49, 50, 51, 52, 53, 54, 55, 56, 57, 65, 66, 67, 68, 69, 70]⟩ : ByteArray).extract ((Go.bits .and .u8 (bt a0 x8_1) 15) : Int).toNat ((((Go.bits .and .u8 (bt a0 x8_1) 15) + 1) % 256) : Int).toNat))) (wrap64 (x8_1 + 1))) else (none)) else (none)) else (none)) else (none)) else (none)) else (none)) else (none)) else (none)) else (none)) = some r := by first | (rw [hji18] at H; exact H) | (simp only [hji18] at H ⊢; exact H)
                    by_cases c19 : 0 ≤ (ji18)
                    · rw [if_pos c19] at H
                      have c19b0 := eq_true c19
                      have c19b1 : decide (0 ≤ (ji18)) = true := decide_eq_true c19
                      clear c19
                      by_cases c20 : (ji18) ≤ (((ji18) + 1) % 256)
                      · rw [if_pos c20] at H
                        have c20b0 := eq_true c20
                        have c20b1 : decide ((ji18) ≤ (((ji18) + 1) % 256)) = true := decide_eq_true c20
                        by_cases c21 : (((ji18) + 1) % 256) ≤ 16
                        · rw [if_pos c21] at H
                          have c21b0 := eq_true c21
                          have c21b1 : decide ((((ji18) + 1) % 256) ≤ 16) = true := decide_eq_true c21
                          by_cases c22 : 1 + ((min ((((ji18) + 1) % 256) : Int).toNat 16 - ((ji18) : Int).toNat)) ≤ 9223372036854775807
                          · rw [if_pos c22] at H
                            have c22b0 := eq_true c22
                            have c22b1 : decide (1 + ((min ((((ji18) + 1) % 256) : Int).toNat 16 - ((ji18) : Int).toNat)) ≤ 9223372036854775807) = true := decide_eq_true c22
                            try have c22b2 : (9223372036854775807 < 1 + ((min ((((ji18) + 1) % 256) : Int).toNat 16 - ((ji18) : Int).toNat))) = False := eq_false (Nat.not_lt.2 c22)
                            by_cases c23 : 0 ≤ (Go.bits .and .u8 (bt a0 x8_1) 15)
                            · rw [if_pos c23] at H
                              have c23b0 := eq_true c23
                              have c23b1 : decide (0 ≤ (Go.bits .and .u8 (bt a0 x8_1) 15)) = true := decide_eq_true c23
                              clear c23
                              by_cases c24 : (Go.bits .and .u8 (bt a0 x8_1) 15) ≤ (((Go.bits .and .u8 (bt a0 x8_1) 15) + 1) % 256)
                              · rw [if_pos c24] at H
                                have c24b0 := eq_true c24
                                have c24b1 : decide ((Go.bits .and .u8 (bt a0 x8_1) 15) ≤ (((Go.bits .and .u8 (bt a0 x8_1) 15) + 1) % 256)) = true := decide_eq_true c24
                                by_cases c25 : (((Go.bits .and .u8 (bt a0 x8_1) 15) + 1) % 256) ≤ 16
                                · rw [if_pos c25] at H
                                  have c25b0 := eq_true c25
                                  have c25b1 : decide ((((Go.bits .and .u8 (bt a0 x8_1) 15) + 1) % 256) ≤ 16) = true := decide_eq_true c25
                                  by_cases c26 : 1 + ((min ((((ji18) + 1) % 256) : Int).toNat 16 - ((ji18) : Int).toNat)) + ((min ((((Go.bits .and .u8 (bt a0 x8_1) 15) + 1) % 256) : Int).toNat 16 - ((Go.bits .and .u8 (bt a0 x8_1) 15) : Int).toNat)) ≤ 9223372036854775807
                                  · rw [if_pos c26] at H
                                    have c26b0 := eq_true c26
                                    have c26b1 : decide (1 + ((min ((((ji18) + 1) % 256) : Int).toNat 16 - ((ji18) : Int).toNat)) + ((min ((((Go.bits .and .u8 (bt a0 x8_1) 15) + 1) % 256) : Int).toNat 16 - ((Go.bits .and .u8 (bt a0 x8_1) 15) : Int).toNat)) ≤ 9223372036854775807) = true := decide_eq_true c26
                                    try have c26b2 : (9223372036854775807 < 1 + ((min ((((ji18) + 1) % 256) : Int).toNat 16 - ((ji18) : Int).toNat)) + ((min ((((Go.bits .and .u8 (bt a0 x8_1) 15) + 1) % 256) : Int).toNat 16 - ((Go.bits .and .u8 (bt a0 x8_1) 15) : Int).toNat))) = False := eq_false (Nat.not_lt.2 c26)
                                    by_cases c27 : x7_1.size + (1 + ((min ((((ji18) + 1) % 256) : Int).toNat 16 - ((ji18) : Int).toNat)) + ((min ((((Go.bits .and .u8 (bt a0 x8_1) 15) + 1) % 256) : Int).toNat 16 - ((Go.bits .and .u8 (bt a0 x8_1) 15) : Int).toNat))) ≤ 9223372036854775807
                                    · rw [if_pos c27] at H
                                      have c27b0 := eq_true c27
                                      have c27b1 : decide (x7_1.size + (1 + ((min ((((ji18) + 1) % 256) : Int).toNat 16 - ((ji18) : Int).toNat)) + ((min ((((Go.bits .and .u8 (bt a0 x8_1) 15) + 1) % 256) : Int).toNat 16 - ((Go.bits .and .u8 (bt a0 x8_1) 15) : Int).toNat))) ≤ 9223372036854775807) = true := decide_eq_true c27
                                      try have c27b2 : (9223372036854775807 < x7_1.size + (1 + ((min ((((ji18) + 1) % 256) : Int).toNat 16 - ((ji18) : Int).toNat)) + ((min ((((Go.bits .and .u8 (bt a0 x8_1) 15) + 1) % 256) : Int).toNat 16 - ((Go.bits .and .u8 (bt a0 x8_1) 15) : Int).toNat)))) = False := eq_false (Nat.not_lt.2 c27)
                                      have H' := Aside0.mk H
                                      clear H
                                      go_wp2
                                      have hw8_ := Go.Proofs.YtjklempjljikpaaX.wrap_u8; have hw64_ := Go.Proofs.YtjklempjljikpaaX.wrap_i64; repeat (go_quiet (fail); try go_wp2)
                                      any_goals (try (exfalso; have zc4b0 := of_decide_eq_true c4b0; have zc5b0 := of_decide_eq_true c5b0; have zc19b1 := of_decide_eq_true c19b1; have zc20b1 := of_decide_eq_true c20b1; have zc21b1 := of_decide_eq_true c21b1; have zc22b1 := of_decide_eq_true c22b1; have zc23b1 := of_decide_eq_true c23b1; have zc24b1 := of_decide_eq_true c24b1; have zc25b1 := of_decide_eq_true c25b1; have zc26b1 := of_decide_eq_true c26b1; have zc27b1 := of_decide_eq_true c27b1; omega))
                                      go_roundg kj6
                                      case measure => have := HK1.out; have := HJ6.out; omega
                                      case rel => exact ⟨(x7_1 ++ (((⟨#[37]⟩ : ByteArray) ++ ((⟨#[48, 49, 50, 51, 52, 53, 54, 55, 56, 57, 65, 66, 67, 68, 69, 70]⟩ : ByteArray).extract ((ji18) : Int).toNat ((((ji18) + 1) % 256) : Int).toNat)) ++ ((⟨#[48, 49, 50, 51, 52, 53, 54, 55, 56, 57, 65, 66, 67, 68, 69, 70]⟩ : ByteArray).extract ((Go.bits .and .u8 (bt a0 x8_1) 15) : Int).toNat ((((Go.bits .and .u8 (bt a0 x8_1) 15) + 1) % 256) : Int).toNat))), (wrap64 (x8_1 + 1)), (by first | rfl | (simp; done) | (simp only [← hji18] <;> (first | rfl | simp)) | (simp [*]; done) | (simp [Go.Proofs.YtjklempjljikpaaX.isEmpty_ne]; done)), (by first | rfl | (simp; done) | (simp [*]; done) | (simp [Go.Proofs.YtjklempjljikpaaX.isEmpty_ne]; done)), H', ⟨by have := HK1.out; have := HJ6.out; omega⟩, by repeat (first | exact Drawn0.refl _ | apply Drawn0.step)⟩
                                    · rw [if_neg c27] at H
                                      exact absurd H (by simp)
                                  · rw [if_neg c26] at H
                                    exact absurd H (by simp)
                                · rw [if_neg c25] at H
                                  exact absurd H (by simp)
                              · rw [if_neg c24] at H
                                exact absurd H (by simp)
                            · rw [if_neg c23] at H
                              exact absurd H (by simp)
                          · rw [if_neg c22] at H
                            exact absurd H (by simp)
                        · rw [if_neg c21] at H
                          exact absurd H (by simp)
                      · rw [if_neg c20] at H
                        exact absurd H (by simp)
                    · rw [if_neg c19] at H
                      exact absurd H (by simp)
                  · rw [if_neg c17] at H
                    have c17b0 : (a2.toList == ([] : List UInt8)) = false := beq_eq_false_iff_ne.mpr c17
                    have c17b1 : (a2.toList != ([] : List UInt8)) = true := bne_iff_ne.mpr c17
                    by_cases c28 : x7_1.size + a2.size ≤ 9223372036854775807
                    · rw [if_pos c28] at H
                      have c28b0 := eq_true c28
                      have c28b1 : decide (x7_1.size + a2.size ≤ 9223372036854775807) = true := decide_eq_true c28
                      try have c28b2 : (9223372036854775807 < x7_1.size + a2.size) = False := eq_false (Nat.not_lt.2 c28)
                      have H' := Aside0.mk H
                      clear H
                      go_wp2
                      have hw8_ := Go.Proofs.YtjklempjljikpaaX.wrap_u8; have hw64_ := Go.Proofs.YtjklempjljikpaaX.wrap_i64; repeat (go_quiet (fail); try go_wp2)
                      any_goals (try (exfalso; have zc4b0 := of_decide_eq_true c4b0; have zc5b0 := of_decide_eq_true c5b0; have zc28b1 := of_decide_eq_true c28b1; omega))
                      go_roundg kj6
                      case measure => have := HK1.out; have := HJ6.out; omega
                      case rel => exact ⟨(x7_1 ++ a2), (wrap64 (x8_1 + 1)), (by first | rfl | (simp; done) | (simp [*]; done) | (simp [Go.Proofs.YtjklempjljikpaaX.isEmpty_ne]; done)), (by first | rfl | (simp; done) | (simp [*]; done) | (simp [Go.Proofs.YtjklempjljikpaaX.isEmpty_ne]; done)), H', ⟨by have := HK1.out; have := HJ6.out; omega⟩, by repeat (first | exact Drawn0.refl _ | apply Drawn0.step)⟩
                    · rw [if_neg c28] at H
                      exact absurd H (by simp)
                · rw [if_neg c16] at H
                  have c16b0 : ((bt a0 x8_1) == 32) = false := beq_eq_false_iff_ne.mpr c16
                  have c16b1 : ((bt a0 x8_1) != 32) = true := bne_iff_ne.mpr c16
                  obtain ⟨ji29, hji29⟩ : ∃ j_ : Int, ((bt a0 x8_1) / 16) = j_ := ⟨_, rfl⟩
                  replace H : (if 0 ≤ (ji29) then (if (ji29) ≤ (((ji29) + 1) % 256) then (if (((ji29) + 1) % 256) ≤ 16 then (if 1 + ((min ((((ji29) + 1) % 256) : Int).toNat 16 - ((ji29) : Int).toNat)) ≤ 9223372036854775807 then (if 0 ≤ (Go.bits .and .u8 (bt a0 x8_1) 15) then (if (Go.bits .and .u8 (bt a0 x8_1) 15) ≤ (((Go.bits .and .u8 (bt a0 x8_1) 15) + 1) % 256) then (if (((Go.bits .and .u8 (bt a0 x8_1) 15) + 1) % 256) ≤ 16 then (if 1 + ((min ((((ji29) + 1) % 256) : Int).toNat 16 - ((ji29) : Int).toNat)) + ((min ((((Go.bits .and .u8 (bt a0 x8_1) 15) + 1) % 256) : Int).toNat 16 - ((Go.bits .and .u8 (bt a0 x8_1) 15) : Int).toNat)) ≤ 9223372036854775807 then (if x7_1.size + (1 + ((min ((((ji29) + 1) % 256) : Int).toNat 16 - ((ji29) : Int).toNat)) + ((min ((((Go.bits .and .u8 (bt a0 x8_1) 15) + 1) % 256) : Int).toNat 16 - ((Go.bits .and .u8 (bt a0 x8_1) 15) : Int).toNat))) ≤ 9223372036854775807 then (spec_quoted.l0 kj6 a0 a1 a2 (x7_1 ++ (((⟨#[37]⟩ : ByteArray) ++ ((⟨#[48, 49, 50, 51, 52, 53, 54, 55, 56, 57, 65, 66, 67, 68, 69, 70]⟩ : ByteArray).extract ((ji29) : Int).toNat ((((ji29) + 1) % 256) : Int).toNat)) ++ ((⟨#[48, 49, 50, 51, 52, 53, 54, 55, 56, 57, 65, 66, 67, 68, 69, 70]⟩ : ByteArray).extract ((Go.bits .and .u8 (bt a0 x8_1) 15) : Int).toNat ((((Go.bits .and .u8 (bt a0 x8_1) 15) + 1) % 256) : Int).toNat))) (wrap64 (x8_1 + 1))) else (none)) else (none)) else (none)) else (none)) else (none)) else (none)) else (none)) else (none)) else (none)) = some r := by first | (rw [hji29] at H; exact H) | (simp only [hji29] at H ⊢; exact H)
                  by_cases c30 : 0 ≤ (ji29)
                  · rw [if_pos c30] at H
                    have c30b0 := eq_true c30
                    have c30b1 : decide (0 ≤ (ji29)) = true := decide_eq_true c30
                    clear c30
                    by_cases c31 : (ji29) ≤ (((ji29) + 1) % 256)
                    · rw [if_pos c31] at H
                      have c31b0 := eq_true c31
                      have c31b1 : decide ((ji29) ≤ (((ji29) + 1) % 256)) = true := decide_eq_true c31
                      by_cases c32 : (((ji29) + 1) % 256) ≤ 16
                      · rw [if_pos c32] at H
                        have c32b0 := eq_true c32
                        have c32b1 : decide ((((ji29) + 1) % 256) ≤ 16) = true := decide_eq_true c32
                        by_cases c33 : 1 + ((min ((((ji29) + 1) % 256) : Int).toNat 16 - ((ji29) : Int).toNat)) ≤ 9223372036854775807
                        · rw [if_pos c33] at H
                          have c33b0 := eq_true c33
                          have c33b1 : decide (1 + ((min ((((ji29) + 1) % 256) : Int).toNat 16 - ((ji29) : Int).toNat)) ≤ 9223372036854775807) = true := decide_eq_true c33
                          try have c33b2 : (9223372036854775807 < 1 + ((min ((((ji29) + 1) % 256) : Int).toNat 16 - ((ji29) : Int).toNat))) = False := eq_false (Nat.not_lt.2 c33)
                          by_cases c34 : 0 ≤ (Go.bits .and .u8 (bt a0 x8_1) 15)
                          · rw [if_pos c34] at H
                            have c34b0 := eq_true c34
                            have c34b1 : decide (0 ≤ (Go.bits .and .u8 (bt a0 x8_1) 15)) = true := decide_eq_true c34
                            clear c34
                            by_cases c35 : (Go.bits .and .u8 (bt a0 x8_1) 15) ≤ (((Go.bits .and .u8 (bt a0 x8_1) 15) + 1) % 256)
                            · rw [if_pos c35] at H
                              have c35b0 := eq_true c35
                              have c35b1 : decide ((Go.bits .and .u8 (bt a0 x8_1) 15) ≤ (((Go.bits .and .u8 (bt a0 x8_1) 15) + 1) % 256)) = true := decide_eq_true c35
                              by_cases c36 : (((Go.bits .and .u8 (bt a0 x8_1) 15) + 1) % 256) ≤ 16
                              · rw [if_pos c36] at H
                                have c36b0 := eq_true c36
                                have c36b1 : decide ((((Go.bits .and .u8 (bt a0 x8_1) 15) + 1) % 256) ≤ 16) = true := decide_eq_true c36
                                by_cases c37 : 1 + ((min ((((ji29) + 1) % 256) : Int).toNat 16 - ((ji29) : Int).toNat)) + ((min ((((Go.bits .and .u8 (bt a0 x8_1) 15) + 1) % 256) : Int).toNat 16 - ((Go.bits .and .u8 (bt a0 x8_1) 15) : Int).toNat)) ≤ 9223372036854775807
                                · rw [if_pos c37] at H
                                  have c37b0 := eq_true c37
                                  have c37b1 : decide (1 + ((min ((((ji29) + 1) % 256) : Int).toNat 16 - ((ji29) : Int).toNat)) + ((min ((((Go.bits .and .u8 (bt a0 x8_1) 15) + 1) % 256) : Int).toNat 16 - ((Go.bits .and .u8 (bt a0 x8_1) 15) : Int).toNat)) ≤ 9223372036854775807) = true := decide_eq_true c37
                                  try have c37b2 : (9223372036854775807 < 1 + ((min ((((ji29) + 1) % 256) : Int).toNat 16 - ((ji29) : Int).toNat)) + ((min ((((Go.bits .and .u8 (bt a0 x8_1) 15) + 1) % 256) : Int).toNat 16 - ((Go.bits .and .u8 (bt a0 x8_1) 15) : Int).toNat))) = False := eq_false (Nat.not_lt.2 c37)
                                  by_cases c38 : x7_1.size + (1 + ((min ((((ji29) + 1) % 256) : Int).toNat 16 - ((ji29) : Int).toNat)) + ((min ((((Go.bits .and .u8 (bt a0 x8_1) 15) + 1) % 256) : Int).toNat 16 - ((Go.bits .and .u8 (bt a0 x8_1) 15) : Int).toNat))) ≤ 9223372036854775807
                                  · rw [if_pos c38] at H
                                    have c38b0 := eq_true c38
                                    have c38b1 : decide (x7_1.size + (1 + ((min ((((ji29) + 1) % 256) : Int).toNat 16 - ((ji29) : Int).toNat)) + ((min ((((Go.bits .and .u8 (bt a0 x8_1) 15) + 1) % 256) : Int).toNat 16 - ((Go.bits .and .u8 (bt a0 x8_1) 15) : Int).toNat))) ≤ 9223372036854775807) = true := decide_eq_true c38
                                    try have c38b2 : (9223372036854775807 < x7_1.size + (1 + ((min ((((ji29) + 1) % 256) : Int).toNat 16 - ((ji29) : Int).toNat)) + ((min ((((Go.bits .and .u8 (bt a0 x8_1) 15) + 1) % 256) : Int).toNat 16 - ((Go.bits .and .u8 (bt a0 x8_1) 15) : Int).toNat)))) = False := eq_false (Nat.not_lt.2 c38)
                                    have H' := Aside0.mk H
                                    clear H
                                    go_wp2
                                    have hw8_ := Go.Proofs.YtjklempjljikpaaX.wrap_u8; have hw64_ := Go.Proofs.YtjklempjljikpaaX.wrap_i64; repeat (go_quiet (fail); try go_wp2)
                                    any_goals (try (exfalso; have zc4b0 := of_decide_eq_true c4b0; have zc5b0 := of_decide_eq_true c5b0; have zc30b1 := of_decide_eq_true c30b1; have zc31b1 := of_decide_eq_true c31b1; have zc32b1 := of_decide_eq_true c32b1; have zc33b1 := of_decide_eq_true c33b1; have zc34b1 := of_decide_eq_true c34b1; have zc35b1 := of_decide_eq_true c35b1; have zc36b1 := of_decide_eq_true c36b1; have zc37b1 := of_decide_eq_true c37b1; have zc38b1 := of_decide_eq_true c38b1; omega))
                                    go_roundg kj6
                                    case measure => have := HK1.out; have := HJ6.out; omega
                                    case rel => exact ⟨(x7_1 ++ (((⟨#[37]⟩ : ByteArray) ++ ((⟨#[48, 49, 50, 51, 52, 53, 54, 55, 56, 57, 65, 66, 67, 68, 69, 70]⟩ : ByteArray).extract ((ji29) : Int).toNat ((((ji29) + 1) % 256) : Int).toNat)) ++ ((⟨#[48, 49, 50, 51, 52, 53, 54, 55, 56, 57, 65, 66, 67, 68, 69, 70]⟩ : ByteArray).extract ((Go.bits .and .u8 (bt a0 x8_1) 15) : Int).toNat ((((Go.bits .and .u8 (bt a0 x8_1) 15) + 1) % 256) : Int).toNat))), (wrap64 (x8_1 + 1)), (by first | rfl | (simp; done) | (simp only [← hji29] <;> (first | rfl | simp)) | (simp [*]; done) | (simp [Go.Proofs.YtjklempjljikpaaX.isEmpty_ne]; done)), (by first | rfl | (simp; done) | (simp [*]; done) | (simp [Go.Proofs.YtjklempjljikpaaX.isEmpty_ne]; done)), H', ⟨by have := HK1.out; have := HJ6.out; omega⟩, by repeat (first | exact Drawn0.refl _ | apply Drawn0.step)⟩
                                  · rw [if_neg c38] at H
                                    exact absurd H (by simp)
                                · rw [if_neg c37] at H
                                  exact absurd H (by simp)
                              · rw [if_neg c36] at H
                                exact absurd H (by simp)
                            · rw [if_neg c35] at H
                              exact absurd H (by simp)
                          · rw [if_neg c34] at H
                            exact absurd H (by simp)
                        · rw [if_neg c33] at H
                          exact absurd H (by simp)
                      · rw [if_neg c32] at H
                        exact absurd H (by simp)
                    · rw [if_neg c31] at H
                      exact absurd H (by simp)
                  · rw [if_neg c30] at H
                    exact absurd H (by simp)
        · rw [if_neg c5] at H
          exact absurd H (by simp)
      · rw [if_neg c4] at H
        have c4b0 : decide (x8_1 < (a0.size : Int)) = false := decide_eq_false c4
        clear c4
        obtain rfl := Option.some.inj H
        go_wp2
        have hw8_ := Go.Proofs.YtjklempjljikpaaX.wrap_u8; have hw64_ := Go.Proofs.YtjklempjljikpaaX.wrap_i64; repeat (go_quiet (fail); try go_wp2)
        go_ret
        exact ⟨by first | rfl | (simp; done) | (simp [*]; done) | (simp [Go.Proofs.YtjklempjljikpaaX.isEmpty_ne]; done), by repeat (first | exact Drawn0.refl _ | apply Drawn0.step)⟩

end Go.Proofs.Ytjklempjljikpaa.Q
