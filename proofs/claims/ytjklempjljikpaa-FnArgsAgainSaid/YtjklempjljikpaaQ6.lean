import Derived.Test.YtjklempjljikpaaQ0
import Derived.Test.YtjklempjljikpaaQ1
-- Written by a program of this session out of the translation, with the kit's printer. Not trusted: Lean checks it.
namespace Go.Proofs.Ytjklempjljikpaa.Q
open Go.RowKit Go.Proofs.YtjklempjljikpaaW.PrintWords Go.Proofs.YtjklempjljikpaaW.PrintLast Go.Proofs.YtjklempjljikpaaW.PrintMore
attribute [local go_sem] max2_int min2_int max_two min_two max_three min_three max_four min_four   -- for this text's walks alone
set_option linter.unusedVariables false
set_option linter.unusedSimpArgs false

attribute [local go_sem high] eqA36
/-! ### laws_sameArgs: function 24 -/
def laws_sameArgs.l0 : Nat → List (S36) → List (S36) → Int → Int → Option (Bool)
  | 0, _, _, _, _ => none
  | k + 1, x0, x1, x12, x13 => if x13 < x12 then (if 0 ≤ x13 then (if x13 < (x0.length : Int) then (if x13 < (x1.length : Int) then (if (!((((rd_T36 x0 x13).f0).toList) == (((rd_T36 x1 x13).f0).toList)) || (!((((rd_T36 x0 x13).f1).toList) == (((rd_T36 x1 x13).f1).toList)) || (!(((rd_T36 x0 x13).f2) == ((rd_T36 x1 x13).f2))))) = true then (some false) else (laws_sameArgs.l0 k x0 x1 x12 (wrap64 (x13 + 1)))) else (none)) else (none)) else (none)) else (some true)
def laws_sameArgs.f (k : Nat) (l0 : List (S36)) (l1 : List (S36)) : Option (Bool) := if (l0.length : Int) = (l1.length : Int) then (laws_sameArgs.l0 k l0 l1 (l0.length : Int) 0) else (some false)
theorem laws_sameArgs.mono_l : ∀ k, (∀ y0 y1 y2 y3, LeO (laws_sameArgs.l0 k y0 y1 y2 y3) (laws_sameArgs.l0 (k + 1) y0 y1 y2 y3))
  | 0 => fun _ _ _ _ r h => by simp [laws_sameArgs.l0] at h
  | k + 1 => by
    have ih0 := laws_sameArgs.mono_l k
    · intro y0 y1 y2 y3
      unfold laws_sameArgs.l0
      repeat' first
      | (with_reducible exact ih0 _ _ _ _)
      | (with_reducible exact LeO.refl _)
      | (with_reducible exact LeO.none _)
      | (with_reducible refine LeO.ite ?_ ?_)
      | (with_reducible refine LeO.bind ?_ (fun _ => ?_))
      | exact ih0 _ _ _ _
      | exact LeO.none _
      | refine LeO.ite ?_ ?_
      | refine LeO.bind ?_ (fun _ => ?_)
theorem laws_sameArgs.mono : ∀ a0 a1 k, LeO (laws_sameArgs.f k a0 a1) (laws_sameArgs.f (k + 1) a0 a1) := by
  intro a0 a1 k
  have ih0 := laws_sameArgs.mono_l k
  unfold laws_sameArgs.f
  repeat' first
      | (with_reducible exact ih0 _ _ _ _)
      | (with_reducible exact LeO.refl _)
      | (with_reducible exact LeO.none _)
      | (with_reducible refine LeO.ite ?_ ?_)
      | (with_reducible refine LeO.bind ?_ (fun _ => ?_))
      | exact ih0 _ _ _ _
      | exact LeO.none _
      | refine LeO.ite ?_ ?_
      | refine LeO.bind ?_ (fun _ => ?_)
set_option maxHeartbeats 8000000 in
set_option maxRecDepth 100000 in
theorem laws_sameArgs.calls (k : Nat) (A0 : Option Addr) (c0 : Nat) (l0 : List (S36)) (A1 : Option Addr) (c1 : Nat) (l1 : List (S36)) (r : Bool) (w : World) (hr0 : Kd.C k36 w A0 l0.length l0) (hc0 : l0.length ≤ c0) (hr1 : Kd.C k36 w A1 l1.length l1) (hc1 : l1.length ≤ c1) (h : laws_sameArgs.f k l0 l1 = some r) :
    Calls Try.prog 24 #[.slice A0 l0.length c0, .slice A1 l1.length c1] w fun e w' => e = .returned (.bool r) ∧ Drawn0 w w' := by
  have hu36 := Try.underlying36
  have HR0 := Aside0.mk hr0
  have HC0 := Aside0.mk hc0
  clear hr0 hc0
  have HR1 := Aside0.mk hr1
  have HC1 := Aside0.mk hc1
  clear hr1 hc1
  have H : (if (l0.length : Int) = (l1.length : Int) then (laws_sameArgs.l0 k l0 l1 (l0.length : Int) 0) else (some false)) = some r := h
  clear h
  by_cases c3 : (l0.length : Int) = (l1.length : Int)
  · rw [if_pos c3] at H
    have c3b0 : ((l0.length : Int) == (l1.length : Int)) = true := beq_iff_eq.mpr c3
    have c3b1 : ((l0.length : Int) != (l1.length : Int)) = false := bne_eq_false_iff_eq.mpr c3
    have c3b2 : (l0.length == l1.length) = true := by first | simpa using c3 | (simp at c3 ⊢; omega)
    clear c3
    have H' := Aside0.mk H
    clear H
    go_enter Try.func24, Try.ntmps24
    go_wp2
    have hw8_ := Go.Proofs.YtjklempjljikpaaX.wrap_u8; have hw64_ := Go.Proofs.YtjklempjljikpaaX.wrap_i64; repeat (go_quiet (fail); try go_wp2)
    go_loopg [13] k (fun kq v13 w' => ∃ (x13_1 : Int), v13 = .int .i64 x13_1 ∧ Aside0 (laws_sameArgs.l0 kq l0 l1 (l0.length : Int) x13_1 = some r) ∧ Aside0 (kq ≤ k) ∧ Drawn0 w w')
    case atStart => exact ⟨(0), (by first | rfl | (simp; done) | (simp [*]; done) | (simp [Go.Proofs.YtjklempjljikpaaX.isEmpty_ne]; done)), H', ⟨Nat.le_refl _⟩, by repeat (first | exact Drawn0.refl _ | apply Drawn0.step)⟩
    case round =>
      clear H'
      try clear c1
      try clear c2
      try clear p2
      try clear c3
      try clear c3b0
      try clear c3b1
      try clear c3b2
      obtain ⟨x13_1, rfl, HA, HK1, ⟨m1, rfl⟩⟩ := hrel
      cases gk with
      | zero => exact absurd HA.out (by simp [laws_sameArgs.l0])
      | succ k1 =>
        have H := HA.out
        clear HA
        simp only [laws_sameArgs.l0] at H
        by_cases c4 : x13_1 < (l0.length : Int)
        · rw [if_pos c4] at H
          have c4b0 : decide (x13_1 < (l0.length : Int)) = true := decide_eq_true c4
          clear c4
          by_cases c5 : 0 ≤ x13_1
          · rw [if_pos c5] at H
            have c5b0 : decide (0 ≤ x13_1) = true := decide_eq_true c5
            clear c5
            by_cases c6 : x13_1 < (l0.length : Int)
            · rw [if_pos c6] at H
              have c6b0 : decide (x13_1 < (l0.length : Int)) = true := decide_eq_true c6
              clear c6
              by_cases c7 : x13_1 < (l1.length : Int)
              · rw [if_pos c7] at H
                have c7b0 : decide (x13_1 < (l1.length : Int)) = true := decide_eq_true c7
                clear c7
                by_cases c8 : (!((((rd_T36 l0 x13_1).f0).toList) == (((rd_T36 l1 x13_1).f0).toList)) || (!((((rd_T36 l0 x13_1).f1).toList) == (((rd_T36 l1 x13_1).f1).toList)) || (!(((rd_T36 l0 x13_1).f2) == ((rd_T36 l1 x13_1).f2))))) = true
                · rw [if_pos c8] at H
                  have c8b0 : (!((((rd_T36 l0 x13_1).f0).toList) == (((rd_T36 l1 x13_1).f0).toList)) || (!((((rd_T36 l0 x13_1).f1).toList) == (((rd_T36 l1 x13_1).f1).toList)) || (!(((rd_T36 l0 x13_1).f2) == ((rd_T36 l1 x13_1).f2))))) = true := c8
                  clear c8
                  obtain rfl := Option.some.inj H
                  have p147 : 0 ≤ (x13_1 : Int) := of_decide_eq_true (by first | (with_reducible assumption) | assumption)
                  have q147 : x13_1 < (l0.length : Int) := of_decide_eq_true (by first | (with_reducible assumption) | assumption)
                  obtain ⟨ad147, e147, hx147_0, hx147_1, hx147_2⟩ := at_T36 HR0.out x13_1 p147 q147
                  cases e147
                  replace p147 := eq_true p147
                  replace q147 := eq_true q147
                  have p148 : 0 ≤ (x13_1 : Int) := of_decide_eq_true (by first | (with_reducible assumption) | assumption)
                  have q148 : x13_1 < (l1.length : Int) := of_decide_eq_true (by first | (with_reducible assumption) | assumption)
                  obtain ⟨ad148, e148, hx148_0, hx148_1, hx148_2⟩ := at_T36 HR1.out x13_1 p148 q148
                  cases e148
                  replace p148 := eq_true p148
                  replace q148 := eq_true q148
                  go_wp2
                  have hw8_ := Go.Proofs.YtjklempjljikpaaX.wrap_u8; have hw64_ := Go.Proofs.YtjklempjljikpaaX.wrap_i64; repeat (go_quiet (fail); try go_wp2)
                  go_ret
                  exact ⟨by first | rfl | (simp; done) | (simp [*]; done) | (simp [Go.Proofs.YtjklempjljikpaaX.isEmpty_ne]; done), by repeat (first | exact Drawn0.refl _ | apply Drawn0.step)⟩
                · rw [if_neg c8] at H
                  have c8b0 : (!((((rd_T36 l0 x13_1).f0).toList) == (((rd_T36 l1 x13_1).f0).toList)) || (!((((rd_T36 l0 x13_1).f1).toList) == (((rd_T36 l1 x13_1).f1).toList)) || (!(((rd_T36 l0 x13_1).f2) == ((rd_T36 l1 x13_1).f2))))) = false := by simpa using c8
                  clear c8
                  have H' := Aside0.mk H
                  clear H
                  have p147 : 0 ≤ (x13_1 : Int) := of_decide_eq_true (by first | (with_reducible assumption) | assumption)
                  have q147 : x13_1 < (l0.length : Int) := of_decide_eq_true (by first | (with_reducible assumption) | assumption)
                  obtain ⟨ad147, e147, hx147_0, hx147_1, hx147_2⟩ := at_T36 HR0.out x13_1 p147 q147
                  cases e147
                  replace p147 := eq_true p147
                  replace q147 := eq_true q147
                  have p148 : 0 ≤ (x13_1 : Int) := of_decide_eq_true (by first | (with_reducible assumption) | assumption)
                  have q148 : x13_1 < (l1.length : Int) := of_decide_eq_true (by first | (with_reducible assumption) | assumption)
                  obtain ⟨ad148, e148, hx148_0, hx148_1, hx148_2⟩ := at_T36 HR1.out x13_1 p148 q148
                  cases e148
                  replace p148 := eq_true p148
                  replace q148 := eq_true q148
                  go_wp2
                  have hw8_ := Go.Proofs.YtjklempjljikpaaX.wrap_u8; have hw64_ := Go.Proofs.YtjklempjljikpaaX.wrap_i64; repeat (go_quiet (fail); try go_wp2)
                  go_roundg k1
                  case measure => have := HK1.out; omega
                  case rel => exact ⟨(wrap64 (x13_1 + 1)), (by first | rfl | (simp; done) | (simp [*]; done) | (simp [Go.Proofs.YtjklempjljikpaaX.isEmpty_ne]; done)), H', ⟨by have := HK1.out; omega⟩, by repeat (first | exact Drawn0.refl _ | apply Drawn0.step)⟩
              · rw [if_neg c7] at H
                exact absurd H (by simp)
            · rw [if_neg c6] at H
              exact absurd H (by simp)
          · rw [if_neg c5] at H
            exact absurd H (by simp)
        · rw [if_neg c4] at H
          have c4b0 : decide (x13_1 < (l0.length : Int)) = false := decide_eq_false c4
          clear c4
          obtain rfl := Option.some.inj H
          go_wp2
          have hw8_ := Go.Proofs.YtjklempjljikpaaX.wrap_u8; have hw64_ := Go.Proofs.YtjklempjljikpaaX.wrap_i64; repeat (go_quiet (fail); try go_wp2)
          go_ret
          exact ⟨by first | rfl | (simp; done) | (simp [*]; done) | (simp [Go.Proofs.YtjklempjljikpaaX.isEmpty_ne]; done), by repeat (first | exact Drawn0.refl _ | apply Drawn0.step)⟩
  · rw [if_neg c3] at H
    have c3b0 : ((l0.length : Int) == (l1.length : Int)) = false := beq_eq_false_iff_ne.mpr c3
    have c3b1 : ((l0.length : Int) != (l1.length : Int)) = true := bne_iff_ne.mpr c3
    have c3b2 : (l0.length == l1.length) = false := by first | simpa using c3 | (simp at c3 ⊢; omega)
    obtain rfl := Option.some.inj H
    go_enter Try.func24, Try.ntmps24
    go_wp2
    have hw8_ := Go.Proofs.YtjklempjljikpaaX.wrap_u8; have hw64_ := Go.Proofs.YtjklempjljikpaaX.wrap_i64; repeat (go_quiet (fail); try go_wp2)
    go_ret
    exact ⟨by first | rfl | (simp; done) | (simp [*]; done) | (simp [Go.Proofs.YtjklempjljikpaaX.isEmpty_ne]; done), by repeat (first | exact Drawn0.refl _ | apply Drawn0.step)⟩

-- NOT PRINTED: function 54 (hertzproto_appendArg)

-- NOT PRINTED: function 40 (hertzproto_ZzArgs)

/-! ### impl_given: function 41 -/
def impl_given.l0 : Nat → List (S74) → List (S36) → Int → Int → Option ((List (S74)))
  | 0, _, _, _, _ => none
  | k + 1, x3, x6, x7, x8 => if x8 < x7 then (if 0 ≤ x8 then (if x8 < (x6.length : Int) then (if x3.length < 3518437208883 then (impl_given.l0 k (x3 ++ [(⟨(rd_T36 x6 x8).f0, (rd_T36 x6 x8).f1, (rd_T36 x6 x8).f2⟩ : S74)]) x6 x7 (wrap64 (x8 + 1))) else (none)) else (none)) else (none)) else (some x3)
def impl_given.f (k : Nat) (l0 : List (S36)) : Option ((List (S74))) := impl_given.l0 k ([] : List (S74)) l0 (l0.length : Int) 0
theorem impl_given.mono_l : ∀ k, (∀ y0 y1 y2 y3, LeO (impl_given.l0 k y0 y1 y2 y3) (impl_given.l0 (k + 1) y0 y1 y2 y3))
  | 0 => fun _ _ _ _ r h => by simp [impl_given.l0] at h
  | k + 1 => by
    have ih0 := impl_given.mono_l k
    · intro y0 y1 y2 y3
      unfold impl_given.l0
      repeat' first
      | (with_reducible exact ih0 _ _ _ _)
      | (with_reducible exact LeO.refl _)
      | (with_reducible exact LeO.none _)
      | (with_reducible refine LeO.ite ?_ ?_)
      | (with_reducible refine LeO.bind ?_ (fun _ => ?_))
      | exact ih0 _ _ _ _
      | exact LeO.none _
      | refine LeO.ite ?_ ?_
      | refine LeO.bind ?_ (fun _ => ?_)
theorem impl_given.mono : ∀ a0 k, LeO (impl_given.f k a0) (impl_given.f (k + 1) a0) := by
  intro a0 k
  have ih0 := impl_given.mono_l k
  unfold impl_given.f
  repeat' first
      | (with_reducible exact ih0 _ _ _ _)
      | (with_reducible exact LeO.refl _)
      | (with_reducible exact LeO.none _)
      | (with_reducible refine LeO.ite ?_ ?_)
      | (with_reducible refine LeO.bind ?_ (fun _ => ?_))
      | exact ih0 _ _ _ _
      | exact LeO.none _
      | refine LeO.ite ?_ ?_
      | refine LeO.bind ?_ (fun _ => ?_)
set_option maxHeartbeats 8000000 in
set_option maxRecDepth 100000 in
theorem impl_given.calls (k : Nat) (A0 : Option Addr) (c0 : Nat) (l0 : List (S36)) (r : List (S74)) (w : World) (hr0 : Kd.C k36 w A0 l0.length l0) (hc0 : l0.length ≤ c0) (h : impl_given.f k l0 = some r) :
    Calls Try.prog 41 #[.slice A0 l0.length c0] w fun e w' => ∃ v0_ : Value, e = .returned (v0_) ∧ Kd.R k74 74 w' w.heap.size (fun _ => True) v0_ r ∧ Below w.heap.size w w' := by
  have hu36 := Try.underlying36
  have HR0 := Aside0.mk hr0
  have HC0 := Aside0.mk hc0
  clear hr0 hc0
  have HB := Aside0.mk (Below.refl w.heap.size w)
  have H : (impl_given.l0 k ([] : List (S74)) l0 (l0.length : Int) 0) = some r := h
  clear h
  have H' := Aside0.mk H
  clear H
  go_enter Try.func41, Try.ntmps41
  go_wp2
  go_loopg [3, 8] k (fun kq v3 v8 w' => ∃ (x3_1 : List (S74)) (x8_1 : Int), v8 = .int .i64 x8_1 ∧ Aside0 (impl_given.l0 kq x3_1 l0 (l0.length : Int) x8_1 = some r) ∧ Aside0 (kq ≤ k) ∧ Aside0 (Kd.R k74 74 w' w.heap.size (fun _ => True) v3 x3_1) ∧ Aside0 (Below w.heap.size w w'))
  case atStart => exact ⟨(([] : List (S74))), (0), (by first | rfl | (simp; done) | (simp [*]; done) | (simp [Go.Proofs.YtjklempjljikpaaX.isEmpty_ne]; done)), H', ⟨Nat.le_refl _⟩, ⟨by first | exact Kd.R_nil _ _ _ _ _ | exact Kd.N_nil _ _ _ _ _ | exact Kd.V_nil _ _ _ _ _ | exact Kd.Q_nil _ _ _ _ _ | exact Kd.S_nil _ _ _ _ _⟩, ⟨by repeat (first | (with_reducible first | exact HB.out | apply below_alloc | apply pw_below_drewN | apply below_drew1) | exact HB.out)⟩⟩
  case round =>
    clear H'
    obtain ⟨x3_1, x8_1, rfl, HA, HK1, HO_3, HB⟩ := hrel
    cases gk with
    | zero => exact absurd HA.out (by simp [impl_given.l0])
    | succ k1 =>
      have H := HA.out
      clear HA
      simp only [impl_given.l0] at H
      by_cases c2 : x8_1 < (l0.length : Int)
      · rw [if_pos c2] at H
        have c2b0 : decide (x8_1 < (l0.length : Int)) = true := decide_eq_true c2
        clear c2
        by_cases c3 : 0 ≤ x8_1
        · rw [if_pos c3] at H
          have c3b0 : decide (0 ≤ x8_1) = true := decide_eq_true c3
          clear c3
          by_cases c4 : x8_1 < (l0.length : Int)
          · rw [if_pos c4] at H
            have c4b0 : decide (x8_1 < (l0.length : Int)) = true := decide_eq_true c4
            clear c4
            by_cases c5 : x3_1.length < 3518437208883
            · rw [if_pos c5] at H
              have LMc5 := Aside0.mk c5
              clear c5
              obtain ⟨y154, hy154⟩ : ∃ y_ : List (S74), y_ = (x3_1 ++ [(⟨(rd_T36 l0 x8_1).f0, (rd_T36 l0 x8_1).f1, (rd_T36 l0 x8_1).f2⟩ : S74)]) := ⟨_, rfl⟩
              replace H : (impl_given.l0 k1 y154 l0 (l0.length : Int) (wrap64 (x8_1 + 1))) = some r := by first | (rw [hy154]; with_reducible exact H) | (have H2_ := (Option.bind_some _ _).symm.trans H; rw [hy154]; with_reducible exact H2_) | (have H2_ := (Option.bind_some _ _).symm.trans H; with_reducible exact H2_) | with_reducible exact H | (rw [hy154]; exact H) | exact H
              have Ny154 := Aside0.mk hy154
              clear hy154
              have H' := Aside0.mk H
              clear H
              have p152 : 0 ≤ (x8_1 : Int) := of_decide_eq_true (by first | (with_reducible assumption) | assumption)
              have q152 : x8_1 < (l0.length : Int) := of_decide_eq_true (by first | (with_reducible assumption) | assumption)
              obtain ⟨ad152, e152, hx152_0, hx152_1, hx152_2⟩ := at_T36 HR0.out x8_1 p152 q152
              cases e152
              replace hx152_0 := (HB.out.cell (World.block_lt_of_cell? w _ hx152_0)).trans hx152_0
              replace hx152_1 := (HB.out.cell (World.block_lt_of_cell? w _ hx152_1)).trans hx152_1
              replace hx152_2 := (HB.out.cell (World.block_lt_of_cell? w _ hx152_2)).trans hx152_2
              replace p152 := eq_true p152
              replace q152 := eq_true q152
              go_wp2_with (first | ((with_reducible refine gate_dst (N := 5) rfl ?_); refine box_event ?hg (N := 5) ?hd (cs := #[.string (⟨#[]⟩ : ByteArray), .string (⟨#[]⟩ : ByteArray), .bool false]) (t := 36) ?hr ?_; (case hd => rfl); (case hg => rfl); (case hr => first | (go_simp; done) | (go_simp; rfl)); intro gb153 hg w6 hbox hb; have n0_ := Aside0.mk (Kd.R_below (by (with_reducible repeat (first | apply Kd.R_alloc | apply Kd.R_drewN | apply Kd.R_drew)); exact HO_3.out) hb); have n1_ := Aside0.mk (below_step (by repeat (first | (with_reducible first | exact HB.out | apply below_alloc | apply pw_below_drewN | apply below_drew1) | exact HB.out)) hb); have n2_ := Aside0.mk (hbox); have n3_ := Aside0.mk ((by rw [hg]; exact (below_size (by repeat (first | (with_reducible first | exact HB.out | apply below_alloc | apply pw_below_drewN | apply below_drew1) | exact HB.out))) : w.heap.size ≤ gb153)); have n4_ := Aside0.mk ((by rw [hg]; exact (below_size (by repeat (first | (with_reducible first | exact HB.out | apply below_alloc | apply pw_below_drewN | apply below_drew1) | exact HB.out))) : w.heap.size ≤ gb153)); clear HO_3; clear HB; have HO_3 := n0_; have HB := n1_; have BK153 := n2_; have GW153 := n3_; have GE153 := n4_; clear n0_ n1_ n2_ n3_ n4_; clear hb hbox hg; have hcz7_0 : w6.cell? ⟨gb153, 0, none⟩ = some (.string (⟨#[]⟩ : ByteArray)) := (blk_cell BK153.out 0).trans rfl; have hcz7_1 : w6.cell? ⟨gb153, 1, none⟩ = some (.string (⟨#[]⟩ : ByteArray)) := (blk_cell BK153.out 1).trans rfl; have hcz7_2 : w6.cell? ⟨gb153, 2, none⟩ = some (.bool false) := (blk_cell BK153.out 2).trans rfl; have hfz7_0 := blk_frozen BK153.out 0; have hfz7_1 := blk_frozen BK153.out 1; have hfz7_2 := blk_frozen BK153.out 2) | ((with_reducible refine gate_builtin (b := .append) (xs := #[.tmp 12, .tmp 14]) rfl ?_); at_builtin; refine Kd.R_append k74 (w0 := w) w.heap.size rfl (.tmp 12) (.tmp 14) 53 74 (.agg #[(.string ⟨#[]⟩), (.string ⟨#[]⟩), (.bool false)]) 40 rfl Try.underlying53 info74 rfl (by decide) (by omega) u3 x3_1 (⟨(rd_T36 l0 x8_1).f0, (rd_T36 l0 x8_1).f1, (rd_T36 l0 x8_1).f2⟩ : S74) [.string ((rd_T36 l0 x8_1).f0), .string ((rd_T36 l0 x8_1).f1), .bool ((rd_T36 l0 x8_1).f2)] (fun _ => True) (fun _ => False) rfl (by first | (go_simp; done) | (go_simp; rfl)) ?aP (fun _ hk => hk.elim) ?aF ?aO ?aB ?aS ?aL ?_; (case aP => exact k74_mkM _ _ _ (⟨(rd_T36 l0 x8_1).f0, (rd_T36 l0 x8_1).f1, (rd_T36 l0 x8_1).f2⟩ : S74)); (case aB => exact (by repeat (first | (with_reducible first | exact HB.out | apply below_alloc | apply pw_below_drewN | apply below_drew1 | refine below_set ?_ GE153.out) | exact HB.out))); (case aF => exact (fun _ _ => trivial)); (case aO => exact (by (with_reducible repeat (first | apply Kd.R_alloc | apply Kd.R_drewN | apply Kd.R_drew)); exact Kd.R_mono (Kd.R_far (p := ⟨gb153, 2, none⟩) (Kd.R_far (p := ⟨gb153, 1, none⟩) (Kd.R_far (p := ⟨gb153, 0, none⟩) (Kd.R_types HO_3.out BK153.out (by decide)) (fun _ hk => hk.2) (.string ((rd_T36 l0 x8_1).f0))) (fun _ hk => hk.2) (.string ((rd_T36 l0 x8_1).f1))) (fun _ hk => hk.2) (.bool ((rd_T36 l0 x8_1).f2))) (fun _ hk => trivial))); (case aS => exact (below_size (by repeat (first | (with_reducible first | exact HB.out | apply below_alloc | apply pw_below_drewN | apply below_drew1 | refine below_set ?_ GE153.out) | exact HB.out)))); (case aL => have := LMc5.out; omega); intro v155 w8 ho hb hg hat; rw [← Ny154.out] at ho; have n0_ := Aside0.mk (blk_grown (g := gb153) (o := .cells #[.string ((rd_T36 l0 x8_1).f0), .string ((rd_T36 l0 x8_1).f1), .bool ((rd_T36 l0 x8_1).f2)] 36 (0, 0)) (by (with_reducible repeat (first | refine blk_drewN ?_ _ | refine blk_drew ?_ | refine blk_alloc ?_ _)); refine blk_put (cs := #[.string ((rd_T36 l0 x8_1).f0), .string ((rd_T36 l0 x8_1).f1), .bool false]) ?_ 2 _ rfl; (with_reducible repeat (first | refine blk_drewN ?_ _ | refine blk_drew ?_ | refine blk_alloc ?_ _)); refine blk_put (cs := #[.string ((rd_T36 l0 x8_1).f0), .string (⟨#[]⟩ : ByteArray), .bool false]) ?_ 1 _ rfl; (with_reducible repeat (first | refine blk_drewN ?_ _ | refine blk_drew ?_ | refine blk_alloc ?_ _)); refine blk_put (cs := #[.string (⟨#[]⟩ : ByteArray), .string (⟨#[]⟩ : ByteArray), .bool false]) ?_ 0 _ rfl; (with_reducible repeat (first | refine blk_drewN ?_ _ | refine blk_drew ?_ | refine blk_alloc ?_ _)); exact BK153.out) hg (Kd.R_ne HO_3.out BK153.out (by decide))); have n1_ := Aside0.mk (hb); have n2_ := Aside0.mk (ho); clear BK153; clear HB; clear HO_3; have BK153 := n0_; have HB := n1_; have HO156 := n2_; clear n0_ n1_ n2_; clear ho hb hg hat))
              go_roundg k1
              case measure => have := HK1.out; omega
              case rel => exact ⟨(y154), (wrap64 (x8_1 + 1)), (by first | rfl | (simp; done) | (simp [*]; done) | (simp [Go.Proofs.YtjklempjljikpaaX.isEmpty_ne]; done)), H', ⟨by have := HK1.out; omega⟩, ⟨by (with_reducible repeat (first | apply Kd.R_alloc | apply Kd.R_drewN | apply Kd.R_drew)); exact HO156.out⟩, ⟨by repeat (first | (with_reducible first | exact HB.out | apply below_alloc | apply pw_below_drewN | apply below_drew1 | refine below_set ?_ GE153.out) | exact HB.out)⟩⟩
            · rw [if_neg c5] at H
              exact absurd H (by simp)
          · rw [if_neg c4] at H
            exact absurd H (by simp)
        · rw [if_neg c3] at H
          exact absurd H (by simp)
      · rw [if_neg c2] at H
        have c2b0 : decide (x8_1 < (l0.length : Int)) = false := decide_eq_false c2
        clear c2
        obtain rfl := Option.some.inj H
        go_wp2
        go_ret
        exact ⟨_, by first | rfl | (simp [errW_none, errW_some] <;> rfl) | (simp [*, errW_none, errW_some] <;> rfl), by (with_reducible repeat (first | apply Kd.R_alloc | apply Kd.R_drewN | apply Kd.R_drew)); exact HO_3.out, by repeat (first | (with_reducible first | exact HB.out | apply below_alloc | apply pw_below_drewN | apply below_drew1) | exact HB.out)⟩

end Go.Proofs.Ytjklempjljikpaa.Q
