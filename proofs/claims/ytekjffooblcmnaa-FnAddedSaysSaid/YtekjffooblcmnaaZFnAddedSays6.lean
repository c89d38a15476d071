/- FnAddedSays: the law's function, called with any arguments, returns true and leaves its arguments as they were: every input, no condition. Part 7 of 8. -/
import Derived.Test.YtekjffooblcmnaaZFnAddedSays0
import Derived.Test.YtekjffooblcmnaaZFnAddedSays5
import Derived.Deep.Slices
import Derived.ChangeSame
set_option linter.unusedVariables false
set_option linter.unusedSimpArgs false
set_option linter.unusedSectionVars false
section
namespace Go.Proofs.Ytekjffooblcmnaa.Q
open Go.RowKit Go.Proofs.YtekjffooblcmnaaW.PrintWords Go.Proofs.YtekjffooblcmnaaW.PrintLast Go.Proofs.YtekjffooblcmnaaW.PrintMore
attribute [local go_sem] max2_int min2_int max_two min_two max_three min_three max_four min_four
set_option linter.unusedVariables false
set_option linter.unusedSimpArgs false
def spec_sameShape.l0 : Nat → List (S44) → List (S44) → Int → Int → Option (Bool)
  | 0, _, _, _, _ => none
  | k + 1, x0, x1, x12, x13 => if x13 < x12 then (if 0 ≤ x13 then (if x13 < (x0.length : Int) then (if x13 < (x1.length : Int) then (if ((rd_T44 x0 x13).f0) = ((rd_T44 x1 x13).f0) then (if ((rd_T44 x0 x13).f1) = ((rd_T44 x1 x13).f1) then (spec_sameShape.l0 k x0 x1 x12 (wrap64 (x13 + 1))) else (some false)) else (some false)) else (none)) else (none)) else (none)) else (some true)
def spec_sameShape.f (k : Nat) (l0 : List (S44)) (l1 : List (S44)) : Option (Bool) := if (l0.length : Int) = (l1.length : Int) then (spec_sameShape.l0 k l0 l1 (l0.length : Int) 0) else (some false)
set_option maxHeartbeats 8000000 in
set_option maxRecDepth 100000 in
theorem spec_sameShape.calls (k : Nat) (A0 : Option Addr) (c0 : Nat) (l0 : List (S44)) (A1 : Option Addr) (c1 : Nat) (l1 : List (S44)) (r : Bool) (w : World) (hr0 : Kd.C k44 w A0 l0.length l0) (hc0 : l0.length ≤ c0) (hr1 : Kd.C k44 w A1 l1.length l1) (hc1 : l1.length ≤ c1) (h : spec_sameShape.f k l0 l1 = some r) :
    Calls Try.prog 14 #[.slice A0 l0.length c0, .slice A1 l1.length c1] w fun e w' => e = .returned (.bool r) ∧ Drawn0 w w' := by
  have HR0 := Aside0.mk hr0
  have HC0 := Aside0.mk hc0
  clear hr0 hc0
  have HR1 := Aside0.mk hr1
  have HC1 := Aside0.mk hc1
  clear hr1 hc1
  have H : (if (l0.length : Int) = (l1.length : Int) then (spec_sameShape.l0 k l0 l1 (l0.length : Int) 0) else (some false)) = some r := h
  clear h
  by_cases c3 : (l0.length : Int) = (l1.length : Int)
  · rw [if_pos c3] at H
    have c3b0 : ((l0.length : Int) == (l1.length : Int)) = true := beq_iff_eq.mpr c3
    have c3b1 : ((l0.length : Int) != (l1.length : Int)) = false := bne_eq_false_iff_eq.mpr c3
    have c3b2 : (l0.length == l1.length) = true := by first | simpa using c3 | (simp at c3 ⊢; omega)
    clear c3
    have H' := Aside0.mk H
    clear H
    go_enter Try.func14, Try.ntmps14
    go_wp2
    have hw8_ := Go.Proofs.YtekjffooblcmnaaX.wrap_u8; have hw64_ := Go.Proofs.YtekjffooblcmnaaX.wrap_i64; repeat (go_quiet (fail); try go_wp2)
    go_loopg [13] k (fun kq v13 w' => ∃ (x13_1 : Int), v13 = .int .i64 x13_1 ∧ Aside0 (spec_sameShape.l0 kq l0 l1 (l0.length : Int) x13_1 = some r) ∧ Aside0 (kq ≤ k) ∧ Drawn0 w w')
    case atStart => exact ⟨(0), (by first | rfl | (simp; done) | (simp [*]; done) | (simp [Go.Proofs.YtekjffooblcmnaaX.isEmpty_ne]; done)), H', ⟨Nat.le_refl _⟩, by repeat (first | exact Drawn0.refl _ | apply Drawn0.step)⟩
    case round =>
      clear H'
      try clear c1
      try clear p2
      try clear c3
      try clear c3b0
      try clear c3b1
      try clear c3b2
      obtain ⟨x13_1, rfl, HA, HK1, ⟨m1, rfl⟩⟩ := hrel
      cases gk with
      | zero => exact absurd HA.out (by simp [spec_sameShape.l0])
      | succ k1 =>
        have H := HA.out
        clear HA
        simp only [spec_sameShape.l0] at H
        by_cases c4 : x13_1 < (l0.length : Int)
        · rw [if_pos c4] at H
          have c4b0 : decide (x13_1 < (l0.length : Int)) = true := decide_eq_true c4
          clear c4
          by_cases c5 : 0 ≤ x13_1
          · rw [if_pos c5] at H
            have c5b0 : decide (0 ≤ x13_1) = true := decide_eq_true c5
            clear c5
            by_cases c6 : x13_1 < (l0.length : Int)
            · rw [if_pos c6] at H
              have c6b0 : decide (x13_1 < (l0.length : Int)) = true := decide_eq_true c6
              clear c6
              by_cases c7 : x13_1 < (l1.length : Int)
              · rw [if_pos c7] at H
                have c7b0 : decide (x13_1 < (l1.length : Int)) = true := decide_eq_true c7
                clear c7
                by_cases c8 : ((rd_T44 l0 x13_1).f0) = ((rd_T44 l1 x13_1).f0)
                · rw [if_pos c8] at H
                  have c8b0 : (((rd_T44 l0 x13_1).f0) == ((rd_T44 l1 x13_1).f0)) = true := beq_iff_eq.mpr c8
                  have c8b1 : (((rd_T44 l0 x13_1).f0) != ((rd_T44 l1 x13_1).f0)) = false := bne_eq_false_iff_eq.mpr c8
                  clear c8
                  by_cases c9 : ((rd_T44 l0 x13_1).f1) = ((rd_T44 l1 x13_1).f1)
                  · rw [if_pos c9] at H
                    have c9b0 : (((rd_T44 l0 x13_1).f1) == ((rd_T44 l1 x13_1).f1)) = true := beq_iff_eq.mpr c9
                    have c9b1 : (((rd_T44 l0 x13_1).f1) != ((rd_T44 l1 x13_1).f1)) = false := bne_eq_false_iff_eq.mpr c9
                    clear c9
                    have H' := Aside0.mk H
                    clear H
                    have p141 : 0 ≤ (x13_1 : Int) := of_decide_eq_true (by first | (with_reducible assumption) | assumption)
                    have q141 : x13_1 < (l0.length : Int) := of_decide_eq_true (by first | (with_reducible assumption) | assumption)
                    obtain ⟨ad141, e141, hx141_0, hx141_1, hx141_2⟩ := at_T44 HR0.out x13_1 p141 q141
                    cases e141
                    replace p141 := eq_true p141
                    replace q141 := eq_true q141
                    have p142 : 0 ≤ (x13_1 : Int) := of_decide_eq_true (by first | (with_reducible assumption) | assumption)
                    have q142 : x13_1 < (l1.length : Int) := of_decide_eq_true (by first | (with_reducible assumption) | assumption)
                    obtain ⟨ad142, e142, hx142_0, hx142_1, hx142_2⟩ := at_T44 HR1.out x13_1 p142 q142
                    cases e142
                    replace p142 := eq_true p142
                    replace q142 := eq_true q142
                    have p143 : 0 ≤ (x13_1 : Int) := of_decide_eq_true (by first | (with_reducible assumption) | assumption)
                    have q143 : x13_1 < (l0.length : Int) := of_decide_eq_true (by first | (with_reducible assumption) | assumption)
                    obtain ⟨ad143, e143, hx143_0, hx143_1, hx143_2⟩ := at_T44 HR0.out x13_1 p143 q143
                    obtain rfl : ad141 = ad143 := (by injection e143)
                    replace p143 := eq_true p143
                    replace q143 := eq_true q143
                    have p144 : 0 ≤ (x13_1 : Int) := of_decide_eq_true (by first | (with_reducible assumption) | assumption)
                    have q144 : x13_1 < (l1.length : Int) := of_decide_eq_true (by first | (with_reducible assumption) | assumption)
                    obtain ⟨ad144, e144, hx144_0, hx144_1, hx144_2⟩ := at_T44 HR1.out x13_1 p144 q144
                    obtain rfl : ad142 = ad144 := (by injection e144)
                    replace p144 := eq_true p144
                    replace q144 := eq_true q144
                    go_wp2
                    have hw8_ := Go.Proofs.YtekjffooblcmnaaX.wrap_u8; have hw64_ := Go.Proofs.YtekjffooblcmnaaX.wrap_i64; repeat (go_quiet (fail); try go_wp2)
                    go_roundg k1
                    case measure => have := HK1.out; omega
                    case rel => exact ⟨(wrap64 (x13_1 + 1)), (by first | rfl | (simp; done) | (simp [*]; done) | (simp [Go.Proofs.YtekjffooblcmnaaX.isEmpty_ne]; done)), H', ⟨by have := HK1.out; omega⟩, by repeat (first | exact Drawn0.refl _ | apply Drawn0.step)⟩
                  · rw [if_neg c9] at H
                    have c9b0 : (((rd_T44 l0 x13_1).f1) == ((rd_T44 l1 x13_1).f1)) = false := beq_eq_false_iff_ne.mpr c9
                    have c9b1 : (((rd_T44 l0 x13_1).f1) != ((rd_T44 l1 x13_1).f1)) = true := bne_iff_ne.mpr c9
                    obtain rfl := Option.some.inj H
                    have p141 : 0 ≤ (x13_1 : Int) := of_decide_eq_true (by first | (with_reducible assumption) | assumption)
                    have q141 : x13_1 < (l0.length : Int) := of_decide_eq_true (by first | (with_reducible assumption) | assumption)
                    obtain ⟨ad141, e141, hx141_0, hx141_1, hx141_2⟩ := at_T44 HR0.out x13_1 p141 q141
                    cases e141
                    replace p141 := eq_true p141
                    replace q141 := eq_true q141
                    have p142 : 0 ≤ (x13_1 : Int) := of_decide_eq_true (by first | (with_reducible assumption) | assumption)
                    have q142 : x13_1 < (l1.length : Int) := of_decide_eq_true (by first | (with_reducible assumption) | assumption)
                    obtain ⟨ad142, e142, hx142_0, hx142_1, hx142_2⟩ := at_T44 HR1.out x13_1 p142 q142
                    cases e142
                    replace p142 := eq_true p142
                    replace q142 := eq_true q142
                    have p143 : 0 ≤ (x13_1 : Int) := of_decide_eq_true (by first | (with_reducible assumption) | assumption)
                    have q143 : x13_1 < (l0.length : Int) := of_decide_eq_true (by first | (with_reducible assumption) | assumption)
                    obtain ⟨ad143, e143, hx143_0, hx143_1, hx143_2⟩ := at_T44 HR0.out x13_1 p143 q143
                    obtain rfl : ad141 = ad143 := (by injection e143)
                    replace p143 := eq_true p143
                    replace q143 := eq_true q143
                    have p144 : 0 ≤ (x13_1 : Int) := of_decide_eq_true (by first | (with_reducible assumption) | assumption)
                    have q144 : x13_1 < (l1.length : Int) := of_decide_eq_true (by first | (with_reducible assumption) | assumption)
                    obtain ⟨ad144, e144, hx144_0, hx144_1, hx144_2⟩ := at_T44 HR1.out x13_1 p144 q144
                    obtain rfl : ad142 = ad144 := (by injection e144)
                    replace p144 := eq_true p144
                    replace q144 := eq_true q144
                    go_wp2
                    have hw8_ := Go.Proofs.YtekjffooblcmnaaX.wrap_u8; have hw64_ := Go.Proofs.YtekjffooblcmnaaX.wrap_i64; repeat (go_quiet (fail); try go_wp2)
                    go_ret
                    exact ⟨by first | rfl | (simp; done) | (simp [*]; done) | (simp [Go.Proofs.YtekjffooblcmnaaX.isEmpty_ne]; done), by repeat (first | exact Drawn0.refl _ | apply Drawn0.step)⟩
                · rw [if_neg c8] at H
                  have c8b0 : (((rd_T44 l0 x13_1).f0) == ((rd_T44 l1 x13_1).f0)) = false := beq_eq_false_iff_ne.mpr c8
                  have c8b1 : (((rd_T44 l0 x13_1).f0) != ((rd_T44 l1 x13_1).f0)) = true := bne_iff_ne.mpr c8
                  obtain rfl := Option.some.inj H
                  have p141 : 0 ≤ (x13_1 : Int) := of_decide_eq_true (by first | (with_reducible assumption) | assumption)
                  have q141 : x13_1 < (l0.length : Int) := of_decide_eq_true (by first | (with_reducible assumption) | assumption)
                  obtain ⟨ad141, e141, hx141_0, hx141_1, hx141_2⟩ := at_T44 HR0.out x13_1 p141 q141
                  cases e141
                  replace p141 := eq_true p141
                  replace q141 := eq_true q141
                  have p142 : 0 ≤ (x13_1 : Int) := of_decide_eq_true (by first | (with_reducible assumption) | assumption)
                  have q142 : x13_1 < (l1.length : Int) := of_decide_eq_true (by first | (with_reducible assumption) | assumption)
                  obtain ⟨ad142, e142, hx142_0, hx142_1, hx142_2⟩ := at_T44 HR1.out x13_1 p142 q142
                  cases e142
                  replace p142 := eq_true p142
                  replace q142 := eq_true q142
                  go_wp2
                  have hw8_ := Go.Proofs.YtekjffooblcmnaaX.wrap_u8; have hw64_ := Go.Proofs.YtekjffooblcmnaaX.wrap_i64; repeat (go_quiet (fail); try go_wp2)
                  go_ret
                  exact ⟨by first | rfl | (simp; done) | (simp [*]; done) | (simp [Go.Proofs.YtekjffooblcmnaaX.isEmpty_ne]; done), by repeat (first | exact Drawn0.refl _ | apply Drawn0.step)⟩
              · rw [if_neg c7] at H
                exact absurd H (by simp)
            · rw [if_neg c6] at H
              exact absurd H (by simp)
          · rw [if_neg c5] at H
            exact absurd H (by simp)
        · rw [if_neg c4] at H
          have c4b0 : decide (x13_1 < (l0.length : Int)) = false := decide_eq_false c4
          clear c4
          obtain rfl := Option.some.inj H
          go_wp2
          have hw8_ := Go.Proofs.YtekjffooblcmnaaX.wrap_u8; have hw64_ := Go.Proofs.YtekjffooblcmnaaX.wrap_i64; repeat (go_quiet (fail); try go_wp2)
          go_ret
          exact ⟨by first | rfl | (simp; done) | (simp [*]; done) | (simp [Go.Proofs.YtekjffooblcmnaaX.isEmpty_ne]; done), by repeat (first | exact Drawn0.refl _ | apply Drawn0.step)⟩
  · rw [if_neg c3] at H
    have c3b0 : ((l0.length : Int) == (l1.length : Int)) = false := beq_eq_false_iff_ne.mpr c3
    have c3b1 : ((l0.length : Int) != (l1.length : Int)) = true := bne_iff_ne.mpr c3
    have c3b2 : (l0.length == l1.length) = false := by first | simpa using c3 | (simp at c3 ⊢; omega)
    obtain rfl := Option.some.inj H
    go_enter Try.func14, Try.ntmps14
    go_wp2
    have hw8_ := Go.Proofs.YtekjffooblcmnaaX.wrap_u8; have hw64_ := Go.Proofs.YtekjffooblcmnaaX.wrap_i64; repeat (go_quiet (fail); try go_wp2)
    go_ret
    exact ⟨by first | rfl | (simp; done) | (simp [*]; done) | (simp [Go.Proofs.YtekjffooblcmnaaX.isEmpty_ne]; done), by repeat (first | exact Drawn0.refl _ | apply Drawn0.step)⟩
end Go.Proofs.Ytekjffooblcmnaa.Q
end
section
namespace Go.Proofs.Ytekjffooblcmnaa.Q
open Go.RowKit Go.Proofs.YtekjffooblcmnaaW.PrintWords Go.Proofs.YtekjffooblcmnaaW.PrintLast Go.Proofs.YtekjffooblcmnaaW.PrintMore
attribute [local go_sem] max2_int min2_int max_two min_two max_three min_three max_four min_four
set_option linter.unusedVariables false
set_option linter.unusedSimpArgs false
mutual
def spec_Added.l0 : Nat → List Int → List (List (S44)) → Bool → List ByteArray → Int → Int → Option (List Int)
  | 0, _, _, _, _, _, _ => none
  | k + 1, x3, x4, x5, x12, x13, x14 => if x14 < x13 then (if 0 ≤ x14 then (if x14 < (x12.length : Int) then ((spec_pieces.f k (rdOf ByteArray.empty x12 x14)).bind fun bt146 => (spec_Added.l1 k x3 x4 x5 bt146.1 bt146.2 x12 x13 x14 x4 (x4.length : Int) 0)) else (none)) else (none)) else (some x3)
def spec_Added.l1 : Nat → List Int → List (List (S44)) → Bool → List (S44) → Int → List ByteArray → Int → Int → List (List (S44)) → Int → Int → Option (List Int)
  | 0, _, _, _, _, _, _, _, _, _, _, _ => none
  | k + 1, x3, x4, x5, x8, x9, x12, x13, x14, x23, x24, x25 => if x25 < x24 then (if 0 ≤ x25 then (if x25 < (x23.length : Int) then (if x9 = 1 then ((spec_sameShape.f k x8 (rd_L5 x23 x25)).bind fun t151 => (if t151 = true then (spec_Added.l1 k x3 x4 x5 x8 0 x12 x13 x14 x23 x24 (wrap64 (x25 + 1))) else (spec_Added.l1 k x3 x4 x5 x8 x9 x12 x13 x14 x23 x24 (wrap64 (x25 + 1))))) else (spec_Added.l1 k x3 x4 x5 x8 x9 x12 x13 x14 x23 x24 (wrap64 (x25 + 1)))) else (none)) else (none)) else (if x5 = true then (if x3.length < 17592186044416 then (spec_Added.l0 k (x3 ++ [2]) x4 x5 x12 x13 (wrap64 (x14 + 1))) else (none)) else (if x4.length < 5864062014805 then (if x3.length < 17592186044416 then (spec_Added.l0 k (x3 ++ [x9]) (x4 ++ [x8]) (x9 != 1) x12 x13 (wrap64 (x14 + 1))) else (none)) else (none)))
end
def spec_Added.f (k : Nat) (l0 : List ByteArray) : Option (List Int) := spec_Added.l0 k ([] : List Int) ([] : List (List (S44))) false l0 (l0.length : Int) 0
set_option maxHeartbeats 8000000 in
set_option maxRecDepth 100000 in
theorem spec_Added.calls (k : Nat) (A0 : Option Addr) (c0 : Nat) (l0 : List ByteArray) (r : List Int) (w : World) (hr0 : Kd.C Kd.string w A0 l0.length l0) (hc0 : l0.length ≤ c0) (h : spec_Added.f k l0 = some r) :
    Calls Try.prog 9 #[.slice A0 l0.length c0] w fun e w' => ∃ v0_ : Value, e = .returned (v0_) ∧ Kd.R (Kd.int .i64) 3 w' w.heap.size (fun _ => True) v0_ r ∧ Below w.heap.size w w' := by
  have HR0 := Aside0.mk hr0
  have HC0 := Aside0.mk hc0
  clear hr0 hc0
  have HB := Aside0.mk (Below.refl w.heap.size w)
  have H : (spec_Added.l0 k ([] : List Int) ([] : List (List (S44))) false l0 (l0.length : Int) 0) = some r := h
  clear h
  have H' := Aside0.mk H
  clear H
  go_enter Try.func9, Try.ntmps9
  go_wp2
  go_loopg [3, 4, 5, 14] k (fun kq v3 v4 v5 v14 w' => ∃ (x3_1 : List Int) (x4_1 : List (List (S44))) (x5_1 : Bool) (x14_1 : Int), v5 = .bool x5_1 ∧ v14 = .int .i64 x14_1 ∧ Aside0 (spec_Added.l0 kq x3_1 x4_1 x5_1 l0 (l0.length : Int) x14_1 = some r) ∧ Aside0 (kq ≤ k) ∧ Aside0 (Kd.R (Kd.int .i64) 3 w' w.heap.size (fun _ => True) v3 x3_1) ∧ Aside0 (Kd.S (Kd.slice 44 k44) 37 w' w.heap.size (fun _ => True) v4 x4_1) ∧ Aside0 (Below w.heap.size w w'))
  case atStart => exact ⟨(([] : List Int)), (([] : List (List (S44)))), (false), (0), (by first | rfl | (simp; done) | (simp [*]; done) | (simp [Go.Proofs.YtekjffooblcmnaaX.isEmpty_ne]; done)), (by first | rfl | (simp; done) | (simp [*]; done) | (simp [Go.Proofs.YtekjffooblcmnaaX.isEmpty_ne]; done)), H', ⟨Nat.le_refl _⟩, ⟨by first | exact Kd.R_nil _ _ _ _ _ | exact Kd.N_nil _ _ _ _ _ | exact Kd.V_nil _ _ _ _ _ | exact Kd.Q_nil _ _ _ _ _ | exact Kd.S_nil _ _ _ _ _⟩, ⟨by first | exact Kd.S_nil _ _ _ _ _ | exact Kd.N_nil _ _ _ _ _ | exact Kd.V_nil _ _ _ _ _ | exact Kd.Q_nil _ _ _ _ _ | exact Kd.R_nil _ _ _ _ _⟩, ⟨by repeat (first | (with_reducible first | exact HB.out | apply below_alloc | apply pw_below_drewN | apply below_drew1) | exact HB.out)⟩⟩
  case round =>
    clear H'
    obtain ⟨x3_1, x4_1, x5_1, x14_1, rfl, rfl, HA, HK1, HO_3, HO_4, HB⟩ := hrel
    cases gk with
    | zero => exact absurd HA.out (by simp [spec_Added.l0])
    | succ k1 =>
      have H := HA.out
      clear HA
      simp only [spec_Added.l0] at H
      by_cases c2 : x14_1 < (l0.length : Int)
      · rw [if_pos c2] at H
        have c2b0 : decide (x14_1 < (l0.length : Int)) = true := decide_eq_true c2
        clear c2
        by_cases c3 : 0 ≤ x14_1
        · rw [if_pos c3] at H
          have c3b0 : decide (0 ≤ x14_1) = true := decide_eq_true c3
          clear c3
          by_cases c4 : x14_1 < (l0.length : Int)
          · rw [if_pos c4] at H
            have c4b0 : decide (x14_1 < (l0.length : Int)) = true := decide_eq_true c4
            clear c4
            replace H := Option.bind_eq_some_iff.mp H
            obtain ⟨⟨t146, t147⟩, A50, H⟩ := H
            replace H : (spec_Added.l1 k1 x3_1 x4_1 x5_1 t146 t147 l0 (l0.length : Int) x14_1 x4_1 (x4_1.length : Int) 0) = some r := H
            have A5 := Aside0.mk A50
            clear A50
            have H' := Aside0.mk H
            clear H
            have p145 : 0 ≤ (x14_1 : Int) := of_decide_eq_true (by first | (with_reducible assumption) | assumption)
            have q145 : x14_1 < (l0.length : Int) := of_decide_eq_true (by first | (with_reducible assumption) | assumption)
            obtain ⟨ad145, e145, hx145_0⟩ := Kd.at_string HR0.out x14_1 p145 q145
            cases e145
            replace hx145_0 := (HB.out.cell (World.block_lt_of_cell? w _ hx145_0)).trans hx145_0
            replace p145 := eq_true p145
            replace q145 := eq_true q145
            go_wp2_with (first | ((with_reducible refine gate_callee (f := 13) rfl ?_); refine goesL_ (some 20) rfl rfl Try.func13 (by kernel_rfl) rfl #[.string (rdOf ByteArray.empty l0 x14_1)] rfl (by (try simp only [List.map_toArray, List.map_cons, List.map_nil]); first | done | rfl | (simp only [List.length_drop, List.length_take]; rfl)) ?_; (with_reducible refine (spec_pieces.calls k1 (rdOf ByteArray.empty l0 x14_1) t146 t147 _ A5.out).mono ?_); rintro e w6 ⟨v148, rfl, ho0, hb⟩; refine ⟨_, rfl, ?_⟩; have n0_ := Aside0.mk (Kd.R_below (by (with_reducible repeat (first | apply Kd.R_alloc | apply Kd.R_drewN | apply Kd.R_drew)); exact HO_3.out) hb); have n1_ := Aside0.mk (Kd.S_elder' (by (with_reducible repeat (first | apply Kd.S_alloc | apply Kd.S_drewN | apply Kd.S_drew)); exact HO_4.out) (Kd.R_base ho0) hb); have n2_ := Aside0.mk (Kd.R_lower ho0 (below_size (by repeat (first | (with_reducible first | exact HB.out | apply below_alloc | apply pw_below_drewN | apply below_drew1) | exact HB.out)))); have n3_ := Aside0.mk (below_step (by repeat (first | (with_reducible first | exact HB.out | apply below_alloc | apply pw_below_drewN | apply below_drew1) | exact HB.out)) hb); clear HO_3; clear HO_4; clear HB; have HO_3 := n0_; have HO_4 := n1_; have HO149 := n2_; have HB := n3_; clear n0_ n1_ n2_ n3_; (try clear hb); (try clear hb2); (try clear hk); (try clear hi); (try clear ho0); obtain ⟨Ao7, co7, eo7⟩ := Kd.S_slice HO_4.out; subst eo7))
            go_loopg [9, 25] k1 (fun kq v9 v25 w' => ∃ (x9_2 : Int) (x25_2 : Int), v9 = .int .i64 x9_2 ∧ v25 = .int .i64 x25_2 ∧ Aside0 (spec_Added.l1 kq x3_1 x4_1 x5_1 t146 x9_2 l0 (l0.length : Int) x14_1 x4_1 (x4_1.length : Int) x25_2 = some r) ∧ Aside0 (kq ≤ k1) ∧ Aside0 (Kd.R (Kd.int .i64) 3 w' w.heap.size (fun _ => True) u3 x3_1) ∧ Aside0 (Kd.S (Kd.slice 44 k44) 37 w' w.heap.size (fun k_ => some k_ ≠ (v148 : Value).ownBlock) (.slice Ao7 x4_1.length co7) x4_1) ∧ Aside0 (Kd.R k44 44 w' w.heap.size (fun _ => True) v148 t146) ∧ Aside0 (Kd.S (Kd.slice 44 k44) 37 w' w.heap.size (fun k_ => some k_ ≠ (v148 : Value).ownBlock) (.slice Ao7 x4_1.length co7) x4_1) ∧ Aside0 (Below w.heap.size w w'))
            case atStart => exact ⟨(t147), (0), (by first | rfl | (simp; done) | (simp [*]; done) | (simp [Go.Proofs.YtekjffooblcmnaaX.isEmpty_ne]; done)), (by first | rfl | (simp; done) | (simp [*]; done) | (simp [Go.Proofs.YtekjffooblcmnaaX.isEmpty_ne]; done)), H', ⟨Nat.le_refl _⟩, ⟨by (with_reducible repeat (first | apply Kd.R_alloc | apply Kd.R_drewN | apply Kd.R_drew)); exact HO_3.out⟩, ⟨by (with_reducible repeat (first | apply Kd.S_alloc | apply Kd.S_drewN | apply Kd.S_drew)); exact Kd.S_mono HO_4.out (fun _ hk => hk.2)⟩, ⟨by (with_reducible repeat (first | apply Kd.R_alloc | apply Kd.R_drewN | apply Kd.R_drew)); exact HO149.out⟩, ⟨by (with_reducible repeat (first | apply Kd.S_alloc | apply Kd.S_drewN | apply Kd.S_drew)); exact Kd.S_mono HO_4.out (fun _ hk => hk.2)⟩, ⟨by repeat (first | (with_reducible first | exact HB.out | apply below_alloc | apply pw_below_drewN | apply below_drew1) | exact HB.out)⟩⟩
            case round =>
              clear H'
              try clear c1
              try clear p1
              try clear q1
              try clear hx1
              try clear c2
              try clear c2b0
              try clear p2
              try clear c3
              try clear c3b0
              try clear c4
              try clear c4b0
              try clear hx145_0
              try clear p145
              try clear q145
              obtain ⟨x9_2, x25_2, rfl, rfl, HA, HK2, HO_3, HO_4, HO_8, HO_23, HB⟩ := hrel
              cases gk with
              | zero => exact absurd HA.out (by simp [spec_Added.l1])
              | succ k2 =>
                have H := HA.out
                clear HA
                simp only [spec_Added.l1] at H
                by_cases c8 : x25_2 < (x4_1.length : Int)
                · rw [if_pos c8] at H
                  have c8b0 : decide (x25_2 < (x4_1.length : Int)) = true := decide_eq_true c8
                  clear c8
                  by_cases c9 : 0 ≤ x25_2
                  · rw [if_pos c9] at H
                    have c9b0 : decide (0 ≤ x25_2) = true := decide_eq_true c9
                    clear c9
                    by_cases c10 : x25_2 < (x4_1.length : Int)
                    · rw [if_pos c10] at H
                      have c10b0 : decide (x25_2 < (x4_1.length : Int)) = true := decide_eq_true c10
                      clear c10
                      by_cases c11 : x9_2 = 1
                      · rw [if_pos c11] at H
                        have c11b0 : (x9_2 == 1) = true := beq_iff_eq.mpr c11
                        have c11b1 : (x9_2 != 1) = false := bne_eq_false_iff_eq.mpr c11
                        clear c11
                        replace H := Option.bind_eq_some_iff.mp H
                        obtain ⟨t151, A120, H⟩ := H
                        replace H : (if t151 = true then (spec_Added.l1 k2 x3_1 x4_1 x5_1 t146 0 l0 (l0.length : Int) x14_1 x4_1 (x4_1.length : Int) (wrap64 (x25_2 + 1))) else (spec_Added.l1 k2 x3_1 x4_1 x5_1 t146 x9_2 l0 (l0.length : Int) x14_1 x4_1 (x4_1.length : Int) (wrap64 (x25_2 + 1)))) = some r := H
                        have A12 := Aside0.mk A120
                        clear A120
                        by_cases c13 : t151 = true
                        · subst c13
                          have H1 : (spec_Added.l1 k2 x3_1 x4_1 x5_1 t146 0 l0 (l0.length : Int) x14_1 x4_1 (x4_1.length : Int) (wrap64 (x25_2 + 1))) = some r := by rw [if_pos rfl] at H; exact H
                          clear H
                          have H := H1
                          clear H1
                          have H' := Aside0.mk H
                          clear H
                          have p150 : 0 ≤ (x25_2 : Int) := of_decide_eq_true (by first | (with_reducible assumption) | assumption)
                          have q150 : x25_2 < (x4_1.length : Int) := of_decide_eq_true (by first | (with_reducible assumption) | assumption)
                          obtain ⟨ad150, A150_0, c150_0, e150, hx150_0, hl150_0, hi150_0⟩ := at_L5 (Kd.S_reads' HO_23.out).2.2 x25_2 p150 q150
                          cases e150
                          obtain ⟨ce150, hce150, hMe150, hcc150⟩ := Kd.S_get HO_23.out [] x25_2 p150 (by first | exact q150 | exact of_decide_eq_true (by first | (with_reducible assumption) | assumption) | (have e_ := (Kd.S_reads' HO_23.out).1; omega))
                          obtain ⟨ve150_0, rfl, ge150_0⟩ := hMe150
                          have hv150_0 := hcc150 0 _ rfl
                          rw [Nat.add_zero, show ((Kd.slice 44 k44)).sz = 1 from rfl, Nat.mul_one] at hv150_0
                          replace hv150_0 := Option.some.inj (hv150_0.symm.trans hx150_0)
                          rw [hv150_0] at ge150_0
                          have HL150_0 := Aside0.mk (show Kd.R k44 44 _ _ _ _ (rd_L5 x4_1 x25_2) from ge150_0)
                          clear hv150_0 ge150_0
                          clear hcc150 hce150
                          have HR150_0 := Aside0.mk hi150_0
                          have HC150_0 := Aside0.mk hl150_0
                          clear hi150_0 hl150_0
                          replace p150 := eq_true p150
                          replace q150 := eq_true q150
                          obtain ⟨Ao14, co14, eo14⟩ := Kd.R_slice HO_8.out
                          subst eo14
                          go_wp2_with (first | (go_at_call 14; (with_reducible refine (spec_sameShape.calls k2 _ _ t146 _ _ (rd_L5 x4_1 x25_2) true _ ?side1 ?side2 ?side3 ?side4 A12.out).mono ?_); (case side1 => repeat (first | exact (Kd.R_reads' HO_8.out).2.2 | (with_reducible refine Kd.C_alloc ?_ _) | (with_reducible refine Kd.C_drewN ?_ _) | (with_reducible refine Kd.C_drew ?_))); (case side2 => exact (Kd.R_reads' HO_8.out).2.1); (case side3 => repeat (first | exact (by repeat (first | (with_reducible exact HR150_0.out) | (with_reducible refine Kd.C_alloc ?_ _) | (with_reducible refine Kd.C_drewN ?_ _) | (with_reducible refine Kd.C_drew ?_) | exact HR150_0.out)) | (with_reducible refine Kd.C_alloc ?_ _) | (with_reducible refine Kd.C_drewN ?_ _) | (with_reducible refine Kd.C_drew ?_))); (case side4 => exact HC150_0.out); rintro e w' ⟨rfl, ⟨nd, rfl⟩⟩))
                          go_roundg k2
                          case measure => have := HK1.out; have := HK2.out; omega
                          case rel => exact ⟨(0), (wrap64 (x25_2 + 1)), (by first | rfl | (simp; done) | (simp [*]; done) | (simp [Go.Proofs.YtekjffooblcmnaaX.isEmpty_ne]; done)), (by first | rfl | (simp; done) | (simp [*]; done) | (simp [Go.Proofs.YtekjffooblcmnaaX.isEmpty_ne]; done)), H', ⟨by have := HK1.out; have := HK2.out; omega⟩, ⟨by (with_reducible repeat (first | apply Kd.R_alloc | apply Kd.R_drewN | apply Kd.R_drew)); exact HO_3.out⟩, ⟨by (with_reducible repeat (first | apply Kd.S_alloc | apply Kd.S_drewN | apply Kd.S_drew)); exact HO_4.out⟩, ⟨by (with_reducible repeat (first | apply Kd.R_alloc | apply Kd.R_drewN | apply Kd.R_drew)); exact HO_8.out⟩, ⟨by (with_reducible repeat (first | apply Kd.S_alloc | apply Kd.S_drewN | apply Kd.S_drew)); exact HO_23.out⟩, ⟨by repeat (first | (with_reducible first | exact HB.out | apply below_alloc | apply pw_below_drewN | apply below_drew1) | exact HB.out)⟩⟩
                        · replace c13 := Bool.eq_false_iff.mpr c13
                          subst c13
                          have H1 : (spec_Added.l1 k2 x3_1 x4_1 x5_1 t146 x9_2 l0 (l0.length : Int) x14_1 x4_1 (x4_1.length : Int) (wrap64 (x25_2 + 1))) = some r := by rw [if_neg (show ¬ (false = true) by decide)] at H; exact H
                          clear H
                          have H := H1
                          clear H1
                          have H' := Aside0.mk H
                          clear H
                          have p150 : 0 ≤ (x25_2 : Int) := of_decide_eq_true (by first | (with_reducible assumption) | assumption)
                          have q150 : x25_2 < (x4_1.length : Int) := of_decide_eq_true (by first | (with_reducible assumption) | assumption)
                          obtain ⟨ad150, A150_0, c150_0, e150, hx150_0, hl150_0, hi150_0⟩ := at_L5 (Kd.S_reads' HO_23.out).2.2 x25_2 p150 q150
                          cases e150
                          obtain ⟨ce150, hce150, hMe150, hcc150⟩ := Kd.S_get HO_23.out [] x25_2 p150 (by first | exact q150 | exact of_decide_eq_true (by first | (with_reducible assumption) | assumption) | (have e_ := (Kd.S_reads' HO_23.out).1; omega))
                          obtain ⟨ve150_0, rfl, ge150_0⟩ := hMe150
                          have hv150_0 := hcc150 0 _ rfl
                          rw [Nat.add_zero, show ((Kd.slice 44 k44)).sz = 1 from rfl, Nat.mul_one] at hv150_0
                          replace hv150_0 := Option.some.inj (hv150_0.symm.trans hx150_0)
                          rw [hv150_0] at ge150_0
                          have HL150_0 := Aside0.mk (show Kd.R k44 44 _ _ _ _ (rd_L5 x4_1 x25_2) from ge150_0)
                          clear hv150_0 ge150_0
                          clear hcc150 hce150
                          have HR150_0 := Aside0.mk hi150_0
                          have HC150_0 := Aside0.mk hl150_0
                          clear hi150_0 hl150_0
                          replace p150 := eq_true p150
                          replace q150 := eq_true q150
                          obtain ⟨Ao15, co15, eo15⟩ := Kd.R_slice HO_8.out
                          subst eo15
                          go_wp2_with (first | (go_at_call 14; (with_reducible refine (spec_sameShape.calls k2 _ _ t146 _ _ (rd_L5 x4_1 x25_2) false _ ?side1 ?side2 ?side3 ?side4 A12.out).mono ?_); (case side1 => repeat (first | exact (Kd.R_reads' HO_8.out).2.2 | (with_reducible refine Kd.C_alloc ?_ _) | (with_reducible refine Kd.C_drewN ?_ _) | (with_reducible refine Kd.C_drew ?_))); (case side2 => exact (Kd.R_reads' HO_8.out).2.1); (case side3 => repeat (first | exact (by repeat (first | (with_reducible exact HR150_0.out) | (with_reducible refine Kd.C_alloc ?_ _) | (with_reducible refine Kd.C_drewN ?_ _) | (with_reducible refine Kd.C_drew ?_) | exact HR150_0.out)) | (with_reducible refine Kd.C_alloc ?_ _) | (with_reducible refine Kd.C_drewN ?_ _) | (with_reducible refine Kd.C_drew ?_))); (case side4 => exact HC150_0.out); rintro e w' ⟨rfl, ⟨nd, rfl⟩⟩))
                          go_roundg k2
                          case measure => have := HK1.out; have := HK2.out; omega
                          case rel => exact ⟨(x9_2), (wrap64 (x25_2 + 1)), (by first | rfl | (simp; done) | (simp [*]; done) | (simp [Go.Proofs.YtekjffooblcmnaaX.isEmpty_ne]; done)), (by first | rfl | (simp; done) | (simp [*]; done) | (simp [Go.Proofs.YtekjffooblcmnaaX.isEmpty_ne]; done)), H', ⟨by have := HK1.out; have := HK2.out; omega⟩, ⟨by (with_reducible repeat (first | apply Kd.R_alloc | apply Kd.R_drewN | apply Kd.R_drew)); exact HO_3.out⟩, ⟨by (with_reducible repeat (first | apply Kd.S_alloc | apply Kd.S_drewN | apply Kd.S_drew)); exact HO_4.out⟩, ⟨by (with_reducible repeat (first | apply Kd.R_alloc | apply Kd.R_drewN | apply Kd.R_drew)); exact HO_8.out⟩, ⟨by (with_reducible repeat (first | apply Kd.S_alloc | apply Kd.S_drewN | apply Kd.S_drew)); exact HO_23.out⟩, ⟨by repeat (first | (with_reducible first | exact HB.out | apply below_alloc | apply pw_below_drewN | apply below_drew1) | exact HB.out)⟩⟩
                      · rw [if_neg c11] at H
                        have c11b0 : (x9_2 == 1) = false := beq_eq_false_iff_ne.mpr c11
                        have c11b1 : (x9_2 != 1) = true := bne_iff_ne.mpr c11
                        have H' := Aside0.mk H
                        clear H
                        have p150 : 0 ≤ (x25_2 : Int) := of_decide_eq_true (by first | (with_reducible assumption) | assumption)
                        have q150 : x25_2 < (x4_1.length : Int) := of_decide_eq_true (by first | (with_reducible assumption) | assumption)
                        obtain ⟨ad150, A150_0, c150_0, e150, hx150_0, hl150_0, hi150_0⟩ := at_L5 (Kd.S_reads' HO_23.out).2.2 x25_2 p150 q150
                        cases e150
                        obtain ⟨ce150, hce150, hMe150, hcc150⟩ := Kd.S_get HO_23.out [] x25_2 p150 (by first | exact q150 | exact of_decide_eq_true (by first | (with_reducible assumption) | assumption) | (have e_ := (Kd.S_reads' HO_23.out).1; omega))
                        obtain ⟨ve150_0, rfl, ge150_0⟩ := hMe150
                        have hv150_0 := hcc150 0 _ rfl
                        rw [Nat.add_zero, show ((Kd.slice 44 k44)).sz = 1 from rfl, Nat.mul_one] at hv150_0
                        replace hv150_0 := Option.some.inj (hv150_0.symm.trans hx150_0)
                        rw [hv150_0] at ge150_0
                        have HL150_0 := Aside0.mk (show Kd.R k44 44 _ _ _ _ (rd_L5 x4_1 x25_2) from ge150_0)
                        clear hv150_0 ge150_0
                        clear hcc150 hce150
                        have HR150_0 := Aside0.mk hi150_0
                        have HC150_0 := Aside0.mk hl150_0
                        clear hi150_0 hl150_0
                        replace p150 := eq_true p150
                        replace q150 := eq_true q150
                        go_wp2
                        go_roundg k2
                        case measure => have := HK1.out; have := HK2.out; omega
                        case rel => exact ⟨(x9_2), (wrap64 (x25_2 + 1)), (by first | rfl | (simp; done) | (simp [*]; done) | (simp [Go.Proofs.YtekjffooblcmnaaX.isEmpty_ne]; done)), (by first | rfl | (simp; done) | (simp [*]; done) | (simp [Go.Proofs.YtekjffooblcmnaaX.isEmpty_ne]; done)), H', ⟨by have := HK1.out; have := HK2.out; omega⟩, ⟨by (with_reducible repeat (first | apply Kd.R_alloc | apply Kd.R_drewN | apply Kd.R_drew)); exact HO_3.out⟩, ⟨by (with_reducible repeat (first | apply Kd.S_alloc | apply Kd.S_drewN | apply Kd.S_drew)); exact HO_4.out⟩, ⟨by (with_reducible repeat (first | apply Kd.R_alloc | apply Kd.R_drewN | apply Kd.R_drew)); exact HO_8.out⟩, ⟨by (with_reducible repeat (first | apply Kd.S_alloc | apply Kd.S_drewN | apply Kd.S_drew)); exact HO_23.out⟩, ⟨by repeat (first | (with_reducible first | exact HB.out | apply below_alloc | apply pw_below_drewN | apply below_drew1) | exact HB.out)⟩⟩
                    · rw [if_neg c10] at H
                      exact absurd H (by simp)
                  · rw [if_neg c9] at H
                    exact absurd H (by simp)
                · rw [if_neg c8] at H
                  have c8b0 : decide (x25_2 < (x4_1.length : Int)) = false := decide_eq_false c8
                  clear c8
                  by_cases c16 : x5_1 = true
                  · subst c16
                    have H1 : (if x3_1.length < 17592186044416 then (spec_Added.l0 k2 (x3_1 ++ [2]) x4_1 true l0 (l0.length : Int) (wrap64 (x14_1 + 1))) else (none)) = some r := by rw [if_pos rfl] at H; exact H
                    clear H
                    have H := H1
                    clear H1
                    by_cases c17 : x3_1.length < 17592186044416
                    · rw [if_pos c17] at H
                      have LMc17 := Aside0.mk c17
                      clear c17
                      obtain ⟨y152, hy152⟩ : ∃ y_ : List Int, y_ = (x3_1 ++ [2]) := ⟨_, rfl⟩
                      replace H : (spec_Added.l0 k2 y152 x4_1 true l0 (l0.length : Int) (wrap64 (x14_1 + 1))) = some r := by first | (rw [hy152]; with_reducible exact H) | (have H2_ := (Option.bind_some _ _).symm.trans H; rw [hy152]; with_reducible exact H2_) | (have H2_ := (Option.bind_some _ _).symm.trans H; with_reducible exact H2_) | with_reducible exact H | (rw [hy152]; exact H) | exact H
                      have Ny152 := Aside0.mk hy152
                      clear hy152
                      have H' := Aside0.mk H
                      clear H
                      go_wp2_with (first | ((with_reducible refine gate_builtin (b := .append) (xs := #[.tmp 38, .tmp 39]) rfl ?_); at_builtin; refine Kd.R_append (Kd.int .i64) (w0 := w) w.heap.size rfl (.tmp 38) (.tmp 39) 29 3 (.int .i64 0) 8 rfl Try.underlying29 info3 rfl (by decide) (by omega) u3 x3_1 2 [.int .i64 2] (fun _ => True) (fun _ => False) rfl rfl ?aP (fun _ hk => hk.elim) ?aF ?aO ?aB ?aS ?aL ?_; (case aP => exact rfl); (case aB => exact (by repeat (first | (with_reducible first | exact HB.out | apply below_alloc | apply pw_below_drewN | apply below_drew1) | exact HB.out))); (case aF => exact (fun _ _ => trivial)); (case aO => exact (by (with_reducible repeat (first | apply Kd.R_alloc | apply Kd.R_drewN | apply Kd.R_drew)); exact HO_3.out)); (case aS => exact (below_size (by repeat (first | (with_reducible first | exact HB.out | apply below_alloc | apply pw_below_drewN | apply below_drew1) | exact HB.out)))); (case aL => have := LMc17.out; omega); intro v153 w18 ho hb hg hat; rw [← Ny152.out] at ho; have n0_ := Aside0.mk (Kd.S_over' (by (with_reducible repeat (first | apply Kd.S_alloc | apply Kd.S_drewN | apply Kd.S_drew)); exact HO_4.out) (Kd.R_typed (by (with_reducible repeat (first | apply Kd.R_alloc | apply Kd.R_drewN | apply Kd.R_drew)); exact HO_3.out)) (by decide) hg); have n1_ := Aside0.mk (Kd.R_over' (by (with_reducible repeat (first | apply Kd.R_alloc | apply Kd.R_drewN | apply Kd.R_drew)); exact HO_8.out) (Kd.R_typed (by (with_reducible repeat (first | apply Kd.R_alloc | apply Kd.R_drewN | apply Kd.R_drew)); exact HO_3.out)) (by decide) hg); have n2_ := Aside0.mk (Kd.S_over' (by (with_reducible repeat (first | apply Kd.S_alloc | apply Kd.S_drewN | apply Kd.S_drew)); exact HO_23.out) (Kd.R_typed (by (with_reducible repeat (first | apply Kd.R_alloc | apply Kd.R_drewN | apply Kd.R_drew)); exact HO_3.out)) (by decide) hg); have n3_ := Aside0.mk (hb); have n4_ := Aside0.mk (ho); clear HO_4; clear HO_8; clear HO_23; clear HB; clear HO_3; have HO_4 := n0_; have HO_8 := n1_; have HO_23 := n2_; have HB := n3_; have HO154 := n4_; clear n0_ n1_ n2_ n3_ n4_; clear ho hb hg hat))
                      go_roundg k2
                      case measure => have := HK1.out; have := HK2.out; omega
                      case rel => exact ⟨(y152), (x4_1), (true), (wrap64 (x14_1 + 1)), (by first | rfl | (simp; done) | (simp [*]; done) | (simp [Go.Proofs.YtekjffooblcmnaaX.isEmpty_ne]; done)), (by first | rfl | (simp; done) | (simp [*]; done) | (simp [Go.Proofs.YtekjffooblcmnaaX.isEmpty_ne]; done)), H', ⟨by have := HK1.out; have := HK2.out; omega⟩, ⟨by (with_reducible repeat (first | apply Kd.R_alloc | apply Kd.R_drewN | apply Kd.R_drew)); exact HO154.out⟩, ⟨by (with_reducible repeat (first | apply Kd.S_alloc | apply Kd.S_drewN | apply Kd.S_drew)); exact Kd.S_mono HO_4.out (fun _ hk => trivial)⟩, ⟨by repeat (first | (with_reducible first | exact HB.out | apply below_alloc | apply pw_below_drewN | apply below_drew1) | exact HB.out)⟩⟩
                    · rw [if_neg c17] at H
                      exact absurd H (by simp)
                  · replace c16 := Bool.eq_false_iff.mpr c16
                    subst c16
                    have H1 : (if x4_1.length < 5864062014805 then (if x3_1.length < 17592186044416 then (spec_Added.l0 k2 (x3_1 ++ [x9_2]) (x4_1 ++ [t146]) (x9_2 != 1) l0 (l0.length : Int) (wrap64 (x14_1 + 1))) else (none)) else (none)) = some r := by rw [if_neg (show ¬ (false = true) by decide)] at H; exact H
                    clear H
                    have H := H1
                    clear H1
                    by_cases c19 : x4_1.length < 5864062014805
                    · rw [if_pos c19] at H
                      have LMc19 := Aside0.mk c19
                      clear c19
                      obtain ⟨y155, hy155⟩ : ∃ y_ : List (List (S44)), y_ = (x4_1 ++ [t146]) := ⟨_, rfl⟩
                      replace H : (if x3_1.length < 17592186044416 then (spec_Added.l0 k2 (x3_1 ++ [x9_2]) y155 (x9_2 != 1) l0 (l0.length : Int) (wrap64 (x14_1 + 1))) else (none)) = some r := by first | (rw [hy155]; with_reducible exact H) | (have H2_ := (Option.bind_some _ _).symm.trans H; rw [hy155]; with_reducible exact H2_) | (have H2_ := (Option.bind_some _ _).symm.trans H; with_reducible exact H2_) | with_reducible exact H | (rw [hy155]; exact H) | exact H
                      have Ny155 := Aside0.mk hy155
                      clear hy155
                      by_cases c20 : x3_1.length < 17592186044416
                      · rw [if_pos c20] at H
                        have LMc20 := Aside0.mk c20
                        clear c20
                        obtain ⟨y158, hy158⟩ : ∃ y_ : List Int, y_ = (x3_1 ++ [x9_2]) := ⟨_, rfl⟩
                        replace H : (spec_Added.l0 k2 y158 y155 (x9_2 != 1) l0 (l0.length : Int) (wrap64 (x14_1 + 1))) = some r := by first | (rw [hy158]; with_reducible exact H) | (have H2_ := (Option.bind_some _ _).symm.trans H; rw [hy158]; with_reducible exact H2_) | (have H2_ := (Option.bind_some _ _).symm.trans H; with_reducible exact H2_) | with_reducible exact H | (rw [hy158]; exact H) | exact H
                        have Ny158 := Aside0.mk hy158
                        clear hy158
                        have H' := Aside0.mk H
                        clear H
                        obtain ⟨Ao22, co22, eo22⟩ := Kd.R_slice HO_8.out
                        subst eo22
                        go_wp2_with (first | ((with_reducible refine gate_builtin (b := .append) (xs := #[.tmp 43, .tmp 45]) rfl ?_); at_builtin; refine Kd.S_append (Kd.slice 44 k44) (w0 := w) w.heap.size rfl (.tmp 43) (.tmp 45) 36 37 (.slice none 0 0) 24 rfl Try.underlying36 info37 rfl (by decide) (by omega) (.slice Ao7 x4_1.length co7) x4_1 t146 [.slice Ao22 t146.length co22] (fun _ => True) (fun k_ => some k_ = (.slice Ao22 t146.length co22 : Value).ownBlock) rfl rfl ?aP (fun k_ hk_ => ((Kd.R_mono (ok' := fun k_ => ((fun _ => True)) k_ ∧ some k_ ≠ (.slice Ao7 x4_1.length co7 : Value).ownBlock) (Kd.R_apart' (HO_8.out) (Kd.S_typed HO_4.out) (by decide)) (fun k_ hk => ⟨trivial, hk.2⟩))).1 k_ hk_.symm) ?aF ?aO ?aB ?aS ?aL ?_; (case aP => exact Kd.M_row (Kd.R_mono (Kd.R_tight rfl (Kd.R_mono (ok' := fun k_ => ((fun _ => True)) k_ ∧ some k_ ≠ (.slice Ao7 x4_1.length co7 : Value).ownBlock) (Kd.R_apart' (HO_8.out) (Kd.S_typed HO_4.out) (by decide)) (fun k_ hk => ⟨trivial, hk.2⟩))) (fun _ h_ => h_))); (case aB => exact (by repeat (first | (with_reducible first | exact HB.out | apply below_alloc | apply pw_below_drewN | apply below_drew1) | exact HB.out))); (case aF => exact (fun _ _ => trivial)); (case aO => exact (by (with_reducible repeat (first | apply Kd.S_alloc | apply Kd.S_drewN | apply Kd.S_drew)); exact Kd.S_mono HO_4.out (fun k_ hk => ⟨trivial, fun e_ => hk e_⟩))); (case aS => exact (below_size (by repeat (first | (with_reducible first | exact HB.out | apply below_alloc | apply pw_below_drewN | apply below_drew1) | exact HB.out)))); (case aL => have := LMc19.out; omega); intro v156 w21 ho hb hg hat; rw [← Ny155.out] at ho; have n0_ := Aside0.mk (Kd.R_over' (by (with_reducible repeat (first | apply Kd.R_alloc | apply Kd.R_drewN | apply Kd.R_drew)); exact HO_3.out) (Kd.S_typed (by (with_reducible repeat (first | apply Kd.S_alloc | apply Kd.S_drewN | apply Kd.S_drew)); exact HO_4.out)) (by decide) hg); have n1_ := Aside0.mk (hb); have n2_ := Aside0.mk (ho); clear HO_3; clear HB; clear HO_4; clear HO_8; have HO_3 := n0_; have HB := n1_; have HO157 := n2_; clear n0_ n1_ n2_; clear ho hb hg hat) | ((with_reducible refine gate_builtin (b := .append) (xs := #[.tmp 47, .tmp 49]) rfl ?_); at_builtin; refine Kd.R_append (Kd.int .i64) (w0 := w) w.heap.size rfl (.tmp 47) (.tmp 49) 29 3 (.int .i64 0) 8 rfl Try.underlying29 info3 rfl (by decide) (by omega) u3 x3_1 x9_2 [.int .i64 x9_2] (fun _ => True) (fun _ => False) rfl rfl ?aP (fun _ hk => hk.elim) ?aF ?aO ?aB ?aS ?aL ?_; (case aP => exact rfl); (case aB => exact (by repeat (first | (with_reducible first | exact HB.out | apply below_alloc | apply pw_below_drewN | apply below_drew1) | exact HB.out))); (case aF => exact (fun _ _ => trivial)); (case aO => exact (by (with_reducible repeat (first | apply Kd.R_alloc | apply Kd.R_drewN | apply Kd.R_drew)); exact HO_3.out)); (case aS => exact (below_size (by repeat (first | (with_reducible first | exact HB.out | apply below_alloc | apply pw_below_drewN | apply below_drew1) | exact HB.out)))); (case aL => have := LMc20.out; omega); intro v159 w23 ho hb hg hat; rw [← Ny158.out] at ho; have n0_ := Aside0.mk (Kd.S_over' (by (with_reducible repeat (first | apply Kd.S_alloc | apply Kd.S_drewN | apply Kd.S_drew)); exact HO157.out) (Kd.R_typed (by (with_reducible repeat (first | apply Kd.R_alloc | apply Kd.R_drewN | apply Kd.R_drew)); exact HO_3.out)) (by decide) hg); have n1_ := Aside0.mk (hb); have n2_ := Aside0.mk (ho); clear HO157; clear HB; clear HO_3; have HO157 := n0_; have HB := n1_; have HO160 := n2_; clear n0_ n1_ n2_; clear ho hb hg hat))
                        go_roundg k2
                        case measure => have := HK1.out; have := HK2.out; omega
                        case rel => exact ⟨(y158), (y155), ((x9_2 != 1)), (wrap64 (x14_1 + 1)), (by first | rfl | (simp; done) | (simp [*]; done) | (simp [Go.Proofs.YtekjffooblcmnaaX.isEmpty_ne]; done)), (by first | rfl | (simp; done) | (simp [*]; done) | (simp [Go.Proofs.YtekjffooblcmnaaX.isEmpty_ne]; done)), H', ⟨by have := HK1.out; have := HK2.out; omega⟩, ⟨by (with_reducible repeat (first | apply Kd.R_alloc | apply Kd.R_drewN | apply Kd.R_drew)); exact HO160.out⟩, ⟨by (with_reducible repeat (first | apply Kd.S_alloc | apply Kd.S_drewN | apply Kd.S_drew)); exact HO157.out⟩, ⟨by repeat (first | (with_reducible first | exact HB.out | apply below_alloc | apply pw_below_drewN | apply below_drew1) | exact HB.out)⟩⟩
                      · rw [if_neg c20] at H
                        exact absurd H (by simp)
                    · rw [if_neg c19] at H
                      exact absurd H (by simp)
          · rw [if_neg c4] at H
            exact absurd H (by simp)
        · rw [if_neg c3] at H
          exact absurd H (by simp)
      · rw [if_neg c2] at H
        have c2b0 : decide (x14_1 < (l0.length : Int)) = false := decide_eq_false c2
        clear c2
        obtain rfl := Option.some.inj H
        go_wp2
        go_ret
        exact ⟨_, by first | rfl | (simp [errW_none, errW_some] <;> rfl) | (simp [*, errW_none, errW_some] <;> rfl), by (with_reducible repeat (first | apply Kd.R_alloc | apply Kd.R_drewN | apply Kd.R_drew)); exact HO_3.out, by repeat (first | (with_reducible first | exact HB.out | apply below_alloc | apply pw_below_drewN | apply below_drew1) | exact HB.out)⟩
end Go.Proofs.Ytekjffooblcmnaa.Q
end
section
namespace Go.Proofs.Ytekjffooblcmnaa.Q
open Go.RowKit Go.Proofs.YtekjffooblcmnaaW.PrintWords Go.Proofs.YtekjffooblcmnaaW.PrintLast Go.Proofs.YtekjffooblcmnaaW.PrintMore
attribute [local go_sem] max2_int min2_int max_two min_two max_three min_three max_four min_four
set_option linter.unusedVariables false
set_option linter.unusedSimpArgs false
def laws_told.f (a0 : Bool) (a1 : Int) : Option (Bool) := if a1 = 2 then (some true) else (some (a0 == (a1 == 1)))
set_option maxHeartbeats 8000000 in
set_option maxRecDepth 100000 in
theorem laws_told.calls (a0 : Bool) (a1 : Int) (r : Bool) (w : World) (h : laws_told.f a0 a1 = some r) :
    Calls Try.prog 10 #[.bool a0, .int .i64 a1] w fun e w' => e = .returned (.bool r) ∧ Drawn0 w w' := by
  have H : (if a1 = 2 then (some true) else (some (a0 == (a1 == 1)))) = some r := h
  clear h
  by_cases c3 : a1 = 2
  · rw [if_pos c3] at H
    have c3b0 : (a1 == 2) = true := beq_iff_eq.mpr c3
    have c3b1 : (a1 != 2) = false := bne_eq_false_iff_eq.mpr c3
    clear c3
    obtain rfl := Option.some.inj H
    go_enter Try.func10, Try.ntmps10
    go_wp2
    go_ret
    exact ⟨by first | rfl | (simp; done) | (simp [*]; done) | (simp [Go.Proofs.YtekjffooblcmnaaX.isEmpty_ne]; done), by repeat (first | exact Drawn0.refl _ | apply Drawn0.step)⟩
  · rw [if_neg c3] at H
    have c3b0 : (a1 == 2) = false := beq_eq_false_iff_ne.mpr c3
    have c3b1 : (a1 != 2) = true := bne_iff_ne.mpr c3
    obtain rfl := Option.some.inj H
    go_enter Try.func10, Try.ntmps10
    go_wp2
    go_ret
    exact ⟨by first | rfl | (simp; done) | (simp [*]; done) | (simp [Go.Proofs.YtekjffooblcmnaaX.isEmpty_ne]; done), by repeat (first | exact Drawn0.refl _ | apply Drawn0.step)⟩
end Go.Proofs.Ytekjffooblcmnaa.Q
end
section
namespace Go.Proofs.Ytekjffooblcmnaa.Q
open Go.RowKit Go.Proofs.YtekjffooblcmnaaW.PrintWords Go.Proofs.YtekjffooblcmnaaW.PrintLast Go.Proofs.YtekjffooblcmnaaW.PrintMore
attribute [local go_sem] max2_int min2_int max_two min_two max_three min_three max_four min_four
set_option linter.unusedVariables false
set_option linter.unusedSimpArgs false
mutual
def laws_FnAddedSays.j0 : Nat → List ByteArray → Bool → Option (Bool)
  | 0, _, _ => none
  | k + 1, x0, x20 => if x20 = true then (some false) else (if (x0.length : Int) > 20 then (laws_FnAddedSays.j1 k x0 true) else ((laws_short.f k x0).bind fun t169 => (laws_FnAddedSays.j1 k x0 (!t169))))
def laws_FnAddedSays.j1 : Nat → List ByteArray → Bool → Option (Bool)
  | 0, _, _ => none
  | k + 1, x0, x28 => if x28 = true then (some true) else ((impl_Added.f x0).bind fun t170 => ((spec_Added.f k x0).bind fun t173 => (if (t170.length : Int) = (x0.length : Int) then (laws_FnAddedSays.l0 k t170 t173 (t170.length : Int) 0) else (some false))))
def laws_FnAddedSays.l0 : Nat → List Bool → List Int → Int → Int → Option (Bool)
  | 0, _, _, _, _ => none
  | k + 1, x4, x5, x39, x40 => if x40 < x39 then (if 0 ≤ x40 then (if x40 < (x5.length : Int) then (if (rd x5 x40) = 2 then (some true) else (if x40 < (x4.length : Int) then ((laws_told.f (rdOf false x4 x40) (rd x5 x40)).bind fun t179 => (if t179 = true then (laws_FnAddedSays.l0 k x4 x5 x39 (wrap64 (x40 + 1))) else (some false))) else (none))) else (none)) else (none)) else (some true)
end
def laws_FnAddedSays.f (k : Nat) (l0 : List ByteArray) : Option (Bool) := (laws_zzFits1.f k l0).bind fun t161 => (if t161 = true then ((impl_Added.f (([(⟨#[47, 97]⟩ : ByteArray)] : List ByteArray))).bind fun t165 => (if (t165.length : Int) = 1 then (if 0 < (t165.length : Int) then (laws_FnAddedSays.j0 k l0 (!(rdOf false t165 0))) else (none)) else (laws_FnAddedSays.j0 k l0 true))) else (some true))
set_option maxHeartbeats 8000000 in
set_option maxRecDepth 100000 in
theorem laws_FnAddedSays.calls (k : Nat) (A0 : Option Addr) (c0 : Nat) (l0 : List ByteArray) (r : Bool) (w : World) (hr0 : Kd.C Kd.string w A0 l0.length l0) (hc0 : l0.length ≤ c0) (h : laws_FnAddedSays.f k l0 = some r) :
    Calls Try.prog 4 #[.slice A0 l0.length c0] w fun e w' => e = .returned (.bool r) ∧ Below w.heap.size w w' := by
  have HR0 := Aside0.mk hr0
  have HC0 := Aside0.mk hc0
  clear hr0 hc0
  have HB := Aside0.mk (Below.refl w.heap.size w)
  have H : ((laws_zzFits1.f k l0).bind fun t161 => (if t161 = true then ((impl_Added.f (([(⟨#[47, 97]⟩ : ByteArray)] : List ByteArray))).bind fun t165 => (if (t165.length : Int) = 1 then (if 0 < (t165.length : Int) then (laws_FnAddedSays.j0 k l0 (!(rdOf false t165 0))) else (none)) else (laws_FnAddedSays.j0 k l0 true))) else (some true))) = some r := h
  clear h
  replace H := Option.bind_eq_some_iff.mp H
  obtain ⟨t161, A20, H⟩ := H
  replace H : (if t161 = true then ((impl_Added.f (([(⟨#[47, 97]⟩ : ByteArray)] : List ByteArray))).bind fun t165 => (if (t165.length : Int) = 1 then (if 0 < (t165.length : Int) then (laws_FnAddedSays.j0 k l0 (!(rdOf false t165 0))) else (none)) else (laws_FnAddedSays.j0 k l0 true))) else (some true)) = some r := H
  have A2 := Aside0.mk A20
  clear A20
  by_cases c3 : t161 = true
  · subst c3
    have H1 : ((impl_Added.f (([(⟨#[47, 97]⟩ : ByteArray)] : List ByteArray))).bind fun t165 => (if (t165.length : Int) = 1 then (if 0 < (t165.length : Int) then (laws_FnAddedSays.j0 k l0 (!(rdOf false t165 0))) else (none)) else (laws_FnAddedSays.j0 k l0 true))) = some r := by rw [if_pos rfl] at H; exact H
    clear H
    have H := H1
    clear H1
    obtain ⟨y162, hy162⟩ : ∃ y_ : List ByteArray, y_ = (([(⟨#[47, 97]⟩ : ByteArray)] : List ByteArray)) := ⟨_, rfl⟩
    replace H : ((impl_Added.f y162).bind fun t165 => (if (t165.length : Int) = 1 then (if 0 < (t165.length : Int) then (laws_FnAddedSays.j0 k l0 (!(rdOf false t165 0))) else (none)) else (laws_FnAddedSays.j0 k l0 true))) = some r := by first | (rw [hy162]; with_reducible exact H) | (have H2_ := (Option.bind_some _ _).symm.trans H; rw [hy162]; with_reducible exact H2_) | (have H2_ := (Option.bind_some _ _).symm.trans H; with_reducible exact H2_) | with_reducible exact H | (rw [hy162]; exact H) | exact H
    have Ny162 := Aside0.mk hy162
    clear hy162
    replace H := Option.bind_eq_some_iff.mp H
    obtain ⟨t165, A40, H⟩ := H
    replace H : (if (t165.length : Int) = 1 then (if 0 < (t165.length : Int) then (laws_FnAddedSays.j0 k l0 (!(rdOf false t165 0))) else (none)) else (laws_FnAddedSays.j0 k l0 true)) = some r := H
    have A4 := Aside0.mk A40
    clear A40
    have HC5 := Aside0.mk H
    clear H
    go_enter Try.func4, Try.ntmps4
    go_upto_region 4 with (first | (go_at_call 5; (with_reducible refine (laws_zzFits1.calls k _ _ l0 true _ ?side1 ?side2 A2.out).mono ?_); (case side1 => repeat (first | exact HR0.out | (with_reducible refine Kd.C_alloc ?_ _) | (with_reducible refine Kd.C_drewN ?_ _) | (with_reducible refine Kd.C_drew ?_))); (case side2 => exact HC0.out); rintro e w' ⟨rfl, ⟨nd, rfl⟩⟩; (try first | exact ⟨rfl, _, World.drewN_drewN _ _ _⟩ | exact ⟨rfl, _, Eq.trans (World.drewN_drewN _ _ _) (congrArg (World.drewN _) (Nat.add_assoc _ _ _))⟩)) | ((with_reducible refine gate_dst (N := 10) rfl ?_); refine Kd.R_lit Kd.string _ 9 ?hg (N := 10) ?hd (xs := ([(⟨#[47, 97]⟩ : ByteArray)] : List ByteArray)) (inner := [.string (⟨#[47, 97]⟩ : ByteArray)]) (ok := fun _ => True) (okp := fun _ => True) ?hr ?hp (fun _ hk => hk) trivial (Below.refl _ _) (Nat.le_refl _) (by simp) ?_; (case hd => rfl); (case hg => rfl); (case hr => first | (go_simp; done) | (go_simp; rfl)); (case hp => exact (Reps.one (show Kd.M Kd.string _ _ _ (⟨#[47, 97]⟩ : ByteArray) [.string (⟨#[47, 97]⟩ : ByteArray)] from rfl) (Reps.none _ _))); intro v163 w6 ho7 hb hg_ hnew_; clear hg_ hnew_; (first | rw [← Ny162.out] at ho7 | (simp only [Int.reduceToNat] at ho7; rw [← Ny162.out] at ho7)); have n0_ := Aside0.mk (Kd.R_lower ho7 (below_size (by repeat (first | (with_reducible first | exact HB.out | apply below_alloc | apply pw_below_drewN | apply below_drew1) | exact HB.out)))); have n1_ := Aside0.mk (below_step (by repeat (first | (with_reducible first | exact HB.out | apply below_alloc | apply pw_below_drewN | apply below_drew1) | exact HB.out)) hb); clear HB; have HO164 := n0_; have HB := n1_; clear n0_ n1_; clear hb ho7; obtain ⟨Ao8, co8, eo8⟩ := Kd.R_slice HO164.out; subst eo8) | (go_at_call 6; (with_reducible refine (impl_Added.calls _ _ y162 t165 _ ?side1 ?side2 A4.out).mono ?_); (case side1 => repeat (first | exact (Kd.R_reads' HO164.out).2.2 | (with_reducible refine Kd.C_alloc ?_ _) | (with_reducible refine Kd.C_drewN ?_ _) | (with_reducible refine Kd.C_drew ?_))); (case side2 => exact (Kd.R_reads' HO164.out).2.1); rintro e w9 ⟨v166, rfl, ho0, hb⟩; have n0_ := Aside0.mk (Kd.R_below (by (with_reducible repeat (first | apply Kd.R_alloc | apply Kd.R_drewN | apply Kd.R_drew)); exact HO164.out) hb); have n1_ := Aside0.mk (Kd.R_lower ho0 (below_size (by repeat (first | (with_reducible first | exact HB.out | apply below_alloc | apply pw_below_drewN | apply below_drew1) | exact HB.out)))); have n2_ := Aside0.mk (below_step (by repeat (first | (with_reducible first | exact HB.out | apply below_alloc | apply pw_below_drewN | apply below_drew1) | exact HB.out)) hb); clear HO164; clear HB; have HO164 := n0_; have HO167 := n1_; have HB := n2_; clear n0_ n1_ n2_; (try clear hb); (try clear hb2); (try clear hk); (try clear hi); (try clear ho0)))
    repeat (go_quiet (first | (go_at_call 5; (with_reducible refine (laws_zzFits1.calls k _ _ l0 true _ ?side1 ?side2 A2.out).mono ?_); (case side1 => repeat (first | exact HR0.out | (with_reducible refine Kd.C_alloc ?_ _) | (with_reducible refine Kd.C_drewN ?_ _) | (with_reducible refine Kd.C_drew ?_))); (case side2 => exact HC0.out); rintro e w' ⟨rfl, ⟨nd, rfl⟩⟩; (try first | exact ⟨rfl, _, World.drewN_drewN _ _ _⟩ | exact ⟨rfl, _, Eq.trans (World.drewN_drewN _ _ _) (congrArg (World.drewN _) (Nat.add_assoc _ _ _))⟩)) | ((with_reducible refine gate_dst (N := 10) rfl ?_); refine Kd.R_lit Kd.string _ 9 ?hg (N := 10) ?hd (xs := ([(⟨#[47, 97]⟩ : ByteArray)] : List ByteArray)) (inner := [.string (⟨#[47, 97]⟩ : ByteArray)]) (ok := fun _ => True) (okp := fun _ => True) ?hr ?hp (fun _ hk => hk) trivial (Below.refl _ _) (Nat.le_refl _) (by simp) ?_; (case hd => rfl); (case hg => rfl); (case hr => first | (go_simp; done) | (go_simp; rfl)); (case hp => exact (Reps.one (show Kd.M Kd.string _ _ _ (⟨#[47, 97]⟩ : ByteArray) [.string (⟨#[47, 97]⟩ : ByteArray)] from rfl) (Reps.none _ _))); intro v163 w6 ho7 hb hg_ hnew_; clear hg_ hnew_; (first | rw [← Ny162.out] at ho7 | (simp only [Int.reduceToNat] at ho7; rw [← Ny162.out] at ho7)); have n0_ := Aside0.mk (Kd.R_lower ho7 (below_size (by repeat (first | (with_reducible first | exact HB.out | apply below_alloc | apply pw_below_drewN | apply below_drew1) | exact HB.out)))); have n1_ := Aside0.mk (below_step (by repeat (first | (with_reducible first | exact HB.out | apply below_alloc | apply pw_below_drewN | apply below_drew1) | exact HB.out)) hb); clear HB; have HO164 := n0_; have HB := n1_; clear n0_ n1_; clear hb ho7; obtain ⟨Ao8, co8, eo8⟩ := Kd.R_slice HO164.out; subst eo8) | (go_at_call 6; (with_reducible refine (impl_Added.calls _ _ y162 t165 _ ?side1 ?side2 A4.out).mono ?_); (case side1 => repeat (first | exact (Kd.R_reads' HO164.out).2.2 | (with_reducible refine Kd.C_alloc ?_ _) | (with_reducible refine Kd.C_drewN ?_ _) | (with_reducible refine Kd.C_drew ?_))); (case side2 => exact (Kd.R_reads' HO164.out).2.1); rintro e w9 ⟨v166, rfl, ho0, hb⟩; have n0_ := Aside0.mk (Kd.R_below (by (with_reducible repeat (first | apply Kd.R_alloc | apply Kd.R_drewN | apply Kd.R_drew)); exact HO164.out) hb); have n1_ := Aside0.mk (Kd.R_lower ho0 (below_size (by repeat (first | (with_reducible first | exact HB.out | apply below_alloc | apply pw_below_drewN | apply below_drew1) | exact HB.out)))); have n2_ := Aside0.mk (below_step (by repeat (first | (with_reducible first | exact HB.out | apply below_alloc | apply pw_below_drewN | apply below_drew1) | exact HB.out)) hb); clear HO164; clear HB; have HO164 := n0_; have HO167 := n1_; have HB := n2_; clear n0_ n1_ n2_; (try clear hb); (try clear hb2); (try clear hk); (try clear hi); (try clear ho0))); go_upto_region 4 with (first | (go_at_call 5; (with_reducible refine (laws_zzFits1.calls k _ _ l0 true _ ?side1 ?side2 A2.out).mono ?_); (case side1 => repeat (first | exact HR0.out | (with_reducible refine Kd.C_alloc ?_ _) | (with_reducible refine Kd.C_drewN ?_ _) | (with_reducible refine Kd.C_drew ?_))); (case side2 => exact HC0.out); rintro e w' ⟨rfl, ⟨nd, rfl⟩⟩; (try first | exact ⟨rfl, _, World.drewN_drewN _ _ _⟩ | exact ⟨rfl, _, Eq.trans (World.drewN_drewN _ _ _) (congrArg (World.drewN _) (Nat.add_assoc _ _ _))⟩)) | ((with_reducible refine gate_dst (N := 10) rfl ?_); refine Kd.R_lit Kd.string _ 9 ?hg (N := 10) ?hd (xs := ([(⟨#[47, 97]⟩ : ByteArray)] : List ByteArray)) (inner := [.string (⟨#[47, 97]⟩ : ByteArray)]) (ok := fun _ => True) (okp := fun _ => True) ?hr ?hp (fun _ hk => hk) trivial (Below.refl _ _) (Nat.le_refl _) (by simp) ?_; (case hd => rfl); (case hg => rfl); (case hr => first | (go_simp; done) | (go_simp; rfl)); (case hp => exact (Reps.one (show Kd.M Kd.string _ _ _ (⟨#[47, 97]⟩ : ByteArray) [.string (⟨#[47, 97]⟩ : ByteArray)] from rfl) (Reps.none _ _))); intro v163 w6 ho7 hb hg_ hnew_; clear hg_ hnew_; (first | rw [← Ny162.out] at ho7 | (simp only [Int.reduceToNat] at ho7; rw [← Ny162.out] at ho7)); have n0_ := Aside0.mk (Kd.R_lower ho7 (below_size (by repeat (first | (with_reducible first | exact HB.out | apply below_alloc | apply pw_below_drewN | apply below_drew1) | exact HB.out)))); have n1_ := Aside0.mk (below_step (by repeat (first | (with_reducible first | exact HB.out | apply below_alloc | apply pw_below_drewN | apply below_drew1) | exact HB.out)) hb); clear HB; have HO164 := n0_; have HB := n1_; clear n0_ n1_; clear hb ho7; obtain ⟨Ao8, co8, eo8⟩ := Kd.R_slice HO164.out; subst eo8) | (go_at_call 6; (with_reducible refine (impl_Added.calls _ _ y162 t165 _ ?side1 ?side2 A4.out).mono ?_); (case side1 => repeat (first | exact (Kd.R_reads' HO164.out).2.2 | (with_reducible refine Kd.C_alloc ?_ _) | (with_reducible refine Kd.C_drewN ?_ _) | (with_reducible refine Kd.C_drew ?_))); (case side2 => exact (Kd.R_reads' HO164.out).2.1); rintro e w9 ⟨v166, rfl, ho0, hb⟩; have n0_ := Aside0.mk (Kd.R_below (by (with_reducible repeat (first | apply Kd.R_alloc | apply Kd.R_drewN | apply Kd.R_drew)); exact HO164.out) hb); have n1_ := Aside0.mk (Kd.R_lower ho0 (below_size (by repeat (first | (with_reducible first | exact HB.out | apply below_alloc | apply pw_below_drewN | apply below_drew1) | exact HB.out)))); have n2_ := Aside0.mk (below_step (by repeat (first | (with_reducible first | exact HB.out | apply below_alloc | apply pw_below_drewN | apply below_drew1) | exact HB.out)) hb); clear HO164; clear HB; have HO164 := n0_; have HO167 := n1_; have HB := n2_; clear n0_ n1_ n2_; (try clear hb); (try clear hb2); (try clear hk); (try clear hi); (try clear ho0))))
    (try simp only [Act.put, List.setIfInBounds_toArray, List.set_cons_zero, List.set_cons_succ])
    go_cut [20] (fun v20 wc => ∃ (kq : Nat) (x20_4 : Bool), v20 = .bool x20_4 ∧ Aside0 (laws_FnAddedSays.j0 kq l0 x20_4 = some r) ∧ Aside0 (kq ≤ k) ∧ Aside0 (Below w.heap.size w wc))
    case first =>
      have H := HC5.out
      clear HC5
      by_cases c10 : (t165.length : Int) = 1
      · rw [if_pos c10] at H
        have c10b0 : ((t165.length : Int) == 1) = true := beq_iff_eq.mpr c10
        have c10b1 : ((t165.length : Int) != 1) = false := bne_eq_false_iff_eq.mpr c10
        clear c10
        (first | rw [c10b0] | (simp only [i64_w, i32_w]; rw [c10b0]) | (rw [Go.Proofs.YtekjffooblcmnaaX.isEmpty_eq]; rw [c10b0]) | skip)
        by_cases c11 : 0 < (t165.length : Int)
        · rw [if_pos c11] at H
          have c11b0 : decide (0 < (t165.length : Int)) = true := decide_eq_true c11
          have c11b1 : decide (0 < t165.length) = true := decide_eq_true (by omega)
          clear c11
          have H' := Aside0.mk H
          clear H
          obtain ⟨Ao12, co12, eo12⟩ := Kd.R_slice HO167.out
          subst eo12
          have p168 : 0 ≤ (0 : Int) := (by omega)
          have q168 : 0 < (t165.length : Int) := of_decide_eq_true (by first | (with_reducible assumption) | assumption)
          obtain ⟨ad168, e168, hx168_0⟩ := Kd.at_bool (Kd.R_reads' HO167.out).2.2 0 p168 q168
          cases e168
          have qi168 : (0 < t165.length) = True := eq_true (by omega)
          (try rw [show ((0 : Int)).toNat = 0 from rfl] at hx168_0)
          (try rw [Addr.add_zero'] at hx168_0)
          replace p168 := eq_true p168
          replace q168 := eq_true q168
          go_wp2
          have hw8_ := Go.Proofs.YtekjffooblcmnaaX.wrap_u8; have hw64_ := Go.Proofs.YtekjffooblcmnaaX.wrap_i64; repeat (go_quiet (fail); try go_wp2)
          go_meet
          case rel => exact ⟨_, (!(rdOf false t165 0)), (by first | rfl | (simp; done) | (simp [*]; done) | (simp [Go.Proofs.YtekjffooblcmnaaX.isEmpty_ne]; done)), H', ⟨by first | omega | exact Nat.le_refl _⟩, ⟨by repeat (first | (with_reducible first | exact HB.out | apply below_alloc | apply pw_below_drewN | apply below_drew1) | exact HB.out)⟩⟩
        · rw [if_neg c11] at H
          exact absurd H (by simp)
      · rw [if_neg c10] at H
        have c10b0 : ((t165.length : Int) == 1) = false := beq_eq_false_iff_ne.mpr c10
        have c10b1 : ((t165.length : Int) != 1) = true := bne_iff_ne.mpr c10
        (first | rw [c10b0] | (simp only [i64_w, i32_w]; rw [c10b0]) | (rw [Go.Proofs.YtekjffooblcmnaaX.isEmpty_eq]; rw [c10b0]) | skip)
        have H' := Aside0.mk H
        clear H
        obtain ⟨Ao13, co13, eo13⟩ := Kd.R_slice HO167.out
        subst eo13
        go_wp2
        have hw8_ := Go.Proofs.YtekjffooblcmnaaX.wrap_u8; have hw64_ := Go.Proofs.YtekjffooblcmnaaX.wrap_i64; repeat (go_quiet (fail); try go_wp2)
        go_meet
        case rel => exact ⟨_, (true), (by first | rfl | (simp; done) | (simp [*]; done) | (simp [Go.Proofs.YtekjffooblcmnaaX.isEmpty_ne]; done)), H', ⟨by first | omega | exact Nat.le_refl _⟩, ⟨by repeat (first | (with_reducible first | exact HB.out | apply below_alloc | apply pw_below_drewN | apply below_drew1) | exact HB.out)⟩⟩
    case rest =>
      clear HC5
      try clear c1
      try clear p1
      try clear q1
      try clear hx1
      try clear qi1
      try clear p2
      try clear c3
      try clear c4
      try clear c10
      try clear c10b0
      try clear c10b1
      try clear c11
      try clear c11b0
      try clear c11b1
      try clear hx168_0
      try clear p168
      try clear q168
      obtain ⟨kq, x20_4, rfl, HA, HJ4, HB⟩ := hcut
      cases kq with
      | zero => exact absurd HA.out (by simp [laws_FnAddedSays.j0])
      | succ kj4 =>
        have H := HA.out
        clear HA
        simp only [laws_FnAddedSays.j0] at H
        by_cases c14 : x20_4 = true
        · subst c14
          have H1 : (some false) = some r := by rw [if_pos rfl] at H; exact H
          clear H
          have H := H1
          clear H1
          obtain rfl := Option.some.inj H
          go_wp2
          have hw8_ := Go.Proofs.YtekjffooblcmnaaX.wrap_u8; have hw64_ := Go.Proofs.YtekjffooblcmnaaX.wrap_i64; repeat (go_quiet (fail); try go_wp2)
          go_ret
          exact ⟨by first | rfl | (simp [errW_none, errW_some] <;> rfl) | (simp [*, errW_none, errW_some] <;> rfl), by repeat (first | (with_reducible first | exact HB.out | apply below_alloc | apply pw_below_drewN | apply below_drew1) | exact HB.out)⟩
        · replace c14 := Bool.eq_false_iff.mpr c14
          subst c14
          have H1 : (if (l0.length : Int) > 20 then (laws_FnAddedSays.j1 kj4 l0 true) else ((laws_short.f kj4 l0).bind fun t169 => (laws_FnAddedSays.j1 kj4 l0 (!t169)))) = some r := by rw [if_neg (show ¬ (false = true) by decide)] at H; exact H
          clear H
          have H := H1
          clear H1
          have HC15 := Aside0.mk H
          clear H
          go_upto_region 6 with (fail)
          repeat (go_quiet (fail); go_upto_region 6 with (fail))
          go_cut [28] (fun v28 wc => ∃ (kq : Nat) (x28_14 : Bool), v28 = .bool x28_14 ∧ Aside0 (laws_FnAddedSays.j1 kq l0 x28_14 = some r) ∧ Aside0 (kq ≤ kj4) ∧ Aside0 (Below w.heap.size w wc))
          case first =>
            have H := HC15.out
            clear HC15
            by_cases c16 : (l0.length : Int) > 20
            · rw [if_pos c16] at H
              have c16b0 : decide (20 < (l0.length : Int)) = true := decide_eq_true c16
              have c16b1 : decide (20 < l0.length) = true := decide_eq_true (by omega)
              clear c16
              (first | rw [c16b0] | (simp only [i64_w, i32_w]; rw [c16b0]) | (rw [Go.Proofs.YtekjffooblcmnaaX.isEmpty_eq]; rw [c16b0]) | skip)
              have H' := Aside0.mk H
              clear H
              go_wp2
              have hw8_ := Go.Proofs.YtekjffooblcmnaaX.wrap_u8; have hw64_ := Go.Proofs.YtekjffooblcmnaaX.wrap_i64; repeat (go_quiet (fail); try go_wp2)
              go_meet
              case rel => exact ⟨_, (true), (by first | rfl | (simp; done) | (simp [*]; done) | (simp [Go.Proofs.YtekjffooblcmnaaX.isEmpty_ne]; done)), H', ⟨by have := HJ4.out; first | omega | exact Nat.le_refl _⟩, ⟨by repeat (first | (with_reducible first | exact HB.out | apply below_alloc | apply pw_below_drewN | apply below_drew1) | exact HB.out)⟩⟩
            · rw [if_neg c16] at H
              have c16b0 : decide (20 < (l0.length : Int)) = false := decide_eq_false c16
              have c16b1 : decide (20 < l0.length) = false := decide_eq_false (by omega)
              clear c16
              (first | rw [c16b0] | (simp only [i64_w, i32_w]; rw [c16b0]) | (rw [Go.Proofs.YtekjffooblcmnaaX.isEmpty_eq]; rw [c16b0]) | skip)
              replace H := Option.bind_eq_some_iff.mp H
              obtain ⟨t169, A170, H⟩ := H
              replace H : (laws_FnAddedSays.j1 kj4 l0 (!t169)) = some r := H
              have A17 := Aside0.mk A170
              clear A170
              have H' := Aside0.mk H
              clear H
              go_wp2_with (first | (go_at_call 7; (with_reducible refine (laws_short.calls kj4 _ _ l0 t169 _ ?side1 ?side2 A17.out).mono ?_); (case side1 => repeat (first | exact (Kd.C_below HR0.out HB.out) | (with_reducible refine Kd.C_alloc ?_ _) | (with_reducible refine Kd.C_drewN ?_ _) | (with_reducible refine Kd.C_drew ?_))); (case side2 => exact HC0.out); rintro e w' ⟨rfl, ⟨nd, rfl⟩⟩; (try first | exact ⟨rfl, _, World.drewN_drewN _ _ _⟩ | exact ⟨rfl, _, Eq.trans (World.drewN_drewN _ _ _) (congrArg (World.drewN _) (Nat.add_assoc _ _ _))⟩)))
              repeat (go_quiet (first | (go_at_call 7; (with_reducible refine (laws_short.calls kj4 _ _ l0 t169 _ ?side1 ?side2 A17.out).mono ?_); (case side1 => repeat (first | exact (Kd.C_below HR0.out HB.out) | (with_reducible refine Kd.C_alloc ?_ _) | (with_reducible refine Kd.C_drewN ?_ _) | (with_reducible refine Kd.C_drew ?_))); (case side2 => exact HC0.out); rintro e w' ⟨rfl, ⟨nd, rfl⟩⟩; (try first | exact ⟨rfl, _, World.drewN_drewN _ _ _⟩ | exact ⟨rfl, _, Eq.trans (World.drewN_drewN _ _ _) (congrArg (World.drewN _) (Nat.add_assoc _ _ _))⟩))); try go_wp2_with (first | (go_at_call 7; (with_reducible refine (laws_short.calls kj4 _ _ l0 t169 _ ?side1 ?side2 A17.out).mono ?_); (case side1 => repeat (first | exact (Kd.C_below HR0.out HB.out) | (with_reducible refine Kd.C_alloc ?_ _) | (with_reducible refine Kd.C_drewN ?_ _) | (with_reducible refine Kd.C_drew ?_))); (case side2 => exact HC0.out); rintro e w' ⟨rfl, ⟨nd, rfl⟩⟩; (try first | exact ⟨rfl, _, World.drewN_drewN _ _ _⟩ | exact ⟨rfl, _, Eq.trans (World.drewN_drewN _ _ _) (congrArg (World.drewN _) (Nat.add_assoc _ _ _))⟩))))
              go_meet
              case rel => exact ⟨_, (!t169), (by first | rfl | (simp; done) | (simp [*]; done) | (simp [Go.Proofs.YtekjffooblcmnaaX.isEmpty_ne]; done)), H', ⟨by have := HJ4.out; first | omega | exact Nat.le_refl _⟩, ⟨by repeat (first | (with_reducible first | exact HB.out | apply below_alloc | apply pw_below_drewN | apply below_drew1) | exact HB.out)⟩⟩
          case rest =>
            clear HC15
            try clear c1
            try clear p1
            try clear q1
            try clear hx1
            try clear qi1
            try clear p2
            try clear c3
            try clear c4
            try clear c10
            try clear c10b0
            try clear c10b1
            try clear c11
            try clear c11b0
            try clear c11b1
            try clear c14
            try clear c16
            try clear c16b0
            try clear c16b1
            try clear p16
            try clear q16
            try clear hx16
            try clear qi16
            try clear hx168_0
            try clear p1
            try clear p168
            try clear p2
            try clear q1
            try clear q168
            obtain ⟨kq, x28_14, rfl, HA, HJ14, HB⟩ := hcut
            cases kq with
            | zero => exact absurd HA.out (by simp [laws_FnAddedSays.j1])
            | succ kj14 =>
              have H := HA.out
              clear HA
              simp only [laws_FnAddedSays.j1] at H
              by_cases c18 : x28_14 = true
              · subst c18
                have H1 : (some true) = some r := by rw [if_pos rfl] at H; exact H
                clear H
                have H := H1
                clear H1
                obtain rfl := Option.some.inj H
                go_wp2
                have hw8_ := Go.Proofs.YtekjffooblcmnaaX.wrap_u8; have hw64_ := Go.Proofs.YtekjffooblcmnaaX.wrap_i64; repeat (go_quiet (fail); try go_wp2)
                go_ret
                exact ⟨by first | rfl | (simp [errW_none, errW_some] <;> rfl) | (simp [*, errW_none, errW_some] <;> rfl), by repeat (first | (with_reducible first | exact HB.out | apply below_alloc | apply pw_below_drewN | apply below_drew1) | exact HB.out)⟩
              · replace c18 := Bool.eq_false_iff.mpr c18
                subst c18
                have H1 : ((impl_Added.f l0).bind fun t170 => ((spec_Added.f kj14 l0).bind fun t173 => (if (t170.length : Int) = (l0.length : Int) then (laws_FnAddedSays.l0 kj14 t170 t173 (t170.length : Int) 0) else (some false)))) = some r := by rw [if_neg (show ¬ (false = true) by decide)] at H; exact H
                clear H
                have H := H1
                clear H1
                replace H := Option.bind_eq_some_iff.mp H
                obtain ⟨t170, A190, H⟩ := H
                replace H : ((spec_Added.f kj14 l0).bind fun t173 => (if (t170.length : Int) = (l0.length : Int) then (laws_FnAddedSays.l0 kj14 t170 t173 (t170.length : Int) 0) else (some false))) = some r := H
                have A19 := Aside0.mk A190
                clear A190
                replace H := Option.bind_eq_some_iff.mp H
                obtain ⟨t173, A200, H⟩ := H
                replace H : (if (t170.length : Int) = (l0.length : Int) then (laws_FnAddedSays.l0 kj14 t170 t173 (t170.length : Int) 0) else (some false)) = some r := H
                have A20 := Aside0.mk A200
                clear A200
                by_cases c21 : (t170.length : Int) = (l0.length : Int)
                · rw [if_pos c21] at H
                  have c21b0 : ((t170.length : Int) == (l0.length : Int)) = true := beq_iff_eq.mpr c21
                  have c21b1 : ((t170.length : Int) != (l0.length : Int)) = false := bne_eq_false_iff_eq.mpr c21
                  have c21b2 : (t170.length == l0.length) = true := by first | simpa using c21 | (simp at c21 ⊢; omega)
                  clear c21
                  have H' := Aside0.mk H
                  clear H
                  go_wp2_with (first | (go_at_call 6; (with_reducible refine (impl_Added.calls _ _ l0 t170 _ ?side1 ?side2 A19.out).mono ?_); (case side1 => repeat (first | exact (Kd.C_below HR0.out HB.out) | (with_reducible refine Kd.C_alloc ?_ _) | (with_reducible refine Kd.C_drewN ?_ _) | (with_reducible refine Kd.C_drew ?_))); (case side2 => exact HC0.out); rintro e w22 ⟨v171, rfl, ho0, hb⟩; have n0_ := Aside0.mk (Kd.R_lower ho0 (below_size (by repeat (first | (with_reducible first | exact HB.out | apply below_alloc | apply pw_below_drewN | apply below_drew1) | exact HB.out)))); have n1_ := Aside0.mk (below_step (by repeat (first | (with_reducible first | exact HB.out | apply below_alloc | apply pw_below_drewN | apply below_drew1) | exact HB.out)) hb); clear HB; have HO172 := n0_; have HB := n1_; clear n0_ n1_; (try clear hb); (try clear hb2); (try clear hk); (try clear hi); (try clear ho0)) | (go_at_call 9; (with_reducible refine (spec_Added.calls kj14 _ _ l0 t173 _ ?side1 ?side2 A20.out).mono ?_); (case side1 => repeat (first | exact (Kd.C_below HR0.out HB.out) | (with_reducible refine Kd.C_alloc ?_ _) | (with_reducible refine Kd.C_drewN ?_ _) | (with_reducible refine Kd.C_drew ?_))); (case side2 => exact HC0.out); rintro e w23 ⟨v174, rfl, ho0, hb⟩; have n0_ := Aside0.mk (Kd.R_below (by (with_reducible repeat (first | apply Kd.R_alloc | apply Kd.R_drewN | apply Kd.R_drew)); exact HO172.out) hb); have n1_ := Aside0.mk (Kd.R_lower ho0 (below_size (by repeat (first | (with_reducible first | exact HB.out | apply below_alloc | apply pw_below_drewN | apply below_drew1) | exact HB.out)))); have n2_ := Aside0.mk (below_step (by repeat (first | (with_reducible first | exact HB.out | apply below_alloc | apply pw_below_drewN | apply below_drew1) | exact HB.out)) hb); clear HO172; clear HB; have HO172 := n0_; have HO175 := n1_; have HB := n2_; clear n0_ n1_ n2_; (try clear hb); (try clear hb2); (try clear hk); (try clear hi); (try clear ho0); obtain ⟨Ao24, co24, eo24⟩ := Kd.R_slice HO172.out; subst eo24))
                  repeat (go_quiet (first | (go_at_call 6; (with_reducible refine (impl_Added.calls _ _ l0 t170 _ ?side1 ?side2 A19.out).mono ?_); (case side1 => repeat (first | exact (Kd.C_below HR0.out HB.out) | (with_reducible refine Kd.C_alloc ?_ _) | (with_reducible refine Kd.C_drewN ?_ _) | (with_reducible refine Kd.C_drew ?_))); (case side2 => exact HC0.out); rintro e w22 ⟨v171, rfl, ho0, hb⟩; have n0_ := Aside0.mk (Kd.R_lower ho0 (below_size (by repeat (first | (with_reducible first | exact HB.out | apply below_alloc | apply pw_below_drewN | apply below_drew1) | exact HB.out)))); have n1_ := Aside0.mk (below_step (by repeat (first | (with_reducible first | exact HB.out | apply below_alloc | apply pw_below_drewN | apply below_drew1) | exact HB.out)) hb); clear HB; have HO172 := n0_; have HB := n1_; clear n0_ n1_; (try clear hb); (try clear hb2); (try clear hk); (try clear hi); (try clear ho0)) | (go_at_call 9; (with_reducible refine (spec_Added.calls kj14 _ _ l0 t173 _ ?side1 ?side2 A20.out).mono ?_); (case side1 => repeat (first | exact (Kd.C_below HR0.out HB.out) | (with_reducible refine Kd.C_alloc ?_ _) | (with_reducible refine Kd.C_drewN ?_ _) | (with_reducible refine Kd.C_drew ?_))); (case side2 => exact HC0.out); rintro e w23 ⟨v174, rfl, ho0, hb⟩; have n0_ := Aside0.mk (Kd.R_below (by (with_reducible repeat (first | apply Kd.R_alloc | apply Kd.R_drewN | apply Kd.R_drew)); exact HO172.out) hb); have n1_ := Aside0.mk (Kd.R_lower ho0 (below_size (by repeat (first | (with_reducible first | exact HB.out | apply below_alloc | apply pw_below_drewN | apply below_drew1) | exact HB.out)))); have n2_ := Aside0.mk (below_step (by repeat (first | (with_reducible first | exact HB.out | apply below_alloc | apply pw_below_drewN | apply below_drew1) | exact HB.out)) hb); clear HO172; clear HB; have HO172 := n0_; have HO175 := n1_; have HB := n2_; clear n0_ n1_ n2_; (try clear hb); (try clear hb2); (try clear hk); (try clear hi); (try clear ho0); obtain ⟨Ao24, co24, eo24⟩ := Kd.R_slice HO172.out; subst eo24)); try go_wp2_with (first | (go_at_call 6; (with_reducible refine (impl_Added.calls _ _ l0 t170 _ ?side1 ?side2 A19.out).mono ?_); (case side1 => repeat (first | exact (Kd.C_below HR0.out HB.out) | (with_reducible refine Kd.C_alloc ?_ _) | (with_reducible refine Kd.C_drewN ?_ _) | (with_reducible refine Kd.C_drew ?_))); (case side2 => exact HC0.out); rintro e w22 ⟨v171, rfl, ho0, hb⟩; have n0_ := Aside0.mk (Kd.R_lower ho0 (below_size (by repeat (first | (with_reducible first | exact HB.out | apply below_alloc | apply pw_below_drewN | apply below_drew1) | exact HB.out)))); have n1_ := Aside0.mk (below_step (by repeat (first | (with_reducible first | exact HB.out | apply below_alloc | apply pw_below_drewN | apply below_drew1) | exact HB.out)) hb); clear HB; have HO172 := n0_; have HB := n1_; clear n0_ n1_; (try clear hb); (try clear hb2); (try clear hk); (try clear hi); (try clear ho0)) | (go_at_call 9; (with_reducible refine (spec_Added.calls kj14 _ _ l0 t173 _ ?side1 ?side2 A20.out).mono ?_); (case side1 => repeat (first | exact (Kd.C_below HR0.out HB.out) | (with_reducible refine Kd.C_alloc ?_ _) | (with_reducible refine Kd.C_drewN ?_ _) | (with_reducible refine Kd.C_drew ?_))); (case side2 => exact HC0.out); rintro e w23 ⟨v174, rfl, ho0, hb⟩; have n0_ := Aside0.mk (Kd.R_below (by (with_reducible repeat (first | apply Kd.R_alloc | apply Kd.R_drewN | apply Kd.R_drew)); exact HO172.out) hb); have n1_ := Aside0.mk (Kd.R_lower ho0 (below_size (by repeat (first | (with_reducible first | exact HB.out | apply below_alloc | apply pw_below_drewN | apply below_drew1) | exact HB.out)))); have n2_ := Aside0.mk (below_step (by repeat (first | (with_reducible first | exact HB.out | apply below_alloc | apply pw_below_drewN | apply below_drew1) | exact HB.out)) hb); clear HO172; clear HB; have HO172 := n0_; have HO175 := n1_; have HB := n2_; clear n0_ n1_ n2_; (try clear hb); (try clear hb2); (try clear hk); (try clear hi); (try clear ho0); obtain ⟨Ao24, co24, eo24⟩ := Kd.R_slice HO172.out; subst eo24)))
                  go_loopg [40] kj14 (fun kq v40 w' => ∃ (x40_3 : Int), v40 = .int .i64 x40_3 ∧ Aside0 (laws_FnAddedSays.l0 kq t170 t173 (t170.length : Int) x40_3 = some r) ∧ Aside0 (kq ≤ kj14) ∧ Aside0 (Kd.R Kd.bool 4 w' w.heap.size (fun _ => True) (.slice Ao24 t170.length co24) t170) ∧ Aside0 (Kd.R (Kd.int .i64) 3 w' w.heap.size (fun _ => True) v174 t173) ∧ Aside0 (Below w.heap.size w w'))
                  case atStart => exact ⟨(0), (by first | rfl | (simp; done) | (simp [*]; done) | (simp [Go.Proofs.YtekjffooblcmnaaX.isEmpty_ne]; done)), H', ⟨Nat.le_refl _⟩, ⟨by (with_reducible repeat (first | apply Kd.R_alloc | apply Kd.R_drewN | apply Kd.R_drew)); exact HO172.out⟩, ⟨by (with_reducible repeat (first | apply Kd.R_alloc | apply Kd.R_drewN | apply Kd.R_drew)); exact HO175.out⟩, ⟨by repeat (first | (with_reducible first | exact HB.out | apply below_alloc | apply pw_below_drewN | apply below_drew1) | exact HB.out)⟩⟩
                  case round =>
                    clear H'
                    try clear c1
                    try clear p1
                    try clear q1
                    try clear hx1
                    try clear qi1
                    try clear c2
                    try clear p2
                    try clear c3
                    try clear c4
                    try clear c10
                    try clear c10b0
                    try clear c10b1
                    try clear c11
                    try clear c11b0
                    try clear c11b1
                    try clear c14
                    try clear c16
                    try clear c16b0
                    try clear c16b1
                    try clear p16
                    try clear q16
                    try clear hx16
                    try clear qi16
                    try clear c18
                    try clear c21
                    try clear c21b0
                    try clear c21b1
                    try clear c21b2
                    try clear hx168_0
                    try clear p1
                    try clear p16
                    try clear p168
                    try clear p2
                    try clear q1
                    try clear q16
                    try clear q168
                    obtain ⟨x40_3, rfl, HA, HK3, HO_4, HO_5, HB⟩ := hrel
                    cases gk with
                    | zero => exact absurd HA.out (by simp [laws_FnAddedSays.l0])
                    | succ k3 =>
                      have H := HA.out
                      clear HA
                      simp only [laws_FnAddedSays.l0] at H
                      by_cases c25 : x40_3 < (t170.length : Int)
                      · rw [if_pos c25] at H
                        have c25b0 : decide (x40_3 < (t170.length : Int)) = true := decide_eq_true c25
                        clear c25
                        by_cases c26 : 0 ≤ x40_3
                        · rw [if_pos c26] at H
                          have c26b0 : decide (0 ≤ x40_3) = true := decide_eq_true c26
                          clear c26
                          by_cases c27 : x40_3 < (t173.length : Int)
                          · rw [if_pos c27] at H
                            have c27b0 : decide (x40_3 < (t173.length : Int)) = true := decide_eq_true c27
                            clear c27
                            by_cases c28 : (rd t173 x40_3) = 2
                            · rw [if_pos c28] at H
                              have c28b0 : ((rd t173 x40_3) == 2) = true := beq_iff_eq.mpr c28
                              have c28b1 : ((rd t173 x40_3) != 2) = false := bne_eq_false_iff_eq.mpr c28
                              clear c28
                              obtain rfl := Option.some.inj H
                              obtain ⟨Ao29, co29, eo29⟩ := Kd.R_slice HO_5.out
                              subst eo29
                              have p176 : 0 ≤ (x40_3 : Int) := of_decide_eq_true (by first | (with_reducible assumption) | assumption)
                              have q176 : x40_3 < (t173.length : Int) := of_decide_eq_true (by first | (with_reducible assumption) | assumption)
                              obtain ⟨ad176, e176, hx176_0⟩ := Kd.at_int (Kd.R_reads' HO_5.out).2.2 x40_3 p176 q176
                              cases e176
                              replace p176 := eq_true p176
                              replace q176 := eq_true q176
                              go_wp2
                              have hw8_ := Go.Proofs.YtekjffooblcmnaaX.wrap_u8; have hw64_ := Go.Proofs.YtekjffooblcmnaaX.wrap_i64; repeat (go_quiet (fail); try go_wp2)
                              go_ret
                              exact ⟨by first | rfl | (simp [errW_none, errW_some] <;> rfl) | (simp [*, errW_none, errW_some] <;> rfl), by repeat (first | (with_reducible first | exact HB.out | apply below_alloc | apply pw_below_drewN | apply below_drew1) | exact HB.out)⟩
                            · rw [if_neg c28] at H
                              have c28b0 : ((rd t173 x40_3) == 2) = false := beq_eq_false_iff_ne.mpr c28
                              have c28b1 : ((rd t173 x40_3) != 2) = true := bne_iff_ne.mpr c28
                              by_cases c30 : x40_3 < (t170.length : Int)
                              · rw [if_pos c30] at H
                                have c30b0 : decide (x40_3 < (t170.length : Int)) = true := decide_eq_true c30
                                clear c30
                                replace H := Option.bind_eq_some_iff.mp H
                                obtain ⟨t179, A310, H⟩ := H
                                replace H : (if t179 = true then (laws_FnAddedSays.l0 k3 t170 t173 (t170.length : Int) (wrap64 (x40_3 + 1))) else (some false)) = some r := H
                                have A31 := Aside0.mk A310
                                clear A310
                                by_cases c32 : t179 = true
                                · subst c32
                                  have H1 : (laws_FnAddedSays.l0 k3 t170 t173 (t170.length : Int) (wrap64 (x40_3 + 1))) = some r := by rw [if_pos rfl] at H; exact H
                                  clear H
                                  have H := H1
                                  clear H1
                                  have H' := Aside0.mk H
                                  clear H
                                  obtain ⟨Ao33, co33, eo33⟩ := Kd.R_slice HO_5.out
                                  subst eo33
                                  have p176 : 0 ≤ (x40_3 : Int) := of_decide_eq_true (by first | (with_reducible assumption) | assumption)
                                  have q176 : x40_3 < (t173.length : Int) := of_decide_eq_true (by first | (with_reducible assumption) | assumption)
                                  obtain ⟨ad176, e176, hx176_0⟩ := Kd.at_int (Kd.R_reads' HO_5.out).2.2 x40_3 p176 q176
                                  cases e176
                                  replace p176 := eq_true p176
                                  replace q176 := eq_true q176
                                  have p177 : 0 ≤ (x40_3 : Int) := of_decide_eq_true (by first | (with_reducible assumption) | assumption)
                                  have q177 : x40_3 < (t170.length : Int) := of_decide_eq_true (by first | (with_reducible assumption) | assumption)
                                  obtain ⟨ad177, e177, hx177_0⟩ := Kd.at_bool (Kd.R_reads' HO_4.out).2.2 x40_3 p177 q177
                                  cases e177
                                  replace p177 := eq_true p177
                                  replace q177 := eq_true q177
                                  have p178 : 0 ≤ (x40_3 : Int) := of_decide_eq_true (by first | (with_reducible assumption) | assumption)
                                  have q178 : x40_3 < (t173.length : Int) := of_decide_eq_true (by first | (with_reducible assumption) | assumption)
                                  obtain ⟨ad178, e178, hx178_0⟩ := Kd.at_int (Kd.R_reads' HO_5.out).2.2 x40_3 p178 q178
                                  obtain rfl : ad176 = ad178 := (by injection e178)
                                  replace p178 := eq_true p178
                                  replace q178 := eq_true q178
                                  go_wp2_with (first | (go_at_call 10; (with_reducible refine (laws_told.calls (rdOf false t170 x40_3) (rd t173 x40_3) true _ A31.out).mono ?_); rintro e w' ⟨rfl, ⟨nd, rfl⟩⟩; (try first | exact ⟨rfl, _, World.drewN_drewN _ _ _⟩ | exact ⟨rfl, _, Eq.trans (World.drewN_drewN _ _ _) (congrArg (World.drewN _) (Nat.add_assoc _ _ _))⟩)))
                                  repeat (go_quiet (first | (go_at_call 10; (with_reducible refine (laws_told.calls (rdOf false t170 x40_3) (rd t173 x40_3) true _ A31.out).mono ?_); rintro e w' ⟨rfl, ⟨nd, rfl⟩⟩; (try first | exact ⟨rfl, _, World.drewN_drewN _ _ _⟩ | exact ⟨rfl, _, Eq.trans (World.drewN_drewN _ _ _) (congrArg (World.drewN _) (Nat.add_assoc _ _ _))⟩))); try go_wp2_with (first | (go_at_call 10; (with_reducible refine (laws_told.calls (rdOf false t170 x40_3) (rd t173 x40_3) true _ A31.out).mono ?_); rintro e w' ⟨rfl, ⟨nd, rfl⟩⟩; (try first | exact ⟨rfl, _, World.drewN_drewN _ _ _⟩ | exact ⟨rfl, _, Eq.trans (World.drewN_drewN _ _ _) (congrArg (World.drewN _) (Nat.add_assoc _ _ _))⟩))))
                                  go_roundg k3
                                  case measure => have := HJ4.out; have := HJ14.out; have := HK3.out; omega
                                  case rel => exact ⟨(wrap64 (x40_3 + 1)), (by first | rfl | (simp; done) | (simp [*]; done) | (simp [Go.Proofs.YtekjffooblcmnaaX.isEmpty_ne]; done)), H', ⟨by have := HJ4.out; have := HJ14.out; have := HK3.out; omega⟩, ⟨by (with_reducible repeat (first | apply Kd.R_alloc | apply Kd.R_drewN | apply Kd.R_drew)); exact HO_4.out⟩, ⟨by (with_reducible repeat (first | apply Kd.R_alloc | apply Kd.R_drewN | apply Kd.R_drew)); exact HO_5.out⟩, ⟨by repeat (first | (with_reducible first | exact HB.out | apply below_alloc | apply pw_below_drewN | apply below_drew1) | exact HB.out)⟩⟩
                                · replace c32 := Bool.eq_false_iff.mpr c32
                                  subst c32
                                  have H1 : (some false) = some r := by rw [if_neg (show ¬ (false = true) by decide)] at H; exact H
                                  clear H
                                  have H := H1
                                  clear H1
                                  obtain rfl := Option.some.inj H
                                  obtain ⟨Ao34, co34, eo34⟩ := Kd.R_slice HO_5.out
                                  subst eo34
                                  have p176 : 0 ≤ (x40_3 : Int) := of_decide_eq_true (by first | (with_reducible assumption) | assumption)
                                  have q176 : x40_3 < (t173.length : Int) := of_decide_eq_true (by first | (with_reducible assumption) | assumption)
                                  obtain ⟨ad176, e176, hx176_0⟩ := Kd.at_int (Kd.R_reads' HO_5.out).2.2 x40_3 p176 q176
                                  cases e176
                                  replace p176 := eq_true p176
                                  replace q176 := eq_true q176
                                  have p177 : 0 ≤ (x40_3 : Int) := of_decide_eq_true (by first | (with_reducible assumption) | assumption)
                                  have q177 : x40_3 < (t170.length : Int) := of_decide_eq_true (by first | (with_reducible assumption) | assumption)
                                  obtain ⟨ad177, e177, hx177_0⟩ := Kd.at_bool (Kd.R_reads' HO_4.out).2.2 x40_3 p177 q177
                                  cases e177
                                  replace p177 := eq_true p177
                                  replace q177 := eq_true q177
                                  have p178 : 0 ≤ (x40_3 : Int) := of_decide_eq_true (by first | (with_reducible assumption) | assumption)
                                  have q178 : x40_3 < (t173.length : Int) := of_decide_eq_true (by first | (with_reducible assumption) | assumption)
                                  obtain ⟨ad178, e178, hx178_0⟩ := Kd.at_int (Kd.R_reads' HO_5.out).2.2 x40_3 p178 q178
                                  obtain rfl : ad176 = ad178 := (by injection e178)
                                  replace p178 := eq_true p178
                                  replace q178 := eq_true q178
                                  go_wp2_with (first | (go_at_call 10; (with_reducible refine (laws_told.calls (rdOf false t170 x40_3) (rd t173 x40_3) false _ A31.out).mono ?_); rintro e w' ⟨rfl, ⟨nd, rfl⟩⟩; (try first | exact ⟨rfl, _, World.drewN_drewN _ _ _⟩ | exact ⟨rfl, _, Eq.trans (World.drewN_drewN _ _ _) (congrArg (World.drewN _) (Nat.add_assoc _ _ _))⟩)))
                                  repeat (go_quiet (first | (go_at_call 10; (with_reducible refine (laws_told.calls (rdOf false t170 x40_3) (rd t173 x40_3) false _ A31.out).mono ?_); rintro e w' ⟨rfl, ⟨nd, rfl⟩⟩; (try first | exact ⟨rfl, _, World.drewN_drewN _ _ _⟩ | exact ⟨rfl, _, Eq.trans (World.drewN_drewN _ _ _) (congrArg (World.drewN _) (Nat.add_assoc _ _ _))⟩))); try go_wp2_with (first | (go_at_call 10; (with_reducible refine (laws_told.calls (rdOf false t170 x40_3) (rd t173 x40_3) false _ A31.out).mono ?_); rintro e w' ⟨rfl, ⟨nd, rfl⟩⟩; (try first | exact ⟨rfl, _, World.drewN_drewN _ _ _⟩ | exact ⟨rfl, _, Eq.trans (World.drewN_drewN _ _ _) (congrArg (World.drewN _) (Nat.add_assoc _ _ _))⟩))))
                                  go_ret
                                  exact ⟨by first | rfl | (simp [errW_none, errW_some] <;> rfl) | (simp [*, errW_none, errW_some] <;> rfl), by repeat (first | (with_reducible first | exact HB.out | apply below_alloc | apply pw_below_drewN | apply below_drew1) | exact HB.out)⟩
                              · rw [if_neg c30] at H
                                exact absurd H (by simp)
                          · rw [if_neg c27] at H
                            exact absurd H (by simp)
                        · rw [if_neg c26] at H
                          exact absurd H (by simp)
                      · rw [if_neg c25] at H
                        have c25b0 : decide (x40_3 < (t170.length : Int)) = false := decide_eq_false c25
                        clear c25
                        obtain rfl := Option.some.inj H
                        go_wp2
                        have hw8_ := Go.Proofs.YtekjffooblcmnaaX.wrap_u8; have hw64_ := Go.Proofs.YtekjffooblcmnaaX.wrap_i64; repeat (go_quiet (fail); try go_wp2)
                        go_ret
                        exact ⟨by first | rfl | (simp [errW_none, errW_some] <;> rfl) | (simp [*, errW_none, errW_some] <;> rfl), by repeat (first | (with_reducible first | exact HB.out | apply below_alloc | apply pw_below_drewN | apply below_drew1) | exact HB.out)⟩
                · rw [if_neg c21] at H
                  have c21b0 : ((t170.length : Int) == (l0.length : Int)) = false := beq_eq_false_iff_ne.mpr c21
                  have c21b1 : ((t170.length : Int) != (l0.length : Int)) = true := bne_iff_ne.mpr c21
                  have c21b2 : (t170.length == l0.length) = false := by first | simpa using c21 | (simp at c21 ⊢; omega)
                  obtain rfl := Option.some.inj H
                  go_wp2_with (first | (go_at_call 6; (with_reducible refine (impl_Added.calls _ _ l0 t170 _ ?side1 ?side2 A19.out).mono ?_); (case side1 => repeat (first | exact (Kd.C_below HR0.out HB.out) | (with_reducible refine Kd.C_alloc ?_ _) | (with_reducible refine Kd.C_drewN ?_ _) | (with_reducible refine Kd.C_drew ?_))); (case side2 => exact HC0.out); rintro e w35 ⟨v171, rfl, ho0, hb⟩; have n0_ := Aside0.mk (Kd.R_lower ho0 (below_size (by repeat (first | (with_reducible first | exact HB.out | apply below_alloc | apply pw_below_drewN | apply below_drew1) | exact HB.out)))); have n1_ := Aside0.mk (below_step (by repeat (first | (with_reducible first | exact HB.out | apply below_alloc | apply pw_below_drewN | apply below_drew1) | exact HB.out)) hb); clear HB; have HO172 := n0_; have HB := n1_; clear n0_ n1_; (try clear hb); (try clear hb2); (try clear hk); (try clear hi); (try clear ho0)) | (go_at_call 9; (with_reducible refine (spec_Added.calls kj14 _ _ l0 t173 _ ?side1 ?side2 A20.out).mono ?_); (case side1 => repeat (first | exact (Kd.C_below HR0.out HB.out) | (with_reducible refine Kd.C_alloc ?_ _) | (with_reducible refine Kd.C_drewN ?_ _) | (with_reducible refine Kd.C_drew ?_))); (case side2 => exact HC0.out); rintro e w36 ⟨v174, rfl, ho0, hb⟩; have n0_ := Aside0.mk (Kd.R_below (by (with_reducible repeat (first | apply Kd.R_alloc | apply Kd.R_drewN | apply Kd.R_drew)); exact HO172.out) hb); have n1_ := Aside0.mk (Kd.R_lower ho0 (below_size (by repeat (first | (with_reducible first | exact HB.out | apply below_alloc | apply pw_below_drewN | apply below_drew1) | exact HB.out)))); have n2_ := Aside0.mk (below_step (by repeat (first | (with_reducible first | exact HB.out | apply below_alloc | apply pw_below_drewN | apply below_drew1) | exact HB.out)) hb); clear HO172; clear HB; have HO172 := n0_; have HO175 := n1_; have HB := n2_; clear n0_ n1_ n2_; (try clear hb); (try clear hb2); (try clear hk); (try clear hi); (try clear ho0); obtain ⟨Ao37, co37, eo37⟩ := Kd.R_slice HO172.out; subst eo37))
                  repeat (go_quiet (first | (go_at_call 6; (with_reducible refine (impl_Added.calls _ _ l0 t170 _ ?side1 ?side2 A19.out).mono ?_); (case side1 => repeat (first | exact (Kd.C_below HR0.out HB.out) | (with_reducible refine Kd.C_alloc ?_ _) | (with_reducible refine Kd.C_drewN ?_ _) | (with_reducible refine Kd.C_drew ?_))); (case side2 => exact HC0.out); rintro e w35 ⟨v171, rfl, ho0, hb⟩; have n0_ := Aside0.mk (Kd.R_lower ho0 (below_size (by repeat (first | (with_reducible first | exact HB.out | apply below_alloc | apply pw_below_drewN | apply below_drew1) | exact HB.out)))); have n1_ := Aside0.mk (below_step (by repeat (first | (with_reducible first | exact HB.out | apply below_alloc | apply pw_below_drewN | apply below_drew1) | exact HB.out)) hb); clear HB; have HO172 := n0_; have HB := n1_; clear n0_ n1_; (try clear hb); (try clear hb2); (try clear hk); (try clear hi); (try clear ho0)) | (go_at_call 9; (with_reducible refine (spec_Added.calls kj14 _ _ l0 t173 _ ?side1 ?side2 A20.out).mono ?_); (case side1 => repeat (first | exact (Kd.C_below HR0.out HB.out) | (with_reducible refine Kd.C_alloc ?_ _) | (with_reducible refine Kd.C_drewN ?_ _) | (with_reducible refine Kd.C_drew ?_))); (case side2 => exact HC0.out); rintro e w36 ⟨v174, rfl, ho0, hb⟩; have n0_ := Aside0.mk (Kd.R_below (by (with_reducible repeat (first | apply Kd.R_alloc | apply Kd.R_drewN | apply Kd.R_drew)); exact HO172.out) hb); have n1_ := Aside0.mk (Kd.R_lower ho0 (below_size (by repeat (first | (with_reducible first | exact HB.out | apply below_alloc | apply pw_below_drewN | apply below_drew1) | exact HB.out)))); have n2_ := Aside0.mk (below_step (by repeat (first | (with_reducible first | exact HB.out | apply below_alloc | apply pw_below_drewN | apply below_drew1) | exact HB.out)) hb); clear HO172; clear HB; have HO172 := n0_; have HO175 := n1_; have HB := n2_; clear n0_ n1_ n2_; (try clear hb); (try clear hb2); (try clear hk); (try clear hi); (try clear ho0); obtain ⟨Ao37, co37, eo37⟩ := Kd.R_slice HO172.out; subst eo37)); try go_wp2_with (first | (go_at_call 6; (with_reducible refine (impl_Added.calls _ _ l0 t170 _ ?side1 ?side2 A19.out).mono ?_); (case side1 => repeat (first | exact (Kd.C_below HR0.out HB.out) | (with_reducible refine Kd.C_alloc ?_ _) | (with_reducible refine Kd.C_drewN ?_ _) | (with_reducible refine Kd.C_drew ?_))); (case side2 => exact HC0.out); rintro e w35 ⟨v171, rfl, ho0, hb⟩; have n0_ := Aside0.mk (Kd.R_lower ho0 (below_size (by repeat (first | (with_reducible first | exact HB.out | apply below_alloc | apply pw_below_drewN | apply below_drew1) | exact HB.out)))); have n1_ := Aside0.mk (below_step (by repeat (first | (with_reducible first | exact HB.out | apply below_alloc | apply pw_below_drewN | apply below_drew1) | exact HB.out)) hb); clear HB; have HO172 := n0_; have HB := n1_; clear n0_ n1_; (try clear hb); (try clear hb2); (try clear hk); (try clear hi); (try clear ho0)) | (go_at_call 9; (with_reducible refine (spec_Added.calls kj14 _ _ l0 t173 _ ?side1 ?side2 A20.out).mono ?_); (case side1 => repeat (first | exact (Kd.C_below HR0.out HB.out) | (with_reducible refine Kd.C_alloc ?_ _) | (with_reducible refine Kd.C_drewN ?_ _) | (with_reducible refine Kd.C_drew ?_))); (case side2 => exact HC0.out); rintro e w36 ⟨v174, rfl, ho0, hb⟩; have n0_ := Aside0.mk (Kd.R_below (by (with_reducible repeat (first | apply Kd.R_alloc | apply Kd.R_drewN | apply Kd.R_drew)); exact HO172.out) hb); have n1_ := Aside0.mk (Kd.R_lower ho0 (below_size (by repeat (first | (with_reducible first | exact HB.out | apply below_alloc | apply pw_below_drewN | apply below_drew1) | exact HB.out)))); have n2_ := Aside0.mk (below_step (by repeat (first | (with_reducible first | exact HB.out | apply below_alloc | apply pw_below_drewN | apply below_drew1) | exact HB.out)) hb); clear HO172; clear HB; have HO172 := n0_; have HO175 := n1_; have HB := n2_; clear n0_ n1_ n2_; (try clear hb); (try clear hb2); (try clear hk); (try clear hi); (try clear ho0); obtain ⟨Ao37, co37, eo37⟩ := Kd.R_slice HO172.out; subst eo37)))
                  go_ret
                  exact ⟨by first | rfl | (simp [errW_none, errW_some] <;> rfl) | (simp [*, errW_none, errW_some] <;> rfl), by repeat (first | (with_reducible first | exact HB.out | apply below_alloc | apply pw_below_drewN | apply below_drew1) | exact HB.out)⟩
  · replace c3 := Bool.eq_false_iff.mpr c3
    subst c3
    have H1 : (some true) = some r := by rw [if_neg (show ¬ (false = true) by decide)] at H; exact H
    clear H
    have H := H1
    clear H1
    obtain rfl := Option.some.inj H
    go_enter Try.func4, Try.ntmps4
    go_wp2_with (first | (go_at_call 5; (with_reducible refine (laws_zzFits1.calls k _ _ l0 false _ ?side1 ?side2 A2.out).mono ?_); (case side1 => repeat (first | exact HR0.out | (with_reducible refine Kd.C_alloc ?_ _) | (with_reducible refine Kd.C_drewN ?_ _) | (with_reducible refine Kd.C_drew ?_))); (case side2 => exact HC0.out); rintro e w' ⟨rfl, ⟨nd, rfl⟩⟩; (try first | exact ⟨rfl, _, World.drewN_drewN _ _ _⟩ | exact ⟨rfl, _, Eq.trans (World.drewN_drewN _ _ _) (congrArg (World.drewN _) (Nat.add_assoc _ _ _))⟩)))
    repeat (go_quiet (first | (go_at_call 5; (with_reducible refine (laws_zzFits1.calls k _ _ l0 false _ ?side1 ?side2 A2.out).mono ?_); (case side1 => repeat (first | exact HR0.out | (with_reducible refine Kd.C_alloc ?_ _) | (with_reducible refine Kd.C_drewN ?_ _) | (with_reducible refine Kd.C_drew ?_))); (case side2 => exact HC0.out); rintro e w' ⟨rfl, ⟨nd, rfl⟩⟩; (try first | exact ⟨rfl, _, World.drewN_drewN _ _ _⟩ | exact ⟨rfl, _, Eq.trans (World.drewN_drewN _ _ _) (congrArg (World.drewN _) (Nat.add_assoc _ _ _))⟩))); try go_wp2_with (first | (go_at_call 5; (with_reducible refine (laws_zzFits1.calls k _ _ l0 false _ ?side1 ?side2 A2.out).mono ?_); (case side1 => repeat (first | exact HR0.out | (with_reducible refine Kd.C_alloc ?_ _) | (with_reducible refine Kd.C_drewN ?_ _) | (with_reducible refine Kd.C_drew ?_))); (case side2 => exact HC0.out); rintro e w' ⟨rfl, ⟨nd, rfl⟩⟩; (try first | exact ⟨rfl, _, World.drewN_drewN _ _ _⟩ | exact ⟨rfl, _, Eq.trans (World.drewN_drewN _ _ _) (congrArg (World.drewN _) (Nat.add_assoc _ _ _))⟩))))
    go_ret
    exact ⟨by first | rfl | (simp [errW_none, errW_some] <;> rfl) | (simp [*, errW_none, errW_some] <;> rfl), by repeat (first | (with_reducible first | exact HB.out | apply below_alloc | apply pw_below_drewN | apply below_drew1) | exact HB.out)⟩
end Go.Proofs.Ytekjffooblcmnaa.Q
end
section
namespace Go.Proofs.YtekjffooblcmnaaOpen
open Go.ChangeShapes Go.WideShapes Go.Deep Go.Proofs.YtekjffooblcmnaaW.PrintWords
theorem open_kd {H : Type} {enc : TypeId × Value → H} {P : Program} {w : World} {base : Nat} {spare : Nat → Bool} {held : Bool} {α : Type} {d : Kd α} {Good : α → Prop} {t e : TypeId} {fuel : Nat} {A : Option Addr} {len cap : Nat} {x : DataW H × List MemPlace}
    (ht : P.underlying t = some (.slice e)) (hs : P.cellsOf e = d.sz)
    (one : ∀ (n : Nat) (cs : List Value) (y : DataW H × List MemPlace), DataW.trod enc P w base spare held n e cs = some y → ∃ x, d.K w x cs ∧ Good x)
    (h : DataW.trod enc P w base spare held fuel t [.slice A len cap] = some x) :
    ∃ xs : List α, len = xs.length ∧ d.C w A xs.length xs ∧ xs.length ≤ cap ∧ cap ≤ maxLen ∧ ∀ x ∈ xs, Good x := by
  rcases open_slice ht h with ⟨h1, _⟩ | ⟨a, len', cap', m, n, D, Pl, h1, hb, hl, hm, hmm, _, hx⟩
  · simp only [List.cons.injEq, Value.slice.injEq, and_true] at h1
    obtain ⟨rfl, rfl, rfl⟩ := h1
    exact ⟨[], rfl, ⟨rfl, by simp, fun h => by simp at h⟩, Nat.le_refl _, by simp [maxLen], fun x h => by simp at h⟩
  · simp only [List.cons.injEq, Value.slice.injEq, and_true] at h1
    obtain ⟨rfl, rfl, rfl⟩ := h1
    have hlm : len ≤ m := by rw [hmm]; split <;> omega
    have each : ∀ i, i < len → ∃ z : α, (∃ c, c.length = d.sz ∧ d.K w z c ∧ ∀ j u, c[j]? = some u → w.cell? (a.add (i * d.sz + j)) = some u) ∧ Good z := by
      intro i hi
      obtain ⟨cs, hc, ht2⟩ := hx i (by omega)
      obtain ⟨z, hz, hg⟩ := one _ _ _ ht2
      obtain ⟨_, hcl, hcell⟩ := World.cells?_some hc
      refine ⟨z, ⟨cs, hcl.trans hs, hz, fun j u hj => ?_⟩, hg⟩
      have hjl : j < cs.length := (List.getElem?_eq_some_iff.1 hj).1
      have := hcell j (by omega)
      rw [hs, Go.Deep.add_add] at this
      rw [this, hj]
    by_cases hz : len = 0
    · subst hz
      exact ⟨[], rfl, ⟨rfl, by simp, fun h => by simp at h⟩, Nat.zero_le _, hm, fun x h => by simp at h⟩
    · obtain ⟨z0, _⟩ := each 0 (by omega)
      obtain ⟨f, hf⟩ : ∃ f : Nat → α, ∀ i, i < len → (∃ c, c.length = d.sz ∧ d.K w (f i) c ∧ ∀ j u, c[j]? = some u → w.cell? (a.add (i * d.sz + j)) = some u) ∧ Good (f i) := by
        haveI : Inhabited α := ⟨z0⟩
        exact choose_lt each
      have hlen : ((List.range len).map f).length = len := by simp
      refine ⟨(List.range len).map f, hlen.symm, ⟨rfl, ?_, fun _ => ⟨a, rfl, fun j p hj => ?_⟩⟩, by omega, hm, fun x h => ?_⟩
      · rw [hlen]; unfold maxLen at hm; omega
      · have hj2 := (List.getElem?_eq_some_iff.1 hj).1
        rw [hlen] at hj2
        have : p = f j := by
          simp [List.getElem?_map, List.getElem?_range hj2] at hj
          exact hj.symm
        subst this
        exact (hf j hj2).1
      · obtain ⟨j, hj, rfl⟩ := List.mem_map.1 h
        exact (hf j (List.mem_range.1 hj)).2
theorem one_string {H : Type} {enc : TypeId × Value → H} {P : Program} {w : World} {base : Nat} {spare : Nat → Bool} {held : Bool} {e : TypeId} (he : P.underlying e = some .string)
    (n : Nat) (cs : List Value) (y : DataW H × List MemPlace) (h : DataW.trod enc P w base spare held n e cs = some y) : ∃ x : ByteArray, Kd.string.K w x cs ∧ x.size ≤ maxLen := by
  obtain ⟨s, rfl, _, hw⟩ := DataW.trod_string he h
  exact ⟨s, rfl, hw⟩
end Go.Proofs.YtekjffooblcmnaaOpen
end
section
namespace Go.Proofs.Ytekjffooblcmnaa.StFnAddedSays
open Go.RowKit Go.ChangeShapes Go.WideShapes Go.Proofs.Ytekjffooblcmnaa.Q Go.Proofs.YtekjffooblcmnaaW.PrintWords Go.Proofs.YtekjffooblcmnaaW.PrintLast
set_option linter.unusedVariables false
set_option linter.unusedSimpArgs false
set_option maxRecDepth 100000
def Pure : Prop := ∀ (l0 : List (ByteArray)), l0.length ≤ maxLen → (∀ x ∈ l0, x.size ≤ maxLen) → ∃ k, laws_FnAddedSays.f k l0 = some true
end Go.Proofs.Ytekjffooblcmnaa.StFnAddedSays
end
section
namespace Go.Proofs.Ytekjffooblcmnaa.SpA
open Go.RowKit Go.Proofs.Ytekjffooblcmnaa.Q Go.Proofs.YtekjffooblcmnaaW.PrintWords Go.Proofs.YtekjffooblcmnaaW.PrintLast Go.Proofs.YtekjffooblcmnaaKit
set_option linter.unusedVariables false
set_option linter.unusedSimpArgs false
abbrev St := List UInt8
abbrev PS := S44
def scn (star : Bool) : St → Option Int
  | [] => none
  | d :: t => if d = 47 then none else if (star && d == 58) = true then some 2 else if d = 58 then some 0 else if d = 42 then some 0 else scn star t
theorem scn_v (b : Bool) : ∀ (w : St) (v : Int), scn b w = some v → v = 0 ∨ v = 2
  | [], v, h => by cases h
  | d :: t, v, h => by
    unfold scn at h
    split at h
    · cases h
    · split at h
      · cases h; exact .inr rfl
      · split at h
        · cases h; exact .inl rfl
        · split at h
          · cases h; exact .inl rfl
          · exact scn_v b t v h
def sy : Nat → UInt8 → St → Int
  | 0, _, _ => 0
  | _ + 1, _, [] => 1
  | f + 1, p, c :: t =>
    if c = 58 ∨ c = 42 then
      match scn (c == 42) t with
      | some v => v
      | none => if segV t = [] then 0 else if c = 42 ∧ (t.dropWhile (· != 47) ≠ [] ∨ p ≠ 47) then 0 else sy f 0 (t.dropWhile (· != 47))
    else sy f c t
def ky : Nat → St → List (Int × Int)
  | 0, _ => []
  | _ + 1, [] => []
  | f + 1, c :: t => if c = 58 then (1, 0) :: ky f (t.dropWhile (· != 47)) else if c = 42 then [(2, 0)] else (0, (c.toNat : Int)) :: ky f t
def key (x : PS) : Int × Int := (x.f0, x.f1)
def lastB (s : St) : UInt8 := s.getLast?.getD 0
theorem p58 : ((58 : UInt8).toNat : Int) = 58 := rfl
theorem p42 : ((42 : UInt8).toNat : Int) = 42 := rfl
theorem n4258 : ¬ ((42 : UInt8).toNat : Int) = 58 := by decide
theorem n58 {c : UInt8} (h : c ≠ 58) : ¬ (c.toNat : Int) = 58 := fun e => h (UInt8.toNat_inj.1 (show c.toNat = 58 by omega))
theorem n42 {c : UInt8} (h : c ≠ 42) : ¬ (c.toNat : Int) = 42 := fun e => h (UInt8.toNat_inj.1 (show c.toNat = 42 by omega))
theorem lastB_app (s : St) (c : UInt8) : lastB (s ++ [c]) = c := by unfold lastB; simp
theorem seg_drop (t : St) : t = segV t ++ t.dropWhile (· != 47) := (List.takeWhile_append_dropWhile ..).symm
theorem drop_head (t : St) : t.dropWhile (· != 47) = [] ∨ ∃ r, t.dropWhile (· != 47) = 47 :: r := by
  induction t with
  | nil => exact .inl rfl
  | cons d t ih =>
    rw [List.dropWhile_cons]
    by_cases h : d = 47
    · subst h; exact .inr ⟨t, by simp⟩
    · rw [if_pos (by simpa using h)]; exact ih
theorem sy_some {f : Nat} {p c : UInt8} {t : St} {v : Int} (hc : c = 58 ∨ c = 42) (hq : scn (c == 42) t = some v) : sy (f + 1) p (c :: t) = v := by
  conv => lhs; unfold sy
  rw [if_pos hc, hq]
theorem sy_none {f : Nat} {p c : UInt8} {t : St} (hc : c = 58 ∨ c = 42) (hq : scn (c == 42) t = none) : sy (f + 1) p (c :: t) = if segV t = [] then 0 else if c = 42 ∧ (t.dropWhile (· != 47) ≠ [] ∨ p ≠ 47) then 0 else sy f 0 (t.dropWhile (· != 47)) := by
  conv => lhs; unfold sy
  rw [if_pos hc, hq]
theorem drop_len (t : St) : (t.dropWhile (· != 47)).length ≤ t.length := by
  have := congrArg List.length (seg_drop t)
  rw [List.length_append] at this
  omega
theorem sy_prev (f : Nat) (p q : UInt8) (t : St) : sy f p (t.dropWhile (· != 47)) = sy f q (t.dropWhile (· != 47)) := by
  rcases drop_head t with e | ⟨r, e⟩
  · rw [e]; cases f <;> rfl
  · rw [e]
    cases f with
    | zero => rfl
    | succ f => rfl
section
variable (s : ByteArray) (hs : s.size ≤ 2000)
include hs
theorem pz_scan (acc : List PS) (i : Int) (c : UInt8) : ∀ (w pre : St), L s = pre ++ w → (∀ v, scn (c == 42) w = some v → Ev (fun k => spec_pieces.l1 k s acc i (c.toNat : Int) (pre.length : Int)) ([], v)) ∧ (scn (c == 42) w = none → ∀ R, Ev (fun k => spec_pieces.j4 k s acc i (c.toNat : Int) ((pre ++ segV w).length : Int) false) R → Ev (fun k => spec_pieces.l1 k s acc i (c.toNat : Int) (pre.length : Int)) R)
  | [], pre, h => by
    refine ⟨fun v e => (by cases e), fun _ R hR => ?_⟩
    refine Ev.step (fun k => ?_) (by simpa [segV] using hR)
    simp only [spec_pieces.l1]
    rw [if_neg (sz_not h)]
  | d :: t, pre, h => by
    have st : ∀ {R}, Ev (fun k => spec_pieces.j4 k s acc i (c.toNat : Int) (pre.length : Int) ((d.toNat : Int) != 47)) R → Ev (fun k => spec_pieces.l1 k s acc i (c.toNat : Int) (pre.length : Int)) R := fun {R} hR => by
      refine Ev.step (fun k => ?_) hR
      simp only [spec_pieces.l1]
      rw [if_pos (sz_mid h), if_pos (by omega), bt_mid h]
    by_cases d47 : d = 47
    · subst d47
      refine ⟨fun v e => (by cases e), fun _ R hR => st ?_⟩
      simpa [segV] using hR
    have b47 : ((d.toNat : Int) != 47) = true := by
      have := u8_eq d 47
      rw [beq_eq_false_iff_ne.2 d47] at this
      exact bne_iff_ne.2 (beq_eq_false_iff_ne.1 this)
    have hseg : segV (d :: t) = d :: segV t := by unfold segV; rw [List.takeWhile_cons, if_pos (by simpa using d47)]
    rw [b47] at st
    have ih := pz_scan acc i c t (pre ++ [d]) (mid_next h)
    have j5f : ∀ {R}, Ev (fun k => spec_pieces.j5 k s acc i (c.toNat : Int) (pre.length : Int) false) R → (c == 42 && d == 58) = false → Ev (fun k => spec_pieces.j4 k s acc i (c.toNat : Int) (pre.length : Int) true) R := fun {R} hR hcd => by
      refine Ev.step (fun k => ?_) hR
      simp only [spec_pieces.j4]
      rw [if_pos trivial]
      by_cases c42 : c = 42
      · subst c42
        have : ((d.toNat : Int) == 58) = false := by
          rw [show ((d.toNat : Int) == 58) = (d == 58) from u8_eq d 58]
          simpa using hcd
        rw [if_pos p42, if_pos (by omega), if_pos (sz_mid h), bt_mid h, this]
      · rw [if_neg (n42 c42)]
    by_cases hcd : (c == 42 && d == 58) = true
    · refine ⟨fun v e => ?_, fun e => ?_⟩
      · unfold scn at e
        rw [if_neg d47, if_pos hcd] at e
        cases e
        obtain ⟨c1, d1⟩ := Bool.and_eq_true_iff.1 hcd
        have c1 : c = 42 := by simpa using c1
        have d1 : d = 58 := by simpa using d1
        subst c1; subst d1
        refine st (Ev.step (f := fun k => spec_pieces.j5 k s acc i ((42 : UInt8).toNat : Int) (pre.length : Int) true) (fun k => ?_) (Ev.step (f := fun _ => some ([], 2)) (fun k => ?_) (Ev.now _)))
        · simp only [spec_pieces.j4]
          rw [if_pos trivial, if_pos p42, if_pos (by omega), if_pos (sz_mid h), bt_mid h]
          rfl
        · simp only [spec_pieces.j5]
          rw [if_pos trivial]
      · unfold scn at e
        rw [if_neg d47, if_pos hcd] at e
        cases e
    have hcd : (c == 42 && d == 58) = false := by simpa using hcd
    have out : ∀ v, scn (c == 42) (d :: t) = some v → (d = 58 ∨ d = 42) → v = 0 := fun v e hd => by
      unfold scn at e
      rw [if_neg d47, hcd, if_neg (by decide)] at e
      rcases hd with hd | hd
      · rw [if_pos hd] at e; cases e; rfl
      · by_cases h58 : d = 58
        · rw [if_pos h58] at e; cases e; rfl
        · rw [if_neg h58, if_pos hd] at e; cases e; rfl
    by_cases d58 : d = 58
    · refine ⟨fun v e => ?_, fun e => ?_⟩
      · rw [out v e (.inl d58)]
        refine st (j5f (Ev.step (f := fun _ => some ([], 0)) (fun k => ?_) (Ev.now _)) hcd)
        simp only [spec_pieces.j5]
        rw [if_neg (by decide), if_pos (by omega), if_pos (sz_mid h), bt_mid h, d58, if_pos p58]
      · unfold scn at e
        rw [if_neg d47, hcd, if_neg (by decide), if_pos d58] at e
        cases e
    by_cases d42 : d = 42
    · refine ⟨fun v e => ?_, fun e => ?_⟩
      · rw [out v e (.inr d42)]
        refine st (j5f (Ev.step (f := fun _ => some ([], 0)) (fun k => ?_) (Ev.now _)) hcd)
        simp only [spec_pieces.j5]
        rw [if_neg (by decide), if_pos (by omega), if_pos (sz_mid h), bt_mid h, if_neg (n58 d58), d42, if_pos p42]
      · unfold scn at e
        rw [if_neg d47, hcd, if_neg (by decide), if_neg d58, if_pos d42] at e
        cases e
    have hsc : scn (c == 42) (d :: t) = scn (c == 42) t := by
      conv => lhs; unfold scn
      rw [if_neg d47, hcd, if_neg (by decide), if_neg d58, if_neg d42]
    have nx : ∀ {R}, Ev (fun k => spec_pieces.l1 k s acc i (c.toNat : Int) ((pre ++ [d]).length : Int)) R → Ev (fun k => spec_pieces.l1 k s acc i (c.toNat : Int) (pre.length : Int)) R := fun {R} hR => by
      refine st (j5f (Ev.step (fun k => ?_) hR) hcd)
      simp only [spec_pieces.j5]
      rw [if_neg (by decide), if_pos (by omega), if_pos (sz_mid h), bt_mid h, if_neg (n58 d58), if_neg (n42 d42), wrap_mid h (by omega)]
    rw [hsc, hseg]
    refine ⟨fun v e => nx (ih.1 v e), fun e R hR => nx (ih.2 e R ?_)⟩
    simpa using hR
end
end Go.Proofs.Ytekjffooblcmnaa.SpA
end
