import Derived.Test.YtipmmjbjgbfgjaaQ0
import Derived.Test.YtipmmjbjgbfgjaaQ10
import Derived.Test.YtipmmjbjgbfgjaaQ12
import Derived.Test.YtipmmjbjgbfgjaaQ1
-- Written by a program of this session out of the translation, with the kit's printer. Not trusted: Lean checks it.
namespace Go.Proofs.Ytipmmjbjgbfgjaa.Q
open Go.RowKit Go.Proofs.YtipmmjbjgbfgjaaW.PrintWords Go.Proofs.YtipmmjbjgbfgjaaW.PrintLast Go.Proofs.YtipmmjbjgbfgjaaW.PrintMore
attribute [local go_sem] max2_int min2_int max_two min_two max_three min_three max_four min_four   -- for this text's walks alone
set_option linter.unusedVariables false
set_option linter.unusedSimpArgs false

/-! ### spec_RequestCookies: function 32 -/
mutual
def spec_RequestCookies.l0 : Nat → List (S71) → List ByteArray → Int → Int → Option ((List (S71)) × Int)
  | 0, _, _, _, _ => none
  | k + 1, x4, x9, x10, x11 => if x11 < x10 then (if 0 ≤ x11 then (if x11 < (x9.length : Int) then (if x11 > 0 then (if (rdOf ByteArray.empty x9 x11).toList = ([] : List UInt8) then (some (([] : List (S71)), 2)) else (if 0 < ((rdOf ByteArray.empty x9 x11).size : Int) then (if (bt (rdOf ByteArray.empty x9 x11) 0) = 32 then (if 1 ≤ ((rdOf ByteArray.empty x9 x11).size : Int) then (spec_RequestCookies.j1 k x4 ((rdOf ByteArray.empty x9 x11).extract 1 (rdOf ByteArray.empty x9 x11).size) x9 x10 x11) else (none)) else (some (([] : List (S71)), 2))) else (none))) else (spec_RequestCookies.j1 k x4 (rdOf ByteArray.empty x9 x11) x9 x10 x11)) else (none)) else (none)) else (some (x4, 1))
def spec_RequestCookies.j1 : Nat → List (S71) → ByteArray → List ByteArray → Int → Int → Option ((List (S71)) × Int)
  | 0, _, _, _, _, _ => none
  | k + 1, x4, x6, x9, x10, x11 => (spec_indexOf.f k x6 61).bind fun t210 => (if t210 < 1 then (some (([] : List (S71)), 2)) else (if 0 ≤ t210 then (if t210 ≤ (x6.size : Int) then ((spec_token.f k (x6.extract 0 (t210 : Int).toNat)).bind fun t211 => (if t211 = true then (if 0 ≤ (wrap64 (t210 + 1)) then (if (wrap64 (t210 + 1)) ≤ (x6.size : Int) then ((spec_token.f k (x6.extract ((wrap64 (t210 + 1)) : Int).toNat x6.size)).bind fun t212 => (if t212 = true then (if x4.length < 3518437208883 then (spec_RequestCookies.l0 k (x4 ++ [(⟨x6.extract 0 (t210 : Int).toNat, x6.extract ((wrap64 (t210 + 1)) : Int).toNat x6.size, false⟩ : S71)]) x9 x10 (wrap64 (x11 + 1))) else (none)) else (some (([] : List (S71)), 2)))) else (none)) else (none)) else (some (([] : List (S71)), 2)))) else (none)) else (none)))
end
def spec_RequestCookies.f (k : Nat) (a0 : ByteArray) : Option ((List (S71)) × Int) := (spec_split.f k a0 59).bind fun t206 => (spec_RequestCookies.l0 k ([] : List (S71)) t206 (t206.length : Int) 0)
theorem spec_RequestCookies.mono_l : ∀ k, (∀ y0 y1 y2 y3, LeO (spec_RequestCookies.l0 k y0 y1 y2 y3) (spec_RequestCookies.l0 (k + 1) y0 y1 y2 y3)) ∧ (∀ y0 y1 y2 y3 y4, LeO (spec_RequestCookies.j1 k y0 y1 y2 y3 y4) (spec_RequestCookies.j1 (k + 1) y0 y1 y2 y3 y4))
  | 0 => ⟨fun _ _ _ _ r h => by simp [spec_RequestCookies.l0] at h, fun _ _ _ _ _ r h => by simp [spec_RequestCookies.j1] at h⟩
  | k + 1 => by
    obtain ⟨ih0, ih1⟩ := spec_RequestCookies.mono_l k
    refine ⟨?_, ?_⟩
    · intro y0 y1 y2 y3
      unfold spec_RequestCookies.l0
      repeat' first
      | (with_reducible exact ih0 _ _ _ _)
      | (with_reducible exact ih1 _ _ _ _ _)
      | (with_reducible exact spec_indexOf.mono _ _ _)
      | (with_reducible exact spec_split.mono _ _ _)
      | (with_reducible exact spec_token.mono _ _)
      | (with_reducible exact LeO.refl _)
      | (with_reducible exact LeO.none _)
      | (with_reducible refine LeO.ite ?_ ?_)
      | (with_reducible refine LeO.bind ?_ (fun _ => ?_))
      | exact ih0 _ _ _ _
      | exact ih1 _ _ _ _ _
      | exact spec_indexOf.mono _ _ _
      | exact spec_split.mono _ _ _
      | exact spec_token.mono _ _
      | exact LeO.none _
      | refine LeO.ite ?_ ?_
      | refine LeO.bind ?_ (fun _ => ?_)
    · intro y0 y1 y2 y3 y4
      unfold spec_RequestCookies.j1
      repeat' first
      | (with_reducible exact ih0 _ _ _ _)
      | (with_reducible exact ih1 _ _ _ _ _)
      | (with_reducible exact spec_indexOf.mono _ _ _)
      | (with_reducible exact spec_split.mono _ _ _)
      | (with_reducible exact spec_token.mono _ _)
      | (with_reducible exact LeO.refl _)
      | (with_reducible exact LeO.none _)
      | (with_reducible refine LeO.ite ?_ ?_)
      | (with_reducible refine LeO.bind ?_ (fun _ => ?_))
      | exact ih0 _ _ _ _
      | exact ih1 _ _ _ _ _
      | exact spec_indexOf.mono _ _ _
      | exact spec_split.mono _ _ _
      | exact spec_token.mono _ _
      | exact LeO.none _
      | refine LeO.ite ?_ ?_
      | refine LeO.bind ?_ (fun _ => ?_)
theorem spec_RequestCookies.mono : ∀ a0 k, LeO (spec_RequestCookies.f k a0) (spec_RequestCookies.f (k + 1) a0) := by
  intro a0 k
  obtain ⟨ih0, ih1⟩ := spec_RequestCookies.mono_l k
  unfold spec_RequestCookies.f
  repeat' first
      | (with_reducible exact ih0 _ _ _ _)
      | (with_reducible exact ih1 _ _ _ _ _)
      | (with_reducible exact spec_indexOf.mono _ _ _)
      | (with_reducible exact spec_split.mono _ _ _)
      | (with_reducible exact spec_token.mono _ _)
      | (with_reducible exact LeO.refl _)
      | (with_reducible exact LeO.none _)
      | (with_reducible refine LeO.ite ?_ ?_)
      | (with_reducible refine LeO.bind ?_ (fun _ => ?_))
      | exact ih0 _ _ _ _
      | exact ih1 _ _ _ _ _
      | exact spec_indexOf.mono _ _ _
      | exact spec_split.mono _ _ _
      | exact spec_token.mono _ _
      | exact LeO.none _
      | refine LeO.ite ?_ ?_
      | refine LeO.bind ?_ (fun _ => ?_)
def spec_RequestCookies.T12 : Bool × List (List Nat × List Nat) := (true, [([], []), ([], []), ([], []), ([1, 2], [1, 2]), ([], []), ([], []), ([5], [5]), ([4, 6], [4, 6]), ([3, 7], [3, 7]), ([8], [8]), ([0, 9], [0, 9]), ([10, 10, 0, 1, 2, 3, 4, 5, 6, 7, 8, 9, 10], [0, 10])])
def spec_RequestCookies.B12 : List Nat := [0, 0, 0, 6, 0, 0, 32, 112, 254, 510, 1023, 2047]
theorem spec_RequestCookies.tab12 : rtab .any (opsOf Try.f32 12) = spec_RequestCookies.T12 := by kernel_rfl
theorem spec_RequestCookies.bits12 : waitsOk spec_RequestCookies.T12.2 spec_RequestCookies.B12 = true := by kernel_rfl
set_option maxHeartbeats 8000000 in
set_option maxRecDepth 100000 in
theorem spec_RequestCookies.calls (k : Nat) (a0 : ByteArray) (r1 : List (S71)) (r2 : Int) (w : World) (h : spec_RequestCookies.f k a0 = some (r1, r2)) :
    Calls Try.prog 32 #[.string a0] w fun e w' => ∃ v0_ : Value, e = .returned (.tuple #[v0_, .int .i64 r2]) ∧ Kd.R k71 71 w' w.heap.size (fun _ => True) v0_ r1 ∧ Below w.heap.size w w' := by
  have hu71 := Try.underlying71
  have HB := Aside0.mk (Below.refl w.heap.size w)
  have H : ((spec_split.f k a0 59).bind fun t206 => (spec_RequestCookies.l0 k ([] : List (S71)) t206 (t206.length : Int) 0)) = some (r1, r2) := h
  clear h
  replace H := Option.bind_eq_some_iff.mp H
  obtain ⟨t206, A20, H⟩ := H
  replace H : (spec_RequestCookies.l0 k ([] : List (S71)) t206 (t206.length : Int) 0) = some (r1, r2) := H
  have A2 := Aside0.mk A20
  clear A20
  have H' := Aside0.mk H
  clear H
  go_enter Try.func32, Try.ntmps32
  go_wp2_with (first | ((with_reducible refine gate_callee (f := 71) rfl ?_); refine goesL_ (some 9) rfl rfl Try.func71 (by kernel_rfl) rfl #[.string a0, .int .u8 59] rfl (by (try simp only [List.map_toArray, List.map_cons, List.map_nil]); first | done | rfl | (simp only [List.length_drop, List.length_take]; rfl)) ?_; (with_reducible refine (spec_split.calls k a0 59 t206 _ A2.out).mono ?_); rintro e w3 ⟨v207, rfl, ho0, hb⟩; refine ⟨_, rfl, ?_⟩; have n0_ := Aside0.mk (Kd.R_lower ho0 (below_size (by repeat (first | (with_reducible first | exact HB.out | apply below_alloc | apply pw_below_drewN | apply below_drew1) | exact HB.out)))); have n1_ := Aside0.mk (below_step (by repeat (first | (with_reducible first | exact HB.out | apply below_alloc | apply pw_below_drewN | apply below_drew1) | exact HB.out)) hb); clear HB; have HO208 := n0_; have HB := n1_; clear n0_ n1_; (try clear hb); (try clear hb2); (try clear hk); (try clear hi); (try clear ho0); obtain ⟨Ao4, co4, eo4⟩ := Kd.R_slice HO208.out; subst eo4))
  go_loopg [4, 11] k (fun kq v4 v11 w' => ∃ (x4_1 : List (S71)) (x11_1 : Int), v11 = .int .i64 x11_1 ∧ Aside0 (spec_RequestCookies.l0 kq x4_1 t206 (t206.length : Int) x11_1 = some (r1, r2)) ∧ Aside0 (kq ≤ k) ∧ Aside0 (Kd.R k71 71 w' w.heap.size (fun _ => True) v4 x4_1) ∧ Aside0 (Kd.R Kd.string 9 w' w.heap.size (fun _ => True) (.slice Ao4 t206.length co4) t206) ∧ Aside0 (Below w.heap.size w w'))
  case atStart => exact ⟨(([] : List (S71))), (0), (by first | rfl | (simp; done) | (simp [*]; done) | (simp [Go.Proofs.YtipmmjbjgbfgjaaX.isEmpty_ne]; done)), H', ⟨Nat.le_refl _⟩, ⟨by first | exact Kd.R_nil _ _ _ _ _ | exact Kd.N_nil _ _ _ _ _ | exact Kd.V_nil _ _ _ _ _ | exact Kd.Q_nil _ _ _ _ _ | exact Kd.S_nil _ _ _ _ _⟩, ⟨by (with_reducible repeat (first | apply Kd.R_alloc | apply Kd.R_drewN | apply Kd.R_drew)); exact HO208.out⟩, ⟨by repeat (first | (with_reducible first | exact HB.out | apply below_alloc | apply pw_below_drewN | apply below_drew1) | exact HB.out)⟩⟩
  case round =>
    clear H'
    try clear p2
    try clear c3
    obtain ⟨x4_1, x11_1, rfl, HA, HK1, HO_4, HO_9, HB⟩ := hrel
    cases gk with
    | zero => exact absurd HA.out (by simp [spec_RequestCookies.l0])
    | succ k1 =>
      have H := HA.out
      clear HA
      simp only [spec_RequestCookies.l0] at H
      by_cases c5 : x11_1 < (t206.length : Int)
      · rw [if_pos c5] at H
        have c5b0 : decide (x11_1 < (t206.length : Int)) = true := decide_eq_true c5
        clear c5
        by_cases c6 : 0 ≤ x11_1
        · rw [if_pos c6] at H
          have c6b0 : decide (0 ≤ x11_1) = true := decide_eq_true c6
          clear c6
          by_cases c7 : x11_1 < (t206.length : Int)
          · rw [if_pos c7] at H
            have c7b0 : decide (x11_1 < (t206.length : Int)) = true := decide_eq_true c7
            clear c7
            have HC8 := Aside0.mk H
            clear H
            have p209 : 0 ≤ (x11_1 : Int) := of_decide_eq_true (by first | (with_reducible assumption) | assumption)
            have q209 : x11_1 < (t206.length : Int) := of_decide_eq_true (by first | (with_reducible assumption) | assumption)
            obtain ⟨ad209, e209, hx209_0⟩ := Kd.at_string (Kd.R_reads' HO_9.out).2.2 x11_1 p209 q209
            cases e209
            replace p209 := eq_true p209
            replace q209 := eq_true q209
            go_upto_if 17 with (fail)
            go_cut [6] (fun v6 wc => ∃ (kq : Nat) (x6_7 : ByteArray), v6 = .string x6_7 ∧ Aside0 (spec_RequestCookies.j1 kq x4_1 x6_7 t206 (t206.length : Int) x11_1 = some (r1, r2)) ∧ Aside0 (kq ≤ k1) ∧ Aside0 (Kd.R k71 71 wc w.heap.size (fun _ => True) u4 x4_1) ∧ Aside0 (Kd.R Kd.string 9 wc w.heap.size (fun _ => True) (.slice (some ad209) t206.length co4) t206) ∧ Aside0 (Below w.heap.size w wc))
            case first =>
              have H := HC8.out
              clear HC8
              by_cases c9 : x11_1 > 0
              · rw [if_pos c9] at H
                have c9b0 : decide (0 < x11_1) = true := decide_eq_true c9
                clear c9
                (first | rw [c9b0] | (simp only [i64_w, i32_w]; rw [c9b0]) | (rw [Go.Proofs.YtipmmjbjgbfgjaaX.isEmpty_eq]; rw [c9b0]) | skip)
                by_cases c10 : (rdOf ByteArray.empty t206 x11_1).toList = ([] : List UInt8)
                · rw [if_pos c10] at H
                  have c10b0 : ((rdOf ByteArray.empty t206 x11_1).toList == ([] : List UInt8)) = true := beq_iff_eq.mpr c10
                  have c10b1 : ((rdOf ByteArray.empty t206 x11_1).toList != ([] : List UInt8)) = false := bne_eq_false_iff_eq.mpr c10
                  clear c10
                  simp only [Option.some.injEq, Prod.mk.injEq] at H
                  obtain ⟨rfl, rfl⟩ := H
                  go_wp2
                  go_ret2
                  exact ⟨_, by first | rfl | (simp [errW_none, errW_some] <;> rfl) | (simp [*, errW_none, errW_some] <;> rfl), by first | exact Kd.R_nil _ _ _ _ _ | exact Kd.N_nil _ _ _ _ _ | exact Kd.V_nil _ _ _ _ _ | exact Kd.Q_nil _ _ _ _ _ | exact Kd.S_nil _ _ _ _ _, by repeat (first | (with_reducible first | exact HB.out | apply below_alloc | apply pw_below_drewN | apply below_drew1) | exact HB.out)⟩
                · rw [if_neg c10] at H
                  have c10b0 : ((rdOf ByteArray.empty t206 x11_1).toList == ([] : List UInt8)) = false := beq_eq_false_iff_ne.mpr c10
                  have c10b1 : ((rdOf ByteArray.empty t206 x11_1).toList != ([] : List UInt8)) = true := bne_iff_ne.mpr c10
                  by_cases c11 : 0 < ((rdOf ByteArray.empty t206 x11_1).size : Int)
                  · rw [if_pos c11] at H
                    have c11b0 : decide (0 < ((rdOf ByteArray.empty t206 x11_1).size : Int)) = true := decide_eq_true c11
                    have c11b1 : decide (0 < (rdOf ByteArray.empty t206 x11_1).size) = true := decide_eq_true (by omega)
                    clear c11
                    by_cases c13 : (bt (rdOf ByteArray.empty t206 x11_1) 0) = 32
                    · rw [if_pos c13] at H
                      have c13b0 : ((bt (rdOf ByteArray.empty t206 x11_1) 0) == 32) = true := beq_iff_eq.mpr c13
                      have c13b1 : ((bt (rdOf ByteArray.empty t206 x11_1) 0) != 32) = false := bne_eq_false_iff_eq.mpr c13
                      clear c13
                      by_cases c14 : 1 ≤ ((rdOf ByteArray.empty t206 x11_1).size : Int)
                      · rw [if_pos c14] at H
                        have c14b0 := eq_true c14
                        have c14b1 : decide (1 ≤ ((rdOf ByteArray.empty t206 x11_1).size : Int)) = true := decide_eq_true c14
                        clear c14
                        have H' := Aside0.mk H
                        clear H
                        have p12 : 0 ≤ (0 : Int) := (by omega)
                        have q12 : 0 < (rdOf ByteArray.empty t206 x11_1).size := (by have : (0 : Int) < ((rdOf ByteArray.empty t206 x11_1).size : Int) := of_decide_eq_true (by first | (with_reducible assumption) | assumption); omega)
                        have hx12 : ∀ h : 0 < (rdOf ByteArray.empty t206 x11_1).size, (((rdOf ByteArray.empty t206 x11_1)[0]'h).toNat : Int) = bt (rdOf ByteArray.empty t206 x11_1) 0 := bt_at (rdOf ByteArray.empty t206 x11_1) 0
                        clear p12
                        have qi12 : (0 < ((rdOf ByteArray.empty t206 x11_1).size : Int)) = True := eq_true (of_decide_eq_true (by first | (with_reducible assumption) | assumption))
                        replace q12 := eq_true q12
                        go_wp2
                        go_meet
                        case rel => exact ⟨_, ((rdOf ByteArray.empty t206 x11_1).extract 1 (rdOf ByteArray.empty t206 x11_1).size), (by first | rfl | (simp; done) | (simp [*]; done) | (simp [Go.Proofs.YtipmmjbjgbfgjaaX.isEmpty_ne]; done)), H', ⟨by have := HK1.out; first | omega | exact Nat.le_refl _⟩, ⟨by (with_reducible repeat (first | apply Kd.R_alloc | apply Kd.R_drewN | apply Kd.R_drew)); exact HO_4.out⟩, ⟨by (with_reducible repeat (first | apply Kd.R_alloc | apply Kd.R_drewN | apply Kd.R_drew)); exact HO_9.out⟩, ⟨by repeat (first | (with_reducible first | exact HB.out | apply below_alloc | apply pw_below_drewN | apply below_drew1) | exact HB.out)⟩⟩
                      · rw [if_neg c14] at H
                        exact absurd H (by simp)
                    · rw [if_neg c13] at H
                      have c13b0 : ((bt (rdOf ByteArray.empty t206 x11_1) 0) == 32) = false := beq_eq_false_iff_ne.mpr c13
                      have c13b1 : ((bt (rdOf ByteArray.empty t206 x11_1) 0) != 32) = true := bne_iff_ne.mpr c13
                      simp only [Option.some.injEq, Prod.mk.injEq] at H
                      obtain ⟨rfl, rfl⟩ := H
                      have p12 : 0 ≤ (0 : Int) := (by omega)
                      have q12 : 0 < (rdOf ByteArray.empty t206 x11_1).size := (by have : (0 : Int) < ((rdOf ByteArray.empty t206 x11_1).size : Int) := of_decide_eq_true (by first | (with_reducible assumption) | assumption); omega)
                      have hx12 : ∀ h : 0 < (rdOf ByteArray.empty t206 x11_1).size, (((rdOf ByteArray.empty t206 x11_1)[0]'h).toNat : Int) = bt (rdOf ByteArray.empty t206 x11_1) 0 := bt_at (rdOf ByteArray.empty t206 x11_1) 0
                      clear p12
                      have qi12 : (0 < ((rdOf ByteArray.empty t206 x11_1).size : Int)) = True := eq_true (of_decide_eq_true (by first | (with_reducible assumption) | assumption))
                      replace q12 := eq_true q12
                      go_wp2
                      go_ret2
                      exact ⟨_, by first | rfl | (simp [errW_none, errW_some] <;> rfl) | (simp [*, errW_none, errW_some] <;> rfl), by first | exact Kd.R_nil _ _ _ _ _ | exact Kd.N_nil _ _ _ _ _ | exact Kd.V_nil _ _ _ _ _ | exact Kd.Q_nil _ _ _ _ _ | exact Kd.S_nil _ _ _ _ _, by repeat (first | (with_reducible first | exact HB.out | apply below_alloc | apply pw_below_drewN | apply below_drew1) | exact HB.out)⟩
                  · rw [if_neg c11] at H
                    exact absurd H (by simp)
              · rw [if_neg c9] at H
                have c9b0 : decide (0 < x11_1) = false := decide_eq_false c9
                clear c9
                (first | rw [c9b0] | (simp only [i64_w, i32_w]; rw [c9b0]) | (rw [Go.Proofs.YtipmmjbjgbfgjaaX.isEmpty_eq]; rw [c9b0]) | skip)
                have H' := Aside0.mk H
                clear H
                go_wp2
                go_meet
                case rel => exact ⟨_, (rdOf ByteArray.empty t206 x11_1), (by first | rfl | (simp; done) | (simp [*]; done) | (simp [Go.Proofs.YtipmmjbjgbfgjaaX.isEmpty_ne]; done)), H', ⟨by have := HK1.out; first | omega | exact Nat.le_refl _⟩, ⟨by (with_reducible repeat (first | apply Kd.R_alloc | apply Kd.R_drewN | apply Kd.R_drew)); exact HO_4.out⟩, ⟨by (with_reducible repeat (first | apply Kd.R_alloc | apply Kd.R_drewN | apply Kd.R_drew)); exact HO_9.out⟩, ⟨by repeat (first | (with_reducible first | exact HB.out | apply below_alloc | apply pw_below_drewN | apply below_drew1) | exact HB.out)⟩⟩
            case rest =>
              clear HC8
              try clear c1
              try clear p1
              try clear q1
              try clear hx1
              try clear qi1
              try clear p2
              try clear q2
              try clear hx2
              try clear c3
              try clear c5
              try clear c5b0
              try clear c6
              try clear c6b0
              try clear c7
              try clear c7b0
              try clear c9
              try clear c9b0
              try clear c10
              try clear c10b0
              try clear c10b1
              try clear c11
              try clear c11b0
              try clear c11b1
              try clear p12
              try clear q12
              try clear hx12
              try clear qi12
              try clear c13
              try clear c13b0
              try clear c13b1
              try clear c14
              try clear c14b0
              try clear c14b1
              try clear hx209_0
              try clear p12
              try clear p2
              try clear p209
              try clear q12
              try clear q209
              obtain ⟨kq, x6_7, rfl, HA, HJ7, HO_4, HO_9, HB⟩ := hcut
              cases kq with
              | zero => exact absurd HA.out (by simp [spec_RequestCookies.j1])
              | succ kj7 =>
                have H := HA.out
                clear HA
                simp only [spec_RequestCookies.j1] at H
                replace H := Option.bind_eq_some_iff.mp H
                obtain ⟨t210, A150, H⟩ := H
                replace H : (if t210 < 1 then (some (([] : List (S71)), 2)) else (if 0 ≤ t210 then (if t210 ≤ (x6_7.size : Int) then ((spec_token.f kj7 (x6_7.extract 0 (t210 : Int).toNat)).bind fun t211 => (if t211 = true then (if 0 ≤ (wrap64 (t210 + 1)) then (if (wrap64 (t210 + 1)) ≤ (x6_7.size : Int) then ((spec_token.f kj7 (x6_7.extract ((wrap64 (t210 + 1)) : Int).toNat x6_7.size)).bind fun t212 => (if t212 = true then (if x4_1.length < 3518437208883 then (spec_RequestCookies.l0 kj7 (x4_1 ++ [(⟨x6_7.extract 0 (t210 : Int).toNat, x6_7.extract ((wrap64 (t210 + 1)) : Int).toNat x6_7.size, false⟩ : S71)]) t206 (t206.length : Int) (wrap64 (x11_1 + 1))) else (none)) else (some (([] : List (S71)), 2)))) else (none)) else (none)) else (some (([] : List (S71)), 2)))) else (none)) else (none))) = some (r1, r2) := H
                have A15 := Aside0.mk A150
                clear A150
                by_cases c16 : t210 < 1
                · rw [if_pos c16] at H
                  have c16b0 : decide (t210 < 1) = true := decide_eq_true c16
                  clear c16
                  simp only [Option.some.injEq, Prod.mk.injEq] at H
                  obtain ⟨rfl, rfl⟩ := H
                  go_wp2_with (first | ((with_reducible refine gate_callee (f := 72) rfl ?_); refine goesL_ (some 28) rfl rfl Try.func72 (by kernel_rfl) rfl #[.string x6_7, .int .u8 61] rfl (by (try simp only [List.map_toArray, List.map_cons, List.map_nil]); first | done | rfl | (simp only [List.length_drop, List.length_take]; rfl)) ?_; (with_reducible refine (spec_indexOf.calls kj7 x6_7 61 t210 _ A15.out).mono ?_); rintro e w' ⟨rfl, ⟨nd, rfl⟩⟩; refine ⟨_, rfl, ?_⟩))
                  go_ret2
                  exact ⟨_, by first | rfl | (simp [errW_none, errW_some] <;> rfl) | (simp [*, errW_none, errW_some] <;> rfl), by first | exact Kd.R_nil _ _ _ _ _ | exact Kd.N_nil _ _ _ _ _ | exact Kd.V_nil _ _ _ _ _ | exact Kd.Q_nil _ _ _ _ _ | exact Kd.S_nil _ _ _ _ _, by repeat (first | (with_reducible first | exact HB.out | apply below_alloc | apply pw_below_drewN | apply below_drew1) | exact HB.out)⟩
                · rw [if_neg c16] at H
                  have c16b0 : decide (t210 < 1) = false := decide_eq_false c16
                  clear c16
                  by_cases c17 : 0 ≤ t210
                  · rw [if_pos c17] at H
                    have c17b0 := eq_true c17
                    have c17b1 : decide (0 ≤ t210) = true := decide_eq_true c17
                    clear c17
                    by_cases c18 : t210 ≤ (x6_7.size : Int)
                    · rw [if_pos c18] at H
                      have c18b0 := eq_true c18
                      have c18b1 : decide (t210 ≤ (x6_7.size : Int)) = true := decide_eq_true c18
                      clear c18
                      replace H := Option.bind_eq_some_iff.mp H
                      obtain ⟨t211, A190, H⟩ := H
                      replace H : (if t211 = true then (if 0 ≤ (wrap64 (t210 + 1)) then (if (wrap64 (t210 + 1)) ≤ (x6_7.size : Int) then ((spec_token.f kj7 (x6_7.extract ((wrap64 (t210 + 1)) : Int).toNat x6_7.size)).bind fun t212 => (if t212 = true then (if x4_1.length < 3518437208883 then (spec_RequestCookies.l0 kj7 (x4_1 ++ [(⟨x6_7.extract 0 (t210 : Int).toNat, x6_7.extract ((wrap64 (t210 + 1)) : Int).toNat x6_7.size, false⟩ : S71)]) t206 (t206.length : Int) (wrap64 (x11_1 + 1))) else (none)) else (some (([] : List (S71)), 2)))) else (none)) else (none)) else (some (([] : List (S71)), 2))) = some (r1, r2) := H
                      have A19 := Aside0.mk A190
                      clear A190
                      by_cases c20 : t211 = true
                      · subst c20
                        have H1 : (if 0 ≤ (wrap64 (t210 + 1)) then (if (wrap64 (t210 + 1)) ≤ (x6_7.size : Int) then ((spec_token.f kj7 (x6_7.extract ((wrap64 (t210 + 1)) : Int).toNat x6_7.size)).bind fun t212 => (if t212 = true then (if x4_1.length < 3518437208883 then (spec_RequestCookies.l0 kj7 (x4_1 ++ [(⟨x6_7.extract 0 (t210 : Int).toNat, x6_7.extract ((wrap64 (t210 + 1)) : Int).toNat x6_7.size, false⟩ : S71)]) t206 (t206.length : Int) (wrap64 (x11_1 + 1))) else (none)) else (some (([] : List (S71)), 2)))) else (none)) else (none)) = some (r1, r2) := by rw [if_pos rfl] at H; exact H
                        clear H
                        have H := H1
                        clear H1
                        obtain ⟨ji21, hji21⟩ : ∃ j_ : Int, (wrap64 (t210 + 1)) = j_ := ⟨_, rfl⟩
                        replace H : (if 0 ≤ (ji21) then (if (ji21) ≤ (x6_7.size : Int) then ((spec_token.f kj7 (x6_7.extract ((ji21) : Int).toNat x6_7.size)).bind fun t212 => (if t212 = true then (if x4_1.length < 3518437208883 then (spec_RequestCookies.l0 kj7 (x4_1 ++ [(⟨x6_7.extract 0 (t210 : Int).toNat, x6_7.extract ((ji21) : Int).toNat x6_7.size, false⟩ : S71)]) t206 (t206.length : Int) (wrap64 (x11_1 + 1))) else (none)) else (some (([] : List (S71)), 2)))) else (none)) else (none)) = some (r1, r2) := by first | (rw [hji21] at H; exact H) | (simp only [hji21] at H ⊢; exact H)
                        (try rw [hji21] at A15)
                        (try rw [hji21] at A19)
                        have hji21w : (IntKind.i64.wrap (t210 + 1)) = ji21 := (i64_w _).trans hji21
                        by_cases c22 : 0 ≤ (ji21)
                        · rw [if_pos c22] at H
                          have c22b0 := eq_true c22
                          have c22b1 : decide (0 ≤ (ji21)) = true := decide_eq_true c22
                          clear c22
                          by_cases c23 : (ji21) ≤ (x6_7.size : Int)
                          · rw [if_pos c23] at H
                            have c23b0 := eq_true c23
                            have c23b1 : decide ((ji21) ≤ (x6_7.size : Int)) = true := decide_eq_true c23
                            clear c23
                            replace H := Option.bind_eq_some_iff.mp H
                            obtain ⟨t212, A240, H⟩ := H
                            replace H : (if t212 = true then (if x4_1.length < 3518437208883 then (spec_RequestCookies.l0 kj7 (x4_1 ++ [(⟨x6_7.extract 0 (t210 : Int).toNat, x6_7.extract ((ji21) : Int).toNat x6_7.size, false⟩ : S71)]) t206 (t206.length : Int) (wrap64 (x11_1 + 1))) else (none)) else (some (([] : List (S71)), 2))) = some (r1, r2) := H
                            have A24 := Aside0.mk A240
                            clear A240
                            by_cases c25 : t212 = true
                            · subst c25
                              have H1 : (if x4_1.length < 3518437208883 then (spec_RequestCookies.l0 kj7 (x4_1 ++ [(⟨x6_7.extract 0 (t210 : Int).toNat, x6_7.extract ((ji21) : Int).toNat x6_7.size, false⟩ : S71)]) t206 (t206.length : Int) (wrap64 (x11_1 + 1))) else (none)) = some (r1, r2) := by rw [if_pos rfl] at H; exact H
                              clear H
                              have H := H1
                              clear H1
                              have c26b0 := eq_true (of_decide_eq_true (by first | (with_reducible assumption) | assumption) : 0 ≤ t210)
                              have c27b0 := eq_true (of_decide_eq_true (by first | (with_reducible assumption) | assumption) : t210 ≤ (x6_7.size : Int))
                              have c28b0 := eq_true (of_decide_eq_true (by first | (with_reducible assumption) | assumption) : 0 ≤ (ji21))
                              have c29b0 := eq_true (of_decide_eq_true (by first | (with_reducible assumption) | assumption) : (ji21) ≤ (x6_7.size : Int))
                              by_cases c30 : x4_1.length < 3518437208883
                              · rw [if_pos c30] at H
                                have LMc30 := Aside0.mk c30
                                clear c30
                                obtain ⟨y213, hy213⟩ : ∃ y_ : List (S71), y_ = (x4_1 ++ [(⟨x6_7.extract 0 (t210 : Int).toNat, x6_7.extract ((ji21) : Int).toNat x6_7.size, false⟩ : S71)]) := ⟨_, rfl⟩
                                replace H : (spec_RequestCookies.l0 kj7 y213 t206 (t206.length : Int) (wrap64 (x11_1 + 1))) = some (r1, r2) := by first | (rw [hy213]; with_reducible exact H) | (have H2_ := (Option.bind_some _ _).symm.trans H; rw [hy213]; with_reducible exact H2_) | (have H2_ := (Option.bind_some _ _).symm.trans H; with_reducible exact H2_) | with_reducible exact H | (rw [hy213]; exact H) | exact H
                                have Ny213 := Aside0.mk hy213
                                clear hy213
                                have H' := Aside0.mk H
                                clear H
                                try go_wp2_with (first | ((with_reducible refine gate_callee (f := 72) rfl ?_); refine goesL_ (some 28) rfl rfl Try.func72 (by kernel_rfl) rfl #[.string x6_7, .int .u8 61] rfl (by (try simp only [List.map_toArray, List.map_cons, List.map_nil]); first | done | rfl | (simp only [List.length_drop, List.length_take]; rfl)) ?_; (with_reducible refine (spec_indexOf.calls kj7 x6_7 61 t210 _ A15.out).mono ?_); rintro e w' ⟨rfl, ⟨nd, rfl⟩⟩; refine ⟨_, rfl, ?_⟩) | (go_at_call 73; (with_reducible refine (spec_token.calls kj7 (x6_7.extract 0 (t210 : Int).toNat) true _ A19.out).mono ?_); rintro e w' ⟨rfl, ⟨nd, rfl⟩⟩) | (go_at_call 73; (with_reducible refine (spec_token.calls kj7 (x6_7.extract ((ji21) : Int).toNat x6_7.size) true _ A24.out).mono ?_); rintro e w' ⟨rfl, ⟨nd, rfl⟩⟩))
                                (try (rw [drewN_self wc]; generalize hq_ : World.drewN wc _ = wc; have n0_ : Aside0 (Kd.R k71 71 wc w.heap.size (fun _ => True) u4 x4_1) := ⟨by rw [← hq_]; exact (by (with_reducible repeat (first | apply Kd.R_alloc | apply Kd.R_drewN | apply Kd.R_drew)); exact HO_4.out)⟩; have n1_ : Aside0 (Kd.R Kd.string 9 wc w.heap.size (fun _ => True) (.slice (some ad209) t206.length co4) t206) := ⟨by rw [← hq_]; exact (by (with_reducible repeat (first | apply Kd.R_alloc | apply Kd.R_drewN | apply Kd.R_drew)); exact HO_9.out)⟩; have n2_ : Aside0 (Below w.heap.size w wc) := ⟨by rw [← hq_]; exact (by repeat (first | (with_reducible first | exact HB.out | apply below_alloc | apply pw_below_drewN | apply below_drew1) | exact HB.out))⟩; clear HO_4 HO_9 HB hq_; have HO_4 := n0_; have HO_9 := n1_; have HB := n2_; clear n0_ n1_ n2_))
                                have n0_ := Aside0.mk (Kd.R_drew HO_4.out)
                                have n1_ := Aside0.mk (Kd.R_drew HO_9.out)
                                have n2_ := Aside0.mk (below_drew1 HB.out)
                                clear HO_4
                                clear HO_9
                                clear HB
                                have HO_4 := n0_
                                have HO_9 := n1_
                                have HB := n2_
                                clear n0_ n1_ n2_
                                refine start_ (n := 12) (S := fun w' => True) (ds := []) #[false, false, false, false, false, false, false, false, false, false, false, false] (by kernel_rfl) rfl rfl trivial (fun hHeld => ?_); refine with_tabW spec_RequestCookies.tab12 spec_RequestCookies.bits12 (fun HT_ HW_ => ?_)
                                generalize wc.drew = w31 at HO_4 HO_9 HB hHeld ⊢
                                refine pure_ (i := 0) (N := some 46) (v := ?_) (a' := ?_) #[true, false, false, false, false, false, false, false, false, false, false, false] rfl rfl (any_of HT_.out (by kernel_rfl)) (fun _ _ _ h => h) (Or.inl ⟨by rfl, ?_⟩) ?_ ?_
                                rotate_left
                                · intro w'
                                  go_simp
                                  with_reducible rfl
                                rotate_left
                                · simp only [Act.put, List.setIfInBounds_toArray, List.set_cons_zero, List.set_cons_succ, i64_w, i32_w]
                                  rfl
                                refine pure_ (i := 1) (N := some 47) (v := ?_) (a' := ?_) #[true, true, false, false, false, false, false, false, false, false, false, false] rfl rfl (any_of HT_.out (by kernel_rfl)) (fun _ _ _ h => h) (Or.inl ⟨by rfl, ?_⟩) ?_ ?_
                                rotate_left
                                · intro w'
                                  go_simp
                                  with_reducible rfl
                                rotate_left
                                · simp only [Act.put, List.setIfInBounds_toArray, List.set_cons_zero, List.set_cons_succ, i64_w, i32_w]
                                  rfl
                                refine pure_ (i := 2) (N := some 48) (v := ?_) (a' := ?_) #[true, true, true, false, false, false, false, false, false, false, false, false] rfl rfl (any_of HT_.out (by kernel_rfl)) (fun _ _ _ h => h) (Or.inl ⟨by rfl, ?_⟩) ?_ ?_
                                rotate_left
                                · intro w'
                                  go_simp
                                  with_reducible rfl
                                rotate_left
                                · simp only [Act.put, List.setIfInBounds_toArray, List.set_cons_zero, List.set_cons_succ, i64_w, i32_w]
                                  rfl
                                refine pure_ (i := 3) (N := some 49) (v := ?_) (a' := ?_) #[true, true, true, true, false, false, false, false, false, false, false, false] rfl rfl (any_of HT_.out (by kernel_rfl)) (fun _ _ _ h => h) (Or.inl ⟨by rfl, ?_⟩) ?_ ?_
                                rotate_left
                                · intro w'
                                  go_simp
                                  with_reducible rfl
                                rotate_left
                                · simp only [Act.put, List.setIfInBounds_toArray, List.set_cons_zero, List.set_cons_succ, i64_w, i32_w]
                                  rfl
                                refine pure_ (i := 4) (N := some 50) (v := ?_) (a' := ?_) #[true, true, true, true, true, false, false, false, false, false, false, false] rfl rfl (any_of HT_.out (by kernel_rfl)) (fun _ _ _ h => h) (Or.inl ⟨by rfl, ?_⟩) ?_ ?_
                                rotate_left
                                · intro w'
                                  go_simp
                                  with_reducible rfl
                                rotate_left
                                · simp only [Act.put, List.setIfInBounds_toArray, List.set_cons_zero, List.set_cons_succ, i64_w, i32_w]
                                  rfl
                                refine pure_ (i := 5) (N := some 51) (v := ?_) (a' := ?_) #[true, true, true, true, true, true, false, false, false, false, false, false] rfl rfl (any_of HT_.out (by kernel_rfl)) (fun _ _ _ h => h) (Or.inl ⟨by rfl, ?_⟩) ?_ ?_
                                rotate_left
                                · intro w'
                                  go_simp
                                  with_reducible rfl
                                rotate_left
                                · simp only [Act.put, List.setIfInBounds_toArray, List.set_cons_zero, List.set_cons_succ, i64_w, i32_w]
                                  rfl
                                refine pure_ (i := 6) (N := some 52) (v := ?_) (a' := ?_) #[true, true, true, true, true, true, true, false, false, false, false, false] rfl rfl (any_of HT_.out (by kernel_rfl)) (fun _ _ _ h => h) (Or.inl ⟨by rfl, ?_⟩) ?_ ?_
                                rotate_left
                                · intro w'
                                  go_simp
                                  with_reducible rfl
                                rotate_left
                                · simp only [Act.put, List.setIfInBounds_toArray, List.set_cons_zero, List.set_cons_succ, i64_w, i32_w]
                                  rfl
                                refine pure_ (i := 7) (N := some 53) (v := ?_) (a' := ?_) #[true, true, true, true, true, true, true, true, false, false, false, false] rfl rfl (any_of HT_.out (by kernel_rfl)) (fun _ _ _ h => h) (Or.inl ⟨by rfl, ?_⟩) ?_ ?_
                                rotate_left
                                · intro w'
                                  go_simp
                                  with_reducible rfl
                                rotate_left
                                · simp only [Act.put, List.setIfInBounds_toArray, List.set_cons_zero, List.set_cons_succ, i64_w, i32_w]
                                  rfl
                                refine pure_ (i := 8) (N := some 54) (v := ?_) (a' := ?_) #[true, true, true, true, true, true, true, true, true, false, false, false] rfl rfl (any_of HT_.out (by kernel_rfl)) (fun _ _ _ h => h) (Or.inl ⟨by rfl, ?_⟩) ?_ ?_
                                rotate_left
                                · intro w'
                                  go_simp
                                  with_reducible rfl
                                rotate_left
                                · simp only [Act.put, List.setIfInBounds_toArray, List.set_cons_zero, List.set_cons_succ, i64_w, i32_w]
                                  rfl
                                refine one_ (i := 9) (N := some 55) #[true, true, true, true, true, true, true, true, true, true, false, false] rfl rfl (one_of HT_.out (by kernel_rfl)) (by decide) (fun K hK => ?_)
                                refine value_ (w1 := ?_) (v := ?_) (by rfl) rfl ?_ ?_
                                rotate_left 2
                                · go_simp
                                  constructor
                                  · rfl
                                  · rfl
                                refine hK.out _ _ trivial (fun hHeld => ?_)
                                clear hK K
                                refine norm_ (a' := ?_) ?_ ?_
                                rotate_left
                                · show Act.put _ (some 55) _ = _
                                  simp only [Act.put, List.setIfInBounds_toArray, List.set_cons_zero, List.set_cons_succ, i64_w, i32_w]
                                  rfl
                                refine one_ (i := 10) (N := some 56) #[true, true, true, true, true, true, true, true, true, true, true, false] rfl rfl (one_of HT_.out (by kernel_rfl)) (by decide) (fun K hK => ?_)
                                refine Kd.R_append_step k71 (w0 := w) w.heap.size (by rfl) (.tmp 46) (.tmp 55) 43 71 (.agg #[(.string ⟨#[]⟩), (.string ⟨#[]⟩), (.bool false)]) 40 rfl Try.underlying43 info71 rfl (by decide) (by omega) u4 x4_1 (⟨x6_7.extract 0 (t210 : Int).toNat, x6_7.extract ((ji21) : Int).toNat x6_7.size, false⟩ : S71) [.string (x6_7.extract 0 (t210 : Int).toNat), .string (x6_7.extract ((ji21) : Int).toNat x6_7.size), .bool false] (fun _ => True) (fun _ => False) rfl rfl ?aP (fun _ hk => hk.elim) ?aF ?aO ?aB ?aS ?aL ?_
                                (case aP => exact k71_mkM _ _ _ (⟨x6_7.extract 0 (t210 : Int).toNat, x6_7.extract ((ji21) : Int).toNat x6_7.size, false⟩ : S71))
                                (case aB => exact (by repeat (first | (with_reducible first | exact HB.out | apply below_alloc | apply pw_below_drewN | apply below_drew1) | exact HB.out)))
                                (case aF => exact (fun _ _ => trivial))
                                (case aO => exact (by (with_reducible repeat (first | apply Kd.R_alloc | apply Kd.R_drewN | apply Kd.R_drew)); exact HO_4.out))
                                (case aS => exact (below_size (by repeat (first | (with_reducible first | exact HB.out | apply below_alloc | apply pw_below_drewN | apply below_drew1) | exact HB.out))))
                                (case aL => have := LMc30.out; omega)
                                intro v214 w32 ho hb hg hat
                                rw [← Ny213.out] at ho
                                have n0_ := Aside0.mk (Kd.R_over' (by (with_reducible repeat (first | apply Kd.R_alloc | apply Kd.R_drewN | apply Kd.R_drew)); exact HO_9.out) (Kd.R_typed (by (with_reducible repeat (first | apply Kd.R_alloc | apply Kd.R_drewN | apply Kd.R_drew)); exact HO_4.out)) (by decide) hg)
                                have n1_ := Aside0.mk (hb)
                                have n2_ := Aside0.mk (ho)
                                clear HO_9
                                clear HB
                                clear HO_4
                                have HO_9 := n0_
                                have HB := n1_
                                have HO215 := n2_
                                clear n0_ n1_ n2_
                                clear ho hb hg hat
                                refine hK.out _ _ trivial (fun hHeld => ?_)
                                clear hK K
                                refine norm_ (a' := ?_) ?_ ?_
                                rotate_left
                                · show Act.put _ (some 56) _ = _
                                  simp only [Act.put, List.setIfInBounds_toArray, List.set_cons_zero, List.set_cons_succ, i64_w, i32_w]
                                  rfl
                                refine pure_ (i := 11) (N := some 4) (v := ?_) (a' := ?_) #[true, true, true, true, true, true, true, true, true, true, true, true] rfl rfl (any_of HT_.out (by kernel_rfl)) (fun _ _ _ h => h) (Or.inl ⟨by rfl, ?_⟩) ?_ ?_
                                rotate_left
                                · intro w'
                                  go_simp
                                  with_reducible rfl
                                rotate_left
                                · simp only [Act.put, List.setIfInBounds_toArray, List.set_cons_zero, List.set_cons_succ, i64_w, i32_w]
                                  rfl
                                refine done_ (done_of HT_.out (by kernel_rfl)) ?_
                                try go_wp2
                                go_roundg kj7
                                case measure => have := HK1.out; have := HJ7.out; omega
                                case rel => exact ⟨(y213), (wrap64 (x11_1 + 1)), (by first | rfl | (simp; done) | (simp [*]; done) | (simp [Go.Proofs.YtipmmjbjgbfgjaaX.isEmpty_ne]; done)), H', ⟨by have := HK1.out; have := HJ7.out; omega⟩, ⟨by (with_reducible repeat (first | apply Kd.R_alloc | apply Kd.R_drewN | apply Kd.R_drew)); exact HO215.out⟩, ⟨by (with_reducible repeat (first | apply Kd.R_alloc | apply Kd.R_drewN | apply Kd.R_drew)); exact HO_9.out⟩, ⟨by repeat (first | (with_reducible first | exact HB.out | apply below_alloc | apply pw_below_drewN | apply below_drew1) | exact HB.out)⟩⟩
                              · rw [if_neg c30] at H
                                exact absurd H (by simp)
                            · replace c25 := Bool.eq_false_iff.mpr c25
                              subst c25
                              have H1 : (some (([] : List (S71)), 2)) = some (r1, r2) := by rw [if_neg (show ¬ (false = true) by decide)] at H; exact H
                              clear H
                              have H := H1
                              clear H1
                              simp only [Option.some.injEq, Prod.mk.injEq] at H
                              obtain ⟨rfl, rfl⟩ := H
                              go_wp2_with (first | ((with_reducible refine gate_callee (f := 72) rfl ?_); refine goesL_ (some 28) rfl rfl Try.func72 (by kernel_rfl) rfl #[.string x6_7, .int .u8 61] rfl (by (try simp only [List.map_toArray, List.map_cons, List.map_nil]); first | done | rfl | (simp only [List.length_drop, List.length_take]; rfl)) ?_; (with_reducible refine (spec_indexOf.calls kj7 x6_7 61 t210 _ A15.out).mono ?_); rintro e w' ⟨rfl, ⟨nd, rfl⟩⟩; refine ⟨_, rfl, ?_⟩) | (go_at_call 73; (with_reducible refine (spec_token.calls kj7 (x6_7.extract 0 (t210 : Int).toNat) true _ A19.out).mono ?_); rintro e w' ⟨rfl, ⟨nd, rfl⟩⟩) | (go_at_call 73; (with_reducible refine (spec_token.calls kj7 (x6_7.extract ((ji21) : Int).toNat x6_7.size) false _ A24.out).mono ?_); rintro e w' ⟨rfl, ⟨nd, rfl⟩⟩))
                              go_ret2
                              exact ⟨_, by first | rfl | (simp [errW_none, errW_some] <;> rfl) | (simp only [← hji21]; first | rfl | (simp [errW_none, errW_some] <;> rfl)) | (simp [*, errW_none, errW_some] <;> rfl), by first | exact Kd.R_nil _ _ _ _ _ | exact Kd.N_nil _ _ _ _ _ | exact Kd.V_nil _ _ _ _ _ | exact Kd.Q_nil _ _ _ _ _ | exact Kd.S_nil _ _ _ _ _, by repeat (first | (with_reducible first | exact HB.out | apply below_alloc | apply pw_below_drewN | apply below_drew1) | exact HB.out)⟩
                          · rw [if_neg c23] at H
                            exact absurd H (by simp)
                        · rw [if_neg c22] at H
                          exact absurd H (by simp)
                      · replace c20 := Bool.eq_false_iff.mpr c20
                        subst c20
                        have H1 : (some (([] : List (S71)), 2)) = some (r1, r2) := by rw [if_neg (show ¬ (false = true) by decide)] at H; exact H
                        clear H
                        have H := H1
                        clear H1
                        simp only [Option.some.injEq, Prod.mk.injEq] at H
                        obtain ⟨rfl, rfl⟩ := H
                        go_wp2_with (first | ((with_reducible refine gate_callee (f := 72) rfl ?_); refine goesL_ (some 28) rfl rfl Try.func72 (by kernel_rfl) rfl #[.string x6_7, .int .u8 61] rfl (by (try simp only [List.map_toArray, List.map_cons, List.map_nil]); first | done | rfl | (simp only [List.length_drop, List.length_take]; rfl)) ?_; (with_reducible refine (spec_indexOf.calls kj7 x6_7 61 t210 _ A15.out).mono ?_); rintro e w' ⟨rfl, ⟨nd, rfl⟩⟩; refine ⟨_, rfl, ?_⟩) | (go_at_call 73; (with_reducible refine (spec_token.calls kj7 (x6_7.extract 0 (t210 : Int).toNat) false _ A19.out).mono ?_); rintro e w' ⟨rfl, ⟨nd, rfl⟩⟩))
                        go_ret2
                        exact ⟨_, by first | rfl | (simp [errW_none, errW_some] <;> rfl) | (simp [*, errW_none, errW_some] <;> rfl), by first | exact Kd.R_nil _ _ _ _ _ | exact Kd.N_nil _ _ _ _ _ | exact Kd.V_nil _ _ _ _ _ | exact Kd.Q_nil _ _ _ _ _ | exact Kd.S_nil _ _ _ _ _, by repeat (first | (with_reducible first | exact HB.out | apply below_alloc | apply pw_below_drewN | apply below_drew1) | exact HB.out)⟩
                    · rw [if_neg c18] at H
                      exact absurd H (by simp)
                  · rw [if_neg c17] at H
                    exact absurd H (by simp)
          · rw [if_neg c7] at H
            exact absurd H (by simp)
        · rw [if_neg c6] at H
          exact absurd H (by simp)
      · rw [if_neg c5] at H
        have c5b0 : decide (x11_1 < (t206.length : Int)) = false := decide_eq_false c5
        clear c5
        simp only [Option.some.injEq, Prod.mk.injEq] at H
        obtain ⟨rfl, rfl⟩ := H
        go_wp2
        go_ret2
        exact ⟨_, by first | rfl | (simp [errW_none, errW_some] <;> rfl) | (simp [*, errW_none, errW_some] <;> rfl), by (with_reducible repeat (first | apply Kd.R_alloc | apply Kd.R_drewN | apply Kd.R_drew)); exact HO_4.out, by repeat (first | (with_reducible first | exact HB.out | apply below_alloc | apply pw_below_drewN | apply below_drew1) | exact HB.out)⟩

end Go.Proofs.Ytipmmjbjgbfgjaa.Q

-- Written by a program of this session out of the translation, with the kit's printer. Not trusted: Lean checks it.
namespace Go.Proofs.Ytipmmjbjgbfgjaa.Q
open Go.RowKit Go.Proofs.YtipmmjbjgbfgjaaW.PrintWords Go.Proofs.YtipmmjbjgbfgjaaW.PrintLast Go.Proofs.YtipmmjbjgbfgjaaW.PrintMore
attribute [local go_sem] max2_int min2_int max_two min_two max_three min_three max_four min_four   -- for this text's walks alone
set_option linter.unusedVariables false
set_option linter.unusedSimpArgs false

attribute [local go_sem high] eqA40
theorem eqA71 (d : Nat) (w : World) (x0 y0 : ByteArray) (x1 y1 : ByteArray) (x2 y2 : Bool) :
    (Op.equalIn (d + 2) 71 (.agg #[.string x0, .string x1, .bool x2]) (.agg #[.string y0, .string y1, .bool y2])).run Try.prog w = .ok (x0.toList == y0.toList && (x1.toList == y1.toList && (x2 == y2))) w := by
  refine eqA_of Try.underlying71 (by kernel_rfl) ?_
  refine eqf_cons (by rfl) (by go_simp; rfl) (by go_simp; rfl) (by go_simp) ?_
  refine eqf_cons (by rfl) (by go_simp; rfl) (by go_simp; rfl) (by go_simp) ?_
  exact eqf_last (by rfl) (by go_simp; rfl) (by go_simp; rfl) (by go_simp)
attribute [local go_sem high] eqA71
/-! ### laws_alikeArgs: function 33 -/
def laws_alikeArgs.l0 : Nat → List (S40) → List (S71) → Int → Int → Option (Bool)
  | 0, _, _, _, _ => none
  | k + 1, x0, x1, x12, x13 => if x13 < x12 then (if 0 ≤ x13 then (if x13 < (x0.length : Int) then (if x13 < (x1.length : Int) then (if (!((((rd_T40 x0 x13).f0).toList) == (((rd_T71 x1 x13).f0).toList)) || (!((((rd_T40 x0 x13).f1).toList) == (((rd_T71 x1 x13).f1).toList)) || (!(((rd_T40 x0 x13).f2) == ((rd_T71 x1 x13).f2))))) = true then (some false) else (laws_alikeArgs.l0 k x0 x1 x12 (wrap64 (x13 + 1)))) else (none)) else (none)) else (none)) else (some true)
def laws_alikeArgs.f (k : Nat) (l0 : List (S40)) (l1 : List (S71)) : Option (Bool) := if (l0.length : Int) = (l1.length : Int) then (laws_alikeArgs.l0 k l0 l1 (l0.length : Int) 0) else (some false)
theorem laws_alikeArgs.mono_l : ∀ k, (∀ y0 y1 y2 y3, LeO (laws_alikeArgs.l0 k y0 y1 y2 y3) (laws_alikeArgs.l0 (k + 1) y0 y1 y2 y3))
  | 0 => fun _ _ _ _ r h => by simp [laws_alikeArgs.l0] at h
  | k + 1 => by
    have ih0 := laws_alikeArgs.mono_l k
    · intro y0 y1 y2 y3
      unfold laws_alikeArgs.l0
      repeat' first
      | (with_reducible exact ih0 _ _ _ _)
      | (with_reducible exact LeO.refl _)
      | (with_reducible exact LeO.none _)
      | (with_reducible refine LeO.ite ?_ ?_)
      | (with_reducible refine LeO.bind ?_ (fun _ => ?_))
      | exact ih0 _ _ _ _
      | exact LeO.none _
      | refine LeO.ite ?_ ?_
      | refine LeO.bind ?_ (fun _ => ?_)
theorem laws_alikeArgs.mono : ∀ a0 a1 k, LeO (laws_alikeArgs.f k a0 a1) (laws_alikeArgs.f (k + 1) a0 a1) := by
  intro a0 a1 k
  have ih0 := laws_alikeArgs.mono_l k
  unfold laws_alikeArgs.f
  repeat' first
      | (with_reducible exact ih0 _ _ _ _)
      | (with_reducible exact LeO.refl _)
      | (with_reducible exact LeO.none _)
      | (with_reducible refine LeO.ite ?_ ?_)
      | (with_reducible refine LeO.bind ?_ (fun _ => ?_))
      | exact ih0 _ _ _ _
      | exact LeO.none _
      | refine LeO.ite ?_ ?_
      | refine LeO.bind ?_ (fun _ => ?_)
set_option maxHeartbeats 8000000 in
set_option maxRecDepth 100000 in
theorem laws_alikeArgs.calls (k : Nat) (A0 : Option Addr) (c0 : Nat) (l0 : List (S40)) (A1 : Option Addr) (c1 : Nat) (l1 : List (S71)) (r : Bool) (w : World) (hr0 : Kd.C k40 w A0 l0.length l0) (hc0 : l0.length ≤ c0) (hr1 : Kd.C k71 w A1 l1.length l1) (hc1 : l1.length ≤ c1) (h : laws_alikeArgs.f k l0 l1 = some r) :
    Calls Try.prog 33 #[.slice A0 l0.length c0, .slice A1 l1.length c1] w fun e w' => e = .returned (.bool r) ∧ Drawn0 w w' := by
  have hu40 := Try.underlying40
  have hu71 := Try.underlying71
  have HR0 := Aside0.mk hr0
  have HC0 := Aside0.mk hc0
  clear hr0 hc0
  have HR1 := Aside0.mk hr1
  have HC1 := Aside0.mk hc1
  clear hr1 hc1
  have H : (if (l0.length : Int) = (l1.length : Int) then (laws_alikeArgs.l0 k l0 l1 (l0.length : Int) 0) else (some false)) = some r := h
  clear h
  by_cases c3 : (l0.length : Int) = (l1.length : Int)
  · rw [if_pos c3] at H
    have c3b0 : ((l0.length : Int) == (l1.length : Int)) = true := beq_iff_eq.mpr c3
    have c3b1 : ((l0.length : Int) != (l1.length : Int)) = false := bne_eq_false_iff_eq.mpr c3
    have c3b2 : (l0.length == l1.length) = true := by first | simpa using c3 | (simp at c3 ⊢; omega)
    clear c3
    have H' := Aside0.mk H
    clear H
    go_enter Try.func33, Try.ntmps33
    go_wp2
    have hw8_ := Go.Proofs.YtipmmjbjgbfgjaaX.wrap_u8; have hw64_ := Go.Proofs.YtipmmjbjgbfgjaaX.wrap_i64; repeat (go_quiet (fail); try go_wp2)
    go_loopg [13] k (fun kq v13 w' => ∃ (x13_1 : Int), v13 = .int .i64 x13_1 ∧ Aside0 (laws_alikeArgs.l0 kq l0 l1 (l0.length : Int) x13_1 = some r) ∧ Aside0 (kq ≤ k) ∧ Drawn0 w w')
    case atStart => exact ⟨(0), (by first | rfl | (simp; done) | (simp [*]; done) | (simp [Go.Proofs.YtipmmjbjgbfgjaaX.isEmpty_ne]; done)), H', ⟨Nat.le_refl _⟩, by repeat (first | exact Drawn0.refl _ | apply Drawn0.step)⟩
    case round =>
      clear H'
      try clear c1
      try clear p2
      try clear c3
      try clear c3b0
      try clear c3b1
      try clear c3b2
      obtain ⟨x13_1, rfl, HA, HK1, ⟨m1, rfl⟩⟩ := hrel
      cases gk with
      | zero => exact absurd HA.out (by simp [laws_alikeArgs.l0])
      | succ k1 =>
        have H := HA.out
        clear HA
        simp only [laws_alikeArgs.l0] at H
        by_cases c4 : x13_1 < (l0.length : Int)
        · rw [if_pos c4] at H
          have c4b0 : decide (x13_1 < (l0.length : Int)) = true := decide_eq_true c4
          clear c4
          by_cases c5 : 0 ≤ x13_1
          · rw [if_pos c5] at H
            have c5b0 : decide (0 ≤ x13_1) = true := decide_eq_true c5
            clear c5
            by_cases c6 : x13_1 < (l0.length : Int)
            · rw [if_pos c6] at H
              have c6b0 : decide (x13_1 < (l0.length : Int)) = true := decide_eq_true c6
              clear c6
              by_cases c7 : x13_1 < (l1.length : Int)
              · rw [if_pos c7] at H
                have c7b0 : decide (x13_1 < (l1.length : Int)) = true := decide_eq_true c7
                clear c7
                by_cases c8 : (!((((rd_T40 l0 x13_1).f0).toList) == (((rd_T71 l1 x13_1).f0).toList)) || (!((((rd_T40 l0 x13_1).f1).toList) == (((rd_T71 l1 x13_1).f1).toList)) || (!(((rd_T40 l0 x13_1).f2) == ((rd_T71 l1 x13_1).f2))))) = true
                · rw [if_pos c8] at H
                  have c8b0 : (!((((rd_T40 l0 x13_1).f0).toList) == (((rd_T71 l1 x13_1).f0).toList)) || (!((((rd_T40 l0 x13_1).f1).toList) == (((rd_T71 l1 x13_1).f1).toList)) || (!(((rd_T40 l0 x13_1).f2) == ((rd_T71 l1 x13_1).f2))))) = true := c8
                  clear c8
                  obtain rfl := Option.some.inj H
                  have p216 : 0 ≤ (x13_1 : Int) := of_decide_eq_true (by first | (with_reducible assumption) | assumption)
                  have q216 : x13_1 < (l0.length : Int) := of_decide_eq_true (by first | (with_reducible assumption) | assumption)
                  obtain ⟨ad216, e216, hx216_0, hx216_1, hx216_2⟩ := at_T40 HR0.out x13_1 p216 q216
                  cases e216
                  replace p216 := eq_true p216
                  replace q216 := eq_true q216
                  have p217 : 0 ≤ (x13_1 : Int) := of_decide_eq_true (by first | (with_reducible assumption) | assumption)
                  have q217 : x13_1 < (l1.length : Int) := of_decide_eq_true (by first | (with_reducible assumption) | assumption)
                  obtain ⟨ad217, e217, hx217_0, hx217_1, hx217_2⟩ := at_T71 HR1.out x13_1 p217 q217
                  cases e217
                  replace p217 := eq_true p217
                  replace q217 := eq_true q217
                  go_wp2
                  have hw8_ := Go.Proofs.YtipmmjbjgbfgjaaX.wrap_u8; have hw64_ := Go.Proofs.YtipmmjbjgbfgjaaX.wrap_i64; repeat (go_quiet (fail); try go_wp2)
                  go_ret
                  exact ⟨by first | rfl | (simp; done) | (simp [*]; done) | (simp [Go.Proofs.YtipmmjbjgbfgjaaX.isEmpty_ne]; done), by repeat (first | exact Drawn0.refl _ | apply Drawn0.step)⟩
                · rw [if_neg c8] at H
                  have c8b0 : (!((((rd_T40 l0 x13_1).f0).toList) == (((rd_T71 l1 x13_1).f0).toList)) || (!((((rd_T40 l0 x13_1).f1).toList) == (((rd_T71 l1 x13_1).f1).toList)) || (!(((rd_T40 l0 x13_1).f2) == ((rd_T71 l1 x13_1).f2))))) = false := by simpa using c8
                  clear c8
                  have H' := Aside0.mk H
                  clear H
                  have p216 : 0 ≤ (x13_1 : Int) := of_decide_eq_true (by first | (with_reducible assumption) | assumption)
                  have q216 : x13_1 < (l0.length : Int) := of_decide_eq_true (by first | (with_reducible assumption) | assumption)
                  obtain ⟨ad216, e216, hx216_0, hx216_1, hx216_2⟩ := at_T40 HR0.out x13_1 p216 q216
                  cases e216
                  replace p216 := eq_true p216
                  replace q216 := eq_true q216
                  have p217 : 0 ≤ (x13_1 : Int) := of_decide_eq_true (by first | (with_reducible assumption) | assumption)
                  have q217 : x13_1 < (l1.length : Int) := of_decide_eq_true (by first | (with_reducible assumption) | assumption)
                  obtain ⟨ad217, e217, hx217_0, hx217_1, hx217_2⟩ := at_T71 HR1.out x13_1 p217 q217
                  cases e217
                  replace p217 := eq_true p217
                  replace q217 := eq_true q217
                  go_wp2
                  have hw8_ := Go.Proofs.YtipmmjbjgbfgjaaX.wrap_u8; have hw64_ := Go.Proofs.YtipmmjbjgbfgjaaX.wrap_i64; repeat (go_quiet (fail); try go_wp2)
                  go_roundg k1
                  case measure => have := HK1.out; omega
                  case rel => exact ⟨(wrap64 (x13_1 + 1)), (by first | rfl | (simp; done) | (simp [*]; done) | (simp [Go.Proofs.YtipmmjbjgbfgjaaX.isEmpty_ne]; done)), H', ⟨by have := HK1.out; omega⟩, by repeat (first | exact Drawn0.refl _ | apply Drawn0.step)⟩
              · rw [if_neg c7] at H
                exact absurd H (by simp)
            · rw [if_neg c6] at H
              exact absurd H (by simp)
          · rw [if_neg c5] at H
            exact absurd H (by simp)
        · rw [if_neg c4] at H
          have c4b0 : decide (x13_1 < (l0.length : Int)) = false := decide_eq_false c4
          clear c4
          obtain rfl := Option.some.inj H
          go_wp2
          have hw8_ := Go.Proofs.YtipmmjbjgbfgjaaX.wrap_u8; have hw64_ := Go.Proofs.YtipmmjbjgbfgjaaX.wrap_i64; repeat (go_quiet (fail); try go_wp2)
          go_ret
          exact ⟨by first | rfl | (simp; done) | (simp [*]; done) | (simp [Go.Proofs.YtipmmjbjgbfgjaaX.isEmpty_ne]; done), by repeat (first | exact Drawn0.refl _ | apply Drawn0.step)⟩
  · rw [if_neg c3] at H
    have c3b0 : ((l0.length : Int) == (l1.length : Int)) = false := beq_eq_false_iff_ne.mpr c3
    have c3b1 : ((l0.length : Int) != (l1.length : Int)) = true := bne_iff_ne.mpr c3
    have c3b2 : (l0.length == l1.length) = false := by first | simpa using c3 | (simp at c3 ⊢; omega)
    obtain rfl := Option.some.inj H
    go_enter Try.func33, Try.ntmps33
    go_wp2
    have hw8_ := Go.Proofs.YtipmmjbjgbfgjaaX.wrap_u8; have hw64_ := Go.Proofs.YtipmmjbjgbfgjaaX.wrap_i64; repeat (go_quiet (fail); try go_wp2)
    go_ret
    exact ⟨by first | rfl | (simp; done) | (simp [*]; done) | (simp [Go.Proofs.YtipmmjbjgbfgjaaX.isEmpty_ne]; done), by repeat (first | exact Drawn0.refl _ | apply Drawn0.step)⟩

end Go.Proofs.Ytipmmjbjgbfgjaa.Q

-- Written by a program of this session out of the translation, with the kit's printer. Not trusted: Lean checks it.
namespace Go.Proofs.Ytipmmjbjgbfgjaa.Q
open Go.RowKit Go.Proofs.YtipmmjbjgbfgjaaW.PrintWords Go.Proofs.YtipmmjbjgbfgjaaW.PrintLast Go.Proofs.YtipmmjbjgbfgjaaW.PrintMore
attribute [local go_sem] max2_int min2_int max_two min_two max_three min_three max_four min_four   -- for this text's walks alone
set_option linter.unusedVariables false
set_option linter.unusedSimpArgs false

/-! ### spec_CookiesText: function 34 -/
mutual
def spec_CookiesText.l0 : Nat → ByteArray → List (S71) → Int → Int → Option (ByteArray × Int)
  | 0, _, _, _, _ => none
  | k + 1, x4, x7, x8, x9 => if x9 < x8 then (if 0 ≤ x9 then (if x9 < (x7.length : Int) then (if x9 > 0 then (if x4.size + 2 ≤ 9223372036854775807 then (spec_CookiesText.j1 k (x4 ++ (⟨#[59, 32]⟩ : ByteArray)) x7 x8 x9 ((rd_T71 x7 x9).f0) ((rd_T71 x7 x9).f1) ((rd_T71 x7 x9).f2)) else (none)) else (spec_CookiesText.j1 k x4 x7 x8 x9 ((rd_T71 x7 x9).f0) ((rd_T71 x7 x9).f1) ((rd_T71 x7 x9).f2))) else (none)) else (none)) else (some (x4, 1))
def spec_CookiesText.j1 : Nat → ByteArray → List (S71) → Int → Int → ByteArray → ByteArray → Bool → Option (ByteArray × Int)
  | 0, _, _, _, _, _, _, _ => none
  | k + 1, x4, x7, x8, x9, x220000, x220001, x220002 => (spec_token.f k x220000).bind fun t220 => (if t220 = true then ((spec_token.f k x220001).bind fun t221 => (if t221 = true then (if x220002 = true then (some ((⟨#[]⟩ : ByteArray), 2)) else (if x220000.size + 1 ≤ 9223372036854775807 then (if x220000.size + 1 + x220001.size ≤ 9223372036854775807 then (if x4.size + (x220000.size + 1 + x220001.size) ≤ 9223372036854775807 then (spec_CookiesText.l0 k (x4 ++ ((x220000 ++ (⟨#[61]⟩ : ByteArray)) ++ x220001)) x7 x8 (wrap64 (x9 + 1))) else (none)) else (none)) else (none))) else (some ((⟨#[]⟩ : ByteArray), 2)))) else (some ((⟨#[]⟩ : ByteArray), 2)))
end
def spec_CookiesText.f (k : Nat) (l0 : List (S71)) : Option (ByteArray × Int) := spec_CookiesText.l0 k (⟨#[]⟩ : ByteArray) l0 (l0.length : Int) 0
theorem spec_CookiesText.mono_l : ∀ k, (∀ y0 y1 y2 y3, LeO (spec_CookiesText.l0 k y0 y1 y2 y3) (spec_CookiesText.l0 (k + 1) y0 y1 y2 y3)) ∧ (∀ y0 y1 y2 y3 y4 y5 y6, LeO (spec_CookiesText.j1 k y0 y1 y2 y3 y4 y5 y6) (spec_CookiesText.j1 (k + 1) y0 y1 y2 y3 y4 y5 y6))
  | 0 => ⟨fun _ _ _ _ r h => by simp [spec_CookiesText.l0] at h, fun _ _ _ _ _ _ _ r h => by simp [spec_CookiesText.j1] at h⟩
  | k + 1 => by
    obtain ⟨ih0, ih1⟩ := spec_CookiesText.mono_l k
    refine ⟨?_, ?_⟩
    · intro y0 y1 y2 y3
      unfold spec_CookiesText.l0
      repeat' first
      | (with_reducible exact ih0 _ _ _ _)
      | (with_reducible exact ih1 _ _ _ _ _ _ _)
      | (with_reducible exact spec_token.mono _ _)
      | (with_reducible exact LeO.refl _)
      | (with_reducible exact LeO.none _)
      | (with_reducible refine LeO.ite ?_ ?_)
      | (with_reducible refine LeO.bind ?_ (fun _ => ?_))
      | exact ih0 _ _ _ _
      | exact ih1 _ _ _ _ _ _ _
      | exact spec_token.mono _ _
      | exact LeO.none _
      | refine LeO.ite ?_ ?_
      | refine LeO.bind ?_ (fun _ => ?_)
    · intro y0 y1 y2 y3 y4 y5 y6
      unfold spec_CookiesText.j1
      repeat' first
      | (with_reducible exact ih0 _ _ _ _)
      | (with_reducible exact ih1 _ _ _ _ _ _ _)
      | (with_reducible exact spec_token.mono _ _)
      | (with_reducible exact LeO.refl _)
      | (with_reducible exact LeO.none _)
      | (with_reducible refine LeO.ite ?_ ?_)
      | (with_reducible refine LeO.bind ?_ (fun _ => ?_))
      | exact ih0 _ _ _ _
      | exact ih1 _ _ _ _ _ _ _
      | exact spec_token.mono _ _
      | exact LeO.none _
      | refine LeO.ite ?_ ?_
      | refine LeO.bind ?_ (fun _ => ?_)
theorem spec_CookiesText.mono : ∀ a0 k, LeO (spec_CookiesText.f k a0) (spec_CookiesText.f (k + 1) a0) := by
  intro a0 k
  obtain ⟨ih0, ih1⟩ := spec_CookiesText.mono_l k
  unfold spec_CookiesText.f
  repeat' first
      | (with_reducible exact ih0 _ _ _ _)
      | (with_reducible exact ih1 _ _ _ _ _ _ _)
      | (with_reducible exact spec_token.mono _ _)
      | (with_reducible exact LeO.refl _)
      | (with_reducible exact LeO.none _)
      | (with_reducible refine LeO.ite ?_ ?_)
      | (with_reducible refine LeO.bind ?_ (fun _ => ?_))
      | exact ih0 _ _ _ _
      | exact ih1 _ _ _ _ _ _ _
      | exact spec_token.mono _ _
      | exact LeO.none _
      | refine LeO.ite ?_ ?_
      | refine LeO.bind ?_ (fun _ => ?_)
set_option maxHeartbeats 8000000 in
set_option maxRecDepth 100000 in
theorem spec_CookiesText.calls (k : Nat) (A0 : Option Addr) (c0 : Nat) (l0 : List (S71)) (r1 : ByteArray) (r2 : Int) (w : World) (hr0 : Kd.C k71 w A0 l0.length l0) (hc0 : l0.length ≤ c0) (h : spec_CookiesText.f k l0 = some (r1, r2)) :
    Calls Try.prog 34 #[.slice A0 l0.length c0] w fun e w' => e = .returned (.tuple #[.string r1, .int .i64 r2]) ∧ Below w.heap.size w w' := by
  have hu71 := Try.underlying71
  have HR0 := Aside0.mk hr0
  have HC0 := Aside0.mk hc0
  clear hr0 hc0
  have HB := Aside0.mk (Below.refl w.heap.size w)
  have H : (spec_CookiesText.l0 k (⟨#[]⟩ : ByteArray) l0 (l0.length : Int) 0) = some (r1, r2) := h
  clear h
  have H' := Aside0.mk H
  clear H
  go_enter Try.func34, Try.ntmps34
  go_wp2
  go_loopg [4, 9] k (fun kq v4 v9 w' => ∃ (x4_1 : ByteArray) (x9_1 : Int), v4 = .string x4_1 ∧ v9 = .int .i64 x9_1 ∧ Aside0 (spec_CookiesText.l0 kq x4_1 l0 (l0.length : Int) x9_1 = some (r1, r2)) ∧ Aside0 (kq ≤ k) ∧ Aside0 (Below w.heap.size w w'))
  case atStart => exact ⟨((⟨#[]⟩ : ByteArray)), (0), (by first | rfl | (simp; done) | (simp [*]; done) | (simp [Go.Proofs.YtipmmjbjgbfgjaaX.isEmpty_ne]; done)), (by first | rfl | (simp; done) | (simp [*]; done) | (simp [Go.Proofs.YtipmmjbjgbfgjaaX.isEmpty_ne]; done)), H', ⟨Nat.le_refl _⟩, ⟨by repeat (first | (with_reducible first | exact HB.out | apply below_alloc | apply pw_below_drewN | apply below_drew1) | exact HB.out)⟩⟩
  case round =>
    clear H'
    obtain ⟨x4_1, x9_1, rfl, rfl, HA, HK1, HB⟩ := hrel
    cases gk with
    | zero => exact absurd HA.out (by simp [spec_CookiesText.l0])
    | succ k1 =>
      have H := HA.out
      clear HA
      simp only [spec_CookiesText.l0] at H
      by_cases c2 : x9_1 < (l0.length : Int)
      · rw [if_pos c2] at H
        have c2b0 : decide (x9_1 < (l0.length : Int)) = true := decide_eq_true c2
        clear c2
        by_cases c3 : 0 ≤ x9_1
        · rw [if_pos c3] at H
          have c3b0 : decide (0 ≤ x9_1) = true := decide_eq_true c3
          clear c3
          by_cases c4 : x9_1 < (l0.length : Int)
          · rw [if_pos c4] at H
            have c4b0 : decide (x9_1 < (l0.length : Int)) = true := decide_eq_true c4
            clear c4
            have HC5 := Aside0.mk H
            clear H
            have p218 : 0 ≤ (x9_1 : Int) := of_decide_eq_true (by first | (with_reducible assumption) | assumption)
            have q218 : x9_1 < (l0.length : Int) := of_decide_eq_true (by first | (with_reducible assumption) | assumption)
            obtain ⟨ad218, e218, hx218_0, hx218_1, hx218_2⟩ := at_T71 HR0.out x9_1 p218 q218
            cases e218
            replace hx218_0 := (HB.out.cell (World.block_lt_of_cell? w _ hx218_0)).trans hx218_0
            replace hx218_1 := (HB.out.cell (World.block_lt_of_cell? w _ hx218_1)).trans hx218_1
            replace hx218_2 := (HB.out.cell (World.block_lt_of_cell? w _ hx218_2)).trans hx218_2
            replace p218 := eq_true p218
            replace q218 := eq_true q218
            go_upto_if 15 with (first | ((with_reducible refine gate_dst (N := 6) rfl ?_); refine box_event ?hg (N := 6) ?hd (cs := #[.string (⟨#[]⟩ : ByteArray), .string (⟨#[]⟩ : ByteArray), .bool false]) (t := 71) ?hr ?_; (case hd => rfl); (case hg => rfl); (case hr => first | (go_simp; done) | (go_simp; rfl)); intro gb219 hg w6 hbox hb; have n0_ := Aside0.mk (below_step (by repeat (first | (with_reducible first | exact HB.out | apply below_alloc | apply pw_below_drewN | apply below_drew1) | exact HB.out)) hb); have n1_ := Aside0.mk (hbox); have n2_ := Aside0.mk ((by rw [hg]; exact (below_size (by repeat (first | (with_reducible first | exact HB.out | apply below_alloc | apply pw_below_drewN | apply below_drew1) | exact HB.out))) : w.heap.size ≤ gb219)); have n3_ := Aside0.mk ((by rw [hg]; exact (below_size (by repeat (first | (with_reducible first | exact HB.out | apply below_alloc | apply pw_below_drewN | apply below_drew1) | exact HB.out))) : w.heap.size ≤ gb219)); clear HB; have HB := n0_; have BK219 := n1_; have GW219 := n2_; have GE219 := n3_; clear n0_ n1_ n2_ n3_; clear hb hbox hg; have hcz7_0 : w6.cell? ⟨gb219, 0, none⟩ = some (.string (⟨#[]⟩ : ByteArray)) := (blk_cell BK219.out 0).trans rfl; have hcz7_1 : w6.cell? ⟨gb219, 1, none⟩ = some (.string (⟨#[]⟩ : ByteArray)) := (blk_cell BK219.out 1).trans rfl; have hcz7_2 : w6.cell? ⟨gb219, 2, none⟩ = some (.bool false) := (blk_cell BK219.out 2).trans rfl; have hfz7_0 := blk_frozen BK219.out 0; have hfz7_1 := blk_frozen BK219.out 1; have hfz7_2 := blk_frozen BK219.out 2))
            (try simp only [Act.put, List.setIfInBounds_toArray, List.set_cons_zero, List.set_cons_succ])
            go_cut [4] (fun v4 wc => ∃ (kq : Nat) (x4_4 : ByteArray), v4 = .string x4_4 ∧ Aside0 (spec_CookiesText.j1 kq x4_4 l0 (l0.length : Int) x9_1 ((rd_T71 l0 x9_1).f0) ((rd_T71 l0 x9_1).f1) ((rd_T71 l0 x9_1).f2) = some (r1, r2)) ∧ Aside0 (kq ≤ k1) ∧ Aside0 (wc.heap[gb219]? = some (.cells #[.string ((rd_T71 l0 x9_1).f0), .string ((rd_T71 l0 x9_1).f1), .bool ((rd_T71 l0 x9_1).f2)] 71 (0, 0))) ∧ Aside0 (Below w.heap.size w wc))
            case first =>
              have H := HC5.out
              clear HC5
              by_cases c8 : x9_1 > 0
              · rw [if_pos c8] at H
                have c8b0 : decide (0 < x9_1) = true := decide_eq_true c8
                clear c8
                (first | rw [c8b0] | (simp only [i64_w, i32_w]; rw [c8b0]) | (rw [Go.Proofs.YtipmmjbjgbfgjaaX.isEmpty_eq]; rw [c8b0]) | skip)
                by_cases c9 : x4_1.size + 2 ≤ 9223372036854775807
                · rw [if_pos c9] at H
                  have c9b0 := eq_true c9
                  have c9b1 : decide (x4_1.size + 2 ≤ 9223372036854775807) = true := decide_eq_true c9
                  try have c9b2 : (9223372036854775807 < x4_1.size + 2) = False := eq_false (Nat.not_lt.2 c9)
                  have H' := Aside0.mk H
                  clear H
                  go_wp2
                  go_meet
                  case rel => exact ⟨_, (x4_1 ++ (⟨#[59, 32]⟩ : ByteArray)), (by first | rfl | (simp; done) | (simp [*]; done) | (simp [Go.Proofs.YtipmmjbjgbfgjaaX.isEmpty_ne]; done)), H', ⟨by have := HK1.out; first | omega | exact Nat.le_refl _⟩, ⟨by (with_reducible repeat (first | refine blk_drewN ?_ _ | refine blk_drew ?_ | refine blk_alloc ?_ _)); refine blk_put (cs := #[.string ((rd_T71 l0 x9_1).f0), .string ((rd_T71 l0 x9_1).f1), .bool false]) ?_ 2 _ rfl; (with_reducible repeat (first | refine blk_drewN ?_ _ | refine blk_drew ?_ | refine blk_alloc ?_ _)); refine blk_put (cs := #[.string ((rd_T71 l0 x9_1).f0), .string (⟨#[]⟩ : ByteArray), .bool false]) ?_ 1 _ rfl; (with_reducible repeat (first | refine blk_drewN ?_ _ | refine blk_drew ?_ | refine blk_alloc ?_ _)); refine blk_put (cs := #[.string (⟨#[]⟩ : ByteArray), .string (⟨#[]⟩ : ByteArray), .bool false]) ?_ 0 _ rfl; (with_reducible repeat (first | refine blk_drewN ?_ _ | refine blk_drew ?_ | refine blk_alloc ?_ _)); exact BK219.out⟩, ⟨by repeat (first | (with_reducible first | exact HB.out | apply below_alloc | apply pw_below_drewN | apply below_drew1 | refine below_set ?_ GE219.out) | exact HB.out)⟩⟩
                · rw [if_neg c9] at H
                  exact absurd H (by simp)
              · rw [if_neg c8] at H
                have c8b0 : decide (0 < x9_1) = false := decide_eq_false c8
                clear c8
                (first | rw [c8b0] | (simp only [i64_w, i32_w]; rw [c8b0]) | (rw [Go.Proofs.YtipmmjbjgbfgjaaX.isEmpty_eq]; rw [c8b0]) | skip)
                have H' := Aside0.mk H
                clear H
                go_wp2
                go_meet
                case rel => exact ⟨_, (x4_1), (by first | rfl | (simp; done) | (simp [*]; done) | (simp [Go.Proofs.YtipmmjbjgbfgjaaX.isEmpty_ne]; done)), H', ⟨by have := HK1.out; first | omega | exact Nat.le_refl _⟩, ⟨by (with_reducible repeat (first | refine blk_drewN ?_ _ | refine blk_drew ?_ | refine blk_alloc ?_ _)); refine blk_put (cs := #[.string ((rd_T71 l0 x9_1).f0), .string ((rd_T71 l0 x9_1).f1), .bool false]) ?_ 2 _ rfl; (with_reducible repeat (first | refine blk_drewN ?_ _ | refine blk_drew ?_ | refine blk_alloc ?_ _)); refine blk_put (cs := #[.string ((rd_T71 l0 x9_1).f0), .string (⟨#[]⟩ : ByteArray), .bool false]) ?_ 1 _ rfl; (with_reducible repeat (first | refine blk_drewN ?_ _ | refine blk_drew ?_ | refine blk_alloc ?_ _)); refine blk_put (cs := #[.string (⟨#[]⟩ : ByteArray), .string (⟨#[]⟩ : ByteArray), .bool false]) ?_ 0 _ rfl; (with_reducible repeat (first | refine blk_drewN ?_ _ | refine blk_drew ?_ | refine blk_alloc ?_ _)); exact BK219.out⟩, ⟨by repeat (first | (with_reducible first | exact HB.out | apply below_alloc | apply pw_below_drewN | apply below_drew1 | refine below_set ?_ GE219.out) | exact HB.out)⟩⟩
            case rest =>
              clear HC5
              try clear c2
              try clear c2b0
              try clear p2
              try clear q2
              try clear hx2
              try clear c3
              try clear c3b0
              try clear c4
              try clear c4b0
              try clear c8
              try clear c8b0
              try clear c9
              try clear c9b0
              try clear c9b1
              try clear c9b2
              try clear hcz7_0
              try clear hcz7_1
              try clear hcz7_2
              try clear hfz7_0
              try clear hfz7_1
              try clear hfz7_2
              try clear hx218_0
              try clear hx218_1
              try clear hx218_2
              try clear p218
              try clear q218
              obtain ⟨kq, x4_4, rfl, HA, HJ4, BK219, HB⟩ := hcut
              cases kq with
              | zero => exact absurd HA.out (by simp [spec_CookiesText.j1])
              | succ kj4 =>
                have H := HA.out
                clear HA
                simp only [spec_CookiesText.j1] at H
                replace H := Option.bind_eq_some_iff.mp H
                obtain ⟨t220, A100, H⟩ := H
                replace H : (if t220 = true then ((spec_token.f kj4 ((rd_T71 l0 x9_1).f1)).bind fun t221 => (if t221 = true then (if ((rd_T71 l0 x9_1).f2) = true then (some ((⟨#[]⟩ : ByteArray), 2)) else (if ((rd_T71 l0 x9_1).f0).size + 1 ≤ 9223372036854775807 then (if ((rd_T71 l0 x9_1).f0).size + 1 + ((rd_T71 l0 x9_1).f1).size ≤ 9223372036854775807 then (if x4_4.size + (((rd_T71 l0 x9_1).f0).size + 1 + ((rd_T71 l0 x9_1).f1).size) ≤ 9223372036854775807 then (spec_CookiesText.l0 kj4 (x4_4 ++ ((((rd_T71 l0 x9_1).f0) ++ (⟨#[61]⟩ : ByteArray)) ++ ((rd_T71 l0 x9_1).f1))) l0 (l0.length : Int) (wrap64 (x9_1 + 1))) else (none)) else (none)) else (none))) else (some ((⟨#[]⟩ : ByteArray), 2)))) else (some ((⟨#[]⟩ : ByteArray), 2))) = some (r1, r2) := H
                have A10 := Aside0.mk A100
                clear A100
                by_cases c11 : t220 = true
                · subst c11
                  have H1 : ((spec_token.f kj4 ((rd_T71 l0 x9_1).f1)).bind fun t221 => (if t221 = true then (if ((rd_T71 l0 x9_1).f2) = true then (some ((⟨#[]⟩ : ByteArray), 2)) else (if ((rd_T71 l0 x9_1).f0).size + 1 ≤ 9223372036854775807 then (if ((rd_T71 l0 x9_1).f0).size + 1 + ((rd_T71 l0 x9_1).f1).size ≤ 9223372036854775807 then (if x4_4.size + (((rd_T71 l0 x9_1).f0).size + 1 + ((rd_T71 l0 x9_1).f1).size) ≤ 9223372036854775807 then (spec_CookiesText.l0 kj4 (x4_4 ++ ((((rd_T71 l0 x9_1).f0) ++ (⟨#[61]⟩ : ByteArray)) ++ ((rd_T71 l0 x9_1).f1))) l0 (l0.length : Int) (wrap64 (x9_1 + 1))) else (none)) else (none)) else (none))) else (some ((⟨#[]⟩ : ByteArray), 2)))) = some (r1, r2) := by rw [if_pos rfl] at H; exact H
                  clear H
                  have H := H1
                  clear H1
                  replace H := Option.bind_eq_some_iff.mp H
                  obtain ⟨t221, A120, H⟩ := H
                  replace H : (if t221 = true then (if ((rd_T71 l0 x9_1).f2) = true then (some ((⟨#[]⟩ : ByteArray), 2)) else (if ((rd_T71 l0 x9_1).f0).size + 1 ≤ 9223372036854775807 then (if ((rd_T71 l0 x9_1).f0).size + 1 + ((rd_T71 l0 x9_1).f1).size ≤ 9223372036854775807 then (if x4_4.size + (((rd_T71 l0 x9_1).f0).size + 1 + ((rd_T71 l0 x9_1).f1).size) ≤ 9223372036854775807 then (spec_CookiesText.l0 kj4 (x4_4 ++ ((((rd_T71 l0 x9_1).f0) ++ (⟨#[61]⟩ : ByteArray)) ++ ((rd_T71 l0 x9_1).f1))) l0 (l0.length : Int) (wrap64 (x9_1 + 1))) else (none)) else (none)) else (none))) else (some ((⟨#[]⟩ : ByteArray), 2))) = some (r1, r2) := H
                  have A12 := Aside0.mk A120
                  clear A120
                  by_cases c13 : t221 = true
                  · subst c13
                    have H1 : (if ((rd_T71 l0 x9_1).f2) = true then (some ((⟨#[]⟩ : ByteArray), 2)) else (if ((rd_T71 l0 x9_1).f0).size + 1 ≤ 9223372036854775807 then (if ((rd_T71 l0 x9_1).f0).size + 1 + ((rd_T71 l0 x9_1).f1).size ≤ 9223372036854775807 then (if x4_4.size + (((rd_T71 l0 x9_1).f0).size + 1 + ((rd_T71 l0 x9_1).f1).size) ≤ 9223372036854775807 then (spec_CookiesText.l0 kj4 (x4_4 ++ ((((rd_T71 l0 x9_1).f0) ++ (⟨#[61]⟩ : ByteArray)) ++ ((rd_T71 l0 x9_1).f1))) l0 (l0.length : Int) (wrap64 (x9_1 + 1))) else (none)) else (none)) else (none))) = some (r1, r2) := by rw [if_pos rfl] at H; exact H
                    clear H
                    have H := H1
                    clear H1
                    by_cases c14 : ((rd_T71 l0 x9_1).f2) = true
                    · rw [if_pos c14] at H
                      have c14b0 : ((rd_T71 l0 x9_1).f2) = true := c14
                      clear c14
                      simp only [Option.some.injEq, Prod.mk.injEq] at H
                      obtain ⟨rfl, rfl⟩ := H
                      have hcz15_0 : wc.cell? ⟨gb219, 0, none⟩ = some (.string ((rd_T71 l0 x9_1).f0)) := (blk_cell BK219.out 0).trans rfl
                      have hcz15_1 : wc.cell? ⟨gb219, 1, none⟩ = some (.string ((rd_T71 l0 x9_1).f1)) := (blk_cell BK219.out 1).trans rfl
                      have hcz15_2 : wc.cell? ⟨gb219, 2, none⟩ = some (.bool ((rd_T71 l0 x9_1).f2)) := (blk_cell BK219.out 2).trans rfl
                      have hfz15_0 := blk_frozen BK219.out 0
                      have hfz15_1 := blk_frozen BK219.out 1
                      have hfz15_2 := blk_frozen BK219.out 2
                      go_wp2_with (first | ((with_reducible refine gate_callee (f := 73) rfl ?_); refine goesL_ (some 20) rfl rfl Try.func73 (by kernel_rfl) rfl #[.string ((rd_T71 l0 x9_1).f0)] rfl (by (try simp only [List.map_toArray, List.map_cons, List.map_nil]); first | done | rfl | (simp only [List.length_drop, List.length_take]; rfl)) ?_; (with_reducible refine (spec_token.calls kj4 ((rd_T71 l0 x9_1).f0) true _ A10.out).mono ?_); rintro e w' ⟨rfl, ⟨nd, rfl⟩⟩; refine ⟨_, rfl, ?_⟩) | (go_at_call 73; (with_reducible refine (spec_token.calls kj4 ((rd_T71 l0 x9_1).f1) true _ A12.out).mono ?_); rintro e w' ⟨rfl, ⟨nd, rfl⟩⟩))
                      go_ret2
                      exact ⟨by first | rfl | (simp [errW_none, errW_some] <;> rfl) | (simp [*, errW_none, errW_some] <;> rfl), by repeat (first | (with_reducible first | exact HB.out | apply below_alloc | apply pw_below_drewN | apply below_drew1 | refine below_set ?_ GE219.out) | exact HB.out)⟩
                    · rw [if_neg c14] at H
                      have c14b0 : ((rd_T71 l0 x9_1).f2) = false := by simpa using c14
                      clear c14
                      by_cases c16 : ((rd_T71 l0 x9_1).f0).size + 1 ≤ 9223372036854775807
                      · rw [if_pos c16] at H
                        have c16b0 := eq_true c16
                        have c16b1 : decide (((rd_T71 l0 x9_1).f0).size + 1 ≤ 9223372036854775807) = true := decide_eq_true c16
                        try have c16b2 : (9223372036854775807 < ((rd_T71 l0 x9_1).f0).size + 1) = False := eq_false (Nat.not_lt.2 c16)
                        by_cases c17 : ((rd_T71 l0 x9_1).f0).size + 1 + ((rd_T71 l0 x9_1).f1).size ≤ 9223372036854775807
                        · rw [if_pos c17] at H
                          have c17b0 := eq_true c17
                          have c17b1 : decide (((rd_T71 l0 x9_1).f0).size + 1 + ((rd_T71 l0 x9_1).f1).size ≤ 9223372036854775807) = true := decide_eq_true c17
                          try have c17b2 : (9223372036854775807 < ((rd_T71 l0 x9_1).f0).size + 1 + ((rd_T71 l0 x9_1).f1).size) = False := eq_false (Nat.not_lt.2 c17)
                          by_cases c18 : x4_4.size + (((rd_T71 l0 x9_1).f0).size + 1 + ((rd_T71 l0 x9_1).f1).size) ≤ 9223372036854775807
                          · rw [if_pos c18] at H
                            have c18b0 := eq_true c18
                            have c18b1 : decide (x4_4.size + (((rd_T71 l0 x9_1).f0).size + 1 + ((rd_T71 l0 x9_1).f1).size) ≤ 9223372036854775807) = true := decide_eq_true c18
                            try have c18b2 : (9223372036854775807 < x4_4.size + (((rd_T71 l0 x9_1).f0).size + 1 + ((rd_T71 l0 x9_1).f1).size)) = False := eq_false (Nat.not_lt.2 c18)
                            have H' := Aside0.mk H
                            clear H
                            have hcz19_0 : wc.cell? ⟨gb219, 0, none⟩ = some (.string ((rd_T71 l0 x9_1).f0)) := (blk_cell BK219.out 0).trans rfl
                            have hcz19_1 : wc.cell? ⟨gb219, 1, none⟩ = some (.string ((rd_T71 l0 x9_1).f1)) := (blk_cell BK219.out 1).trans rfl
                            have hcz19_2 : wc.cell? ⟨gb219, 2, none⟩ = some (.bool ((rd_T71 l0 x9_1).f2)) := (blk_cell BK219.out 2).trans rfl
                            have hfz19_0 := blk_frozen BK219.out 0
                            have hfz19_1 := blk_frozen BK219.out 1
                            have hfz19_2 := blk_frozen BK219.out 2
                            go_wp2_with (first | ((with_reducible refine gate_callee (f := 73) rfl ?_); refine goesL_ (some 20) rfl rfl Try.func73 (by kernel_rfl) rfl #[.string ((rd_T71 l0 x9_1).f0)] rfl (by (try simp only [List.map_toArray, List.map_cons, List.map_nil]); first | done | rfl | (simp only [List.length_drop, List.length_take]; rfl)) ?_; (with_reducible refine (spec_token.calls kj4 ((rd_T71 l0 x9_1).f0) true _ A10.out).mono ?_); rintro e w' ⟨rfl, ⟨nd, rfl⟩⟩; refine ⟨_, rfl, ?_⟩) | (go_at_call 73; (with_reducible refine (spec_token.calls kj4 ((rd_T71 l0 x9_1).f1) true _ A12.out).mono ?_); rintro e w' ⟨rfl, ⟨nd, rfl⟩⟩))
                            any_goals (try (exfalso; have zc2b0 := of_decide_eq_true c2b0; have zc3b0 := of_decide_eq_true c3b0; have zc4b0 := of_decide_eq_true c4b0; have zc16b1 := of_decide_eq_true c16b1; have zc17b1 := of_decide_eq_true c17b1; have zc18b1 := of_decide_eq_true c18b1; omega))
                            go_roundg kj4
                            case measure => have := HK1.out; have := HJ4.out; omega
                            case rel => exact ⟨(x4_4 ++ ((((rd_T71 l0 x9_1).f0) ++ (⟨#[61]⟩ : ByteArray)) ++ ((rd_T71 l0 x9_1).f1))), (wrap64 (x9_1 + 1)), (by first | rfl | (simp; done) | (simp [*]; done) | (simp [Go.Proofs.YtipmmjbjgbfgjaaX.isEmpty_ne]; done)), (by first | rfl | (simp; done) | (simp [*]; done) | (simp [Go.Proofs.YtipmmjbjgbfgjaaX.isEmpty_ne]; done)), H', ⟨by have := HK1.out; have := HJ4.out; omega⟩, ⟨by repeat (first | (with_reducible first | exact HB.out | apply below_alloc | apply pw_below_drewN | apply below_drew1 | refine below_set ?_ GE219.out) | exact HB.out)⟩⟩
                          · rw [if_neg c18] at H
                            exact absurd H (by simp)
                        · rw [if_neg c17] at H
                          exact absurd H (by simp)
                      · rw [if_neg c16] at H
                        exact absurd H (by simp)
                  · replace c13 := Bool.eq_false_iff.mpr c13
                    subst c13
                    have H1 : (some ((⟨#[]⟩ : ByteArray), 2)) = some (r1, r2) := by rw [if_neg (show ¬ (false = true) by decide)] at H; exact H
                    clear H
                    have H := H1
                    clear H1
                    simp only [Option.some.injEq, Prod.mk.injEq] at H
                    obtain ⟨rfl, rfl⟩ := H
                    have hcz20_0 : wc.cell? ⟨gb219, 0, none⟩ = some (.string ((rd_T71 l0 x9_1).f0)) := (blk_cell BK219.out 0).trans rfl
                    have hcz20_1 : wc.cell? ⟨gb219, 1, none⟩ = some (.string ((rd_T71 l0 x9_1).f1)) := (blk_cell BK219.out 1).trans rfl
                    have hcz20_2 : wc.cell? ⟨gb219, 2, none⟩ = some (.bool ((rd_T71 l0 x9_1).f2)) := (blk_cell BK219.out 2).trans rfl
                    have hfz20_0 := blk_frozen BK219.out 0
                    have hfz20_1 := blk_frozen BK219.out 1
                    have hfz20_2 := blk_frozen BK219.out 2
                    go_wp2_with (first | ((with_reducible refine gate_callee (f := 73) rfl ?_); refine goesL_ (some 20) rfl rfl Try.func73 (by kernel_rfl) rfl #[.string ((rd_T71 l0 x9_1).f0)] rfl (by (try simp only [List.map_toArray, List.map_cons, List.map_nil]); first | done | rfl | (simp only [List.length_drop, List.length_take]; rfl)) ?_; (with_reducible refine (spec_token.calls kj4 ((rd_T71 l0 x9_1).f0) true _ A10.out).mono ?_); rintro e w' ⟨rfl, ⟨nd, rfl⟩⟩; refine ⟨_, rfl, ?_⟩) | (go_at_call 73; (with_reducible refine (spec_token.calls kj4 ((rd_T71 l0 x9_1).f1) false _ A12.out).mono ?_); rintro e w' ⟨rfl, ⟨nd, rfl⟩⟩))
                    go_ret2
                    exact ⟨by first | rfl | (simp [errW_none, errW_some] <;> rfl) | (simp [*, errW_none, errW_some] <;> rfl), by repeat (first | (with_reducible first | exact HB.out | apply below_alloc | apply pw_below_drewN | apply below_drew1 | refine below_set ?_ GE219.out) | exact HB.out)⟩
                · replace c11 := Bool.eq_false_iff.mpr c11
                  subst c11
                  have H1 : (some ((⟨#[]⟩ : ByteArray), 2)) = some (r1, r2) := by rw [if_neg (show ¬ (false = true) by decide)] at H; exact H
                  clear H
                  have H := H1
                  clear H1
                  simp only [Option.some.injEq, Prod.mk.injEq] at H
                  obtain ⟨rfl, rfl⟩ := H
                  have hcz21_0 : wc.cell? ⟨gb219, 0, none⟩ = some (.string ((rd_T71 l0 x9_1).f0)) := (blk_cell BK219.out 0).trans rfl
                  have hcz21_1 : wc.cell? ⟨gb219, 1, none⟩ = some (.string ((rd_T71 l0 x9_1).f1)) := (blk_cell BK219.out 1).trans rfl
                  have hcz21_2 : wc.cell? ⟨gb219, 2, none⟩ = some (.bool ((rd_T71 l0 x9_1).f2)) := (blk_cell BK219.out 2).trans rfl
                  have hfz21_0 := blk_frozen BK219.out 0
                  have hfz21_1 := blk_frozen BK219.out 1
                  have hfz21_2 := blk_frozen BK219.out 2
                  go_wp2_with (first | ((with_reducible refine gate_callee (f := 73) rfl ?_); refine goesL_ (some 20) rfl rfl Try.func73 (by kernel_rfl) rfl #[.string ((rd_T71 l0 x9_1).f0)] rfl (by (try simp only [List.map_toArray, List.map_cons, List.map_nil]); first | done | rfl | (simp only [List.length_drop, List.length_take]; rfl)) ?_; (with_reducible refine (spec_token.calls kj4 ((rd_T71 l0 x9_1).f0) false _ A10.out).mono ?_); rintro e w' ⟨rfl, ⟨nd, rfl⟩⟩; refine ⟨_, rfl, ?_⟩))
                  go_ret2
                  exact ⟨by first | rfl | (simp [errW_none, errW_some] <;> rfl) | (simp [*, errW_none, errW_some] <;> rfl), by repeat (first | (with_reducible first | exact HB.out | apply below_alloc | apply pw_below_drewN | apply below_drew1 | refine below_set ?_ GE219.out) | exact HB.out)⟩
          · rw [if_neg c4] at H
            exact absurd H (by simp)
        · rw [if_neg c3] at H
          exact absurd H (by simp)
      · rw [if_neg c2] at H
        have c2b0 : decide (x9_1 < (l0.length : Int)) = false := decide_eq_false c2
        clear c2
        simp only [Option.some.injEq, Prod.mk.injEq] at H
        obtain ⟨rfl, rfl⟩ := H
        go_wp2
        go_ret2
        exact ⟨by first | rfl | (simp [errW_none, errW_some] <;> rfl) | (simp [*, errW_none, errW_some] <;> rfl), by repeat (first | (with_reducible first | exact HB.out | apply below_alloc | apply pw_below_drewN | apply below_drew1) | exact HB.out)⟩

end Go.Proofs.Ytipmmjbjgbfgjaa.Q

-- Written by a program of this session out of the translation, with the kit's printer. Not trusted: Lean checks it.
namespace Go.Proofs.Ytipmmjbjgbfgjaa.Q
open Go.RowKit Go.Proofs.YtipmmjbjgbfgjaaW.PrintWords Go.Proofs.YtipmmjbjgbfgjaaW.PrintLast Go.Proofs.YtipmmjbjgbfgjaaW.PrintMore
attribute [local go_sem] max2_int min2_int max_two min_two max_three min_three max_four min_four   -- for this text's walks alone
set_option linter.unusedVariables false
set_option linter.unusedSimpArgs false

/-! ### laws_argsOf: function 35 -/
def laws_argsOf.l0 : Nat → List (S71) → List (S40) → Int → Int → Option ((List (S71)))
  | 0, _, _, _, _ => none
  | k + 1, x3, x6, x7, x8 => if x8 < x7 then (if 0 ≤ x8 then (if x8 < (x6.length : Int) then (if x3.length < 3518437208883 then (laws_argsOf.l0 k (x3 ++ [(⟨(rd_T40 x6 x8).f0, (rd_T40 x6 x8).f1, (rd_T40 x6 x8).f2⟩ : S71)]) x6 x7 (wrap64 (x8 + 1))) else (none)) else (none)) else (none)) else (some x3)
def laws_argsOf.f (k : Nat) (l0 : List (S40)) : Option ((List (S71))) := laws_argsOf.l0 k ([] : List (S71)) l0 (l0.length : Int) 0
theorem laws_argsOf.mono_l : ∀ k, (∀ y0 y1 y2 y3, LeO (laws_argsOf.l0 k y0 y1 y2 y3) (laws_argsOf.l0 (k + 1) y0 y1 y2 y3))
  | 0 => fun _ _ _ _ r h => by simp [laws_argsOf.l0] at h
  | k + 1 => by
    have ih0 := laws_argsOf.mono_l k
    · intro y0 y1 y2 y3
      unfold laws_argsOf.l0
      repeat' first
      | (with_reducible exact ih0 _ _ _ _)
      | (with_reducible exact LeO.refl _)
      | (with_reducible exact LeO.none _)
      | (with_reducible refine LeO.ite ?_ ?_)
      | (with_reducible refine LeO.bind ?_ (fun _ => ?_))
      | exact ih0 _ _ _ _
      | exact LeO.none _
      | refine LeO.ite ?_ ?_
      | refine LeO.bind ?_ (fun _ => ?_)
theorem laws_argsOf.mono : ∀ a0 k, LeO (laws_argsOf.f k a0) (laws_argsOf.f (k + 1) a0) := by
  intro a0 k
  have ih0 := laws_argsOf.mono_l k
  unfold laws_argsOf.f
  repeat' first
      | (with_reducible exact ih0 _ _ _ _)
      | (with_reducible exact LeO.refl _)
      | (with_reducible exact LeO.none _)
      | (with_reducible refine LeO.ite ?_ ?_)
      | (with_reducible refine LeO.bind ?_ (fun _ => ?_))
      | exact ih0 _ _ _ _
      | exact LeO.none _
      | refine LeO.ite ?_ ?_
      | refine LeO.bind ?_ (fun _ => ?_)
set_option maxHeartbeats 8000000 in
set_option maxRecDepth 100000 in
theorem laws_argsOf.calls (k : Nat) (A0 : Option Addr) (c0 : Nat) (l0 : List (S40)) (r : List (S71)) (w : World) (hr0 : Kd.C k40 w A0 l0.length l0) (hc0 : l0.length ≤ c0) (h : laws_argsOf.f k l0 = some r) :
    Calls Try.prog 35 #[.slice A0 l0.length c0] w fun e w' => ∃ v0_ : Value, e = .returned (v0_) ∧ Kd.R k71 71 w' w.heap.size (fun _ => True) v0_ r ∧ Below w.heap.size w w' := by
  have hu40 := Try.underlying40
  have HR0 := Aside0.mk hr0
  have HC0 := Aside0.mk hc0
  clear hr0 hc0
  have HB := Aside0.mk (Below.refl w.heap.size w)
  have H : (laws_argsOf.l0 k ([] : List (S71)) l0 (l0.length : Int) 0) = some r := h
  clear h
  have H' := Aside0.mk H
  clear H
  go_enter Try.func35, Try.ntmps35
  go_wp2
  go_loopg [3, 8] k (fun kq v3 v8 w' => ∃ (x3_1 : List (S71)) (x8_1 : Int), v8 = .int .i64 x8_1 ∧ Aside0 (laws_argsOf.l0 kq x3_1 l0 (l0.length : Int) x8_1 = some r) ∧ Aside0 (kq ≤ k) ∧ Aside0 (Kd.R k71 71 w' w.heap.size (fun _ => True) v3 x3_1) ∧ Aside0 (Below w.heap.size w w'))
  case atStart => exact ⟨(([] : List (S71))), (0), (by first | rfl | (simp; done) | (simp [*]; done) | (simp [Go.Proofs.YtipmmjbjgbfgjaaX.isEmpty_ne]; done)), H', ⟨Nat.le_refl _⟩, ⟨by first | exact Kd.R_nil _ _ _ _ _ | exact Kd.N_nil _ _ _ _ _ | exact Kd.V_nil _ _ _ _ _ | exact Kd.Q_nil _ _ _ _ _ | exact Kd.S_nil _ _ _ _ _⟩, ⟨by repeat (first | (with_reducible first | exact HB.out | apply below_alloc | apply pw_below_drewN | apply below_drew1) | exact HB.out)⟩⟩
  case round =>
    clear H'
    obtain ⟨x3_1, x8_1, rfl, HA, HK1, HO_3, HB⟩ := hrel
    cases gk with
    | zero => exact absurd HA.out (by simp [laws_argsOf.l0])
    | succ k1 =>
      have H := HA.out
      clear HA
      simp only [laws_argsOf.l0] at H
      by_cases c2 : x8_1 < (l0.length : Int)
      · rw [if_pos c2] at H
        have c2b0 : decide (x8_1 < (l0.length : Int)) = true := decide_eq_true c2
        clear c2
        by_cases c3 : 0 ≤ x8_1
        · rw [if_pos c3] at H
          have c3b0 : decide (0 ≤ x8_1) = true := decide_eq_true c3
          clear c3
          by_cases c4 : x8_1 < (l0.length : Int)
          · rw [if_pos c4] at H
            have c4b0 : decide (x8_1 < (l0.length : Int)) = true := decide_eq_true c4
            clear c4
            by_cases c5 : x3_1.length < 3518437208883
            · rw [if_pos c5] at H
              have LMc5 := Aside0.mk c5
              clear c5
              obtain ⟨y224, hy224⟩ : ∃ y_ : List (S71), y_ = (x3_1 ++ [(⟨(rd_T40 l0 x8_1).f0, (rd_T40 l0 x8_1).f1, (rd_T40 l0 x8_1).f2⟩ : S71)]) := ⟨_, rfl⟩
              replace H : (laws_argsOf.l0 k1 y224 l0 (l0.length : Int) (wrap64 (x8_1 + 1))) = some r := by first | (rw [hy224]; with_reducible exact H) | (have H2_ := (Option.bind_some _ _).symm.trans H; rw [hy224]; with_reducible exact H2_) | (have H2_ := (Option.bind_some _ _).symm.trans H; with_reducible exact H2_) | with_reducible exact H | (rw [hy224]; exact H) | exact H
              have Ny224 := Aside0.mk hy224
              clear hy224
              have H' := Aside0.mk H
              clear H
              have p222 : 0 ≤ (x8_1 : Int) := of_decide_eq_true (by first | (with_reducible assumption) | assumption)
              have q222 : x8_1 < (l0.length : Int) := of_decide_eq_true (by first | (with_reducible assumption) | assumption)
              obtain ⟨ad222, e222, hx222_0, hx222_1, hx222_2⟩ := at_T40 HR0.out x8_1 p222 q222
              cases e222
              replace hx222_0 := (HB.out.cell (World.block_lt_of_cell? w _ hx222_0)).trans hx222_0
              replace hx222_1 := (HB.out.cell (World.block_lt_of_cell? w _ hx222_1)).trans hx222_1
              replace hx222_2 := (HB.out.cell (World.block_lt_of_cell? w _ hx222_2)).trans hx222_2
              replace p222 := eq_true p222
              replace q222 := eq_true q222
              go_wp2_with (first | ((with_reducible refine gate_dst (N := 5) rfl ?_); refine box_event ?hg (N := 5) ?hd (cs := #[.string (⟨#[]⟩ : ByteArray), .string (⟨#[]⟩ : ByteArray), .bool false]) (t := 40) ?hr ?_; (case hd => rfl); (case hg => rfl); (case hr => first | (go_simp; done) | (go_simp; rfl)); intro gb223 hg w6 hbox hb; have n0_ := Aside0.mk (Kd.R_below (by (with_reducible repeat (first | apply Kd.R_alloc | apply Kd.R_drewN | apply Kd.R_drew)); exact HO_3.out) hb); have n1_ := Aside0.mk (below_step (by repeat (first | (with_reducible first | exact HB.out | apply below_alloc | apply pw_below_drewN | apply below_drew1) | exact HB.out)) hb); have n2_ := Aside0.mk (hbox); have n3_ := Aside0.mk ((by rw [hg]; exact (below_size (by repeat (first | (with_reducible first | exact HB.out | apply below_alloc | apply pw_below_drewN | apply below_drew1) | exact HB.out))) : w.heap.size ≤ gb223)); have n4_ := Aside0.mk ((by rw [hg]; exact (below_size (by repeat (first | (with_reducible first | exact HB.out | apply below_alloc | apply pw_below_drewN | apply below_drew1) | exact HB.out))) : w.heap.size ≤ gb223)); clear HO_3; clear HB; have HO_3 := n0_; have HB := n1_; have BK223 := n2_; have GW223 := n3_; have GE223 := n4_; clear n0_ n1_ n2_ n3_ n4_; clear hb hbox hg; have hcz7_0 : w6.cell? ⟨gb223, 0, none⟩ = some (.string (⟨#[]⟩ : ByteArray)) := (blk_cell BK223.out 0).trans rfl; have hcz7_1 : w6.cell? ⟨gb223, 1, none⟩ = some (.string (⟨#[]⟩ : ByteArray)) := (blk_cell BK223.out 1).trans rfl; have hcz7_2 : w6.cell? ⟨gb223, 2, none⟩ = some (.bool false) := (blk_cell BK223.out 2).trans rfl; have hfz7_0 := blk_frozen BK223.out 0; have hfz7_1 := blk_frozen BK223.out 1; have hfz7_2 := blk_frozen BK223.out 2) | ((with_reducible refine gate_builtin (b := .append) (xs := #[.tmp 12, .tmp 14]) rfl ?_); at_builtin; refine Kd.R_append k71 (w0 := w) w.heap.size rfl (.tmp 12) (.tmp 14) 43 71 (.agg #[(.string ⟨#[]⟩), (.string ⟨#[]⟩), (.bool false)]) 40 rfl Try.underlying43 info71 rfl (by decide) (by omega) u3 x3_1 (⟨(rd_T40 l0 x8_1).f0, (rd_T40 l0 x8_1).f1, (rd_T40 l0 x8_1).f2⟩ : S71) [.string ((rd_T40 l0 x8_1).f0), .string ((rd_T40 l0 x8_1).f1), .bool ((rd_T40 l0 x8_1).f2)] (fun _ => True) (fun _ => False) rfl (by first | (go_simp; done) | (go_simp; rfl)) ?aP (fun _ hk => hk.elim) ?aF ?aO ?aB ?aS ?aL ?_; (case aP => exact k71_mkM _ _ _ (⟨(rd_T40 l0 x8_1).f0, (rd_T40 l0 x8_1).f1, (rd_T40 l0 x8_1).f2⟩ : S71)); (case aB => exact (by repeat (first | (with_reducible first | exact HB.out | apply below_alloc | apply pw_below_drewN | apply below_drew1 | refine below_set ?_ GE223.out) | exact HB.out))); (case aF => exact (fun _ _ => trivial)); (case aO => exact (by (with_reducible repeat (first | apply Kd.R_alloc | apply Kd.R_drewN | apply Kd.R_drew)); exact Kd.R_mono (Kd.R_far (p := ⟨gb223, 2, none⟩) (Kd.R_far (p := ⟨gb223, 1, none⟩) (Kd.R_far (p := ⟨gb223, 0, none⟩) (Kd.R_types HO_3.out BK223.out (by decide)) (fun _ hk => hk.2) (.string ((rd_T40 l0 x8_1).f0))) (fun _ hk => hk.2) (.string ((rd_T40 l0 x8_1).f1))) (fun _ hk => hk.2) (.bool ((rd_T40 l0 x8_1).f2))) (fun _ hk => trivial))); (case aS => exact (below_size (by repeat (first | (with_reducible first | exact HB.out | apply below_alloc | apply pw_below_drewN | apply below_drew1 | refine below_set ?_ GE223.out) | exact HB.out)))); (case aL => have := LMc5.out; omega); intro v225 w8 ho hb hg hat; rw [← Ny224.out] at ho; have n0_ := Aside0.mk (blk_grown (g := gb223) (o := .cells #[.string ((rd_T40 l0 x8_1).f0), .string ((rd_T40 l0 x8_1).f1), .bool ((rd_T40 l0 x8_1).f2)] 40 (0, 0)) (by (with_reducible repeat (first | refine blk_drewN ?_ _ | refine blk_drew ?_ | refine blk_alloc ?_ _)); refine blk_put (cs := #[.string ((rd_T40 l0 x8_1).f0), .string ((rd_T40 l0 x8_1).f1), .bool false]) ?_ 2 _ rfl; (with_reducible repeat (first | refine blk_drewN ?_ _ | refine blk_drew ?_ | refine blk_alloc ?_ _)); refine blk_put (cs := #[.string ((rd_T40 l0 x8_1).f0), .string (⟨#[]⟩ : ByteArray), .bool false]) ?_ 1 _ rfl; (with_reducible repeat (first | refine blk_drewN ?_ _ | refine blk_drew ?_ | refine blk_alloc ?_ _)); refine blk_put (cs := #[.string (⟨#[]⟩ : ByteArray), .string (⟨#[]⟩ : ByteArray), .bool false]) ?_ 0 _ rfl; (with_reducible repeat (first | refine blk_drewN ?_ _ | refine blk_drew ?_ | refine blk_alloc ?_ _)); exact BK223.out) hg (Kd.R_ne HO_3.out BK223.out (by decide))); have n1_ := Aside0.mk (hb); have n2_ := Aside0.mk (ho); clear BK223; clear HB; clear HO_3; have BK223 := n0_; have HB := n1_; have HO226 := n2_; clear n0_ n1_ n2_; clear ho hb hg hat))
              go_roundg k1
              case measure => have := HK1.out; omega
              case rel => exact ⟨(y224), (wrap64 (x8_1 + 1)), (by first | rfl | (simp; done) | (simp [*]; done) | (simp [Go.Proofs.YtipmmjbjgbfgjaaX.isEmpty_ne]; done)), H', ⟨by have := HK1.out; omega⟩, ⟨by (with_reducible repeat (first | apply Kd.R_alloc | apply Kd.R_drewN | apply Kd.R_drew)); exact HO226.out⟩, ⟨by repeat (first | (with_reducible first | exact HB.out | apply below_alloc | apply pw_below_drewN | apply below_drew1 | refine below_set ?_ GE223.out) | exact HB.out)⟩⟩
            · rw [if_neg c5] at H
              exact absurd H (by simp)
          · rw [if_neg c4] at H
            exact absurd H (by simp)
        · rw [if_neg c3] at H
          exact absurd H (by simp)
      · rw [if_neg c2] at H
        have c2b0 : decide (x8_1 < (l0.length : Int)) = false := decide_eq_false c2
        clear c2
        obtain rfl := Option.some.inj H
        go_wp2
        go_ret
        exact ⟨_, by first | rfl | (simp [errW_none, errW_some] <;> rfl) | (simp [*, errW_none, errW_some] <;> rfl), by (with_reducible repeat (first | apply Kd.R_alloc | apply Kd.R_drewN | apply Kd.R_drew)); exact HO_3.out, by repeat (first | (with_reducible first | exact HB.out | apply below_alloc | apply pw_below_drewN | apply below_drew1) | exact HB.out)⟩

end Go.Proofs.Ytipmmjbjgbfgjaa.Q
