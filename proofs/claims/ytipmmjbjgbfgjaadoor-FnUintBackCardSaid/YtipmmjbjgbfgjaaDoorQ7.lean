-- Written by a program of this session out of the translation, with the kit's printer. Not trusted: Lean checks it.
import Derived.Test.YtipmmjbjgbfgjaaDoorQ0
import Derived.Test.YtipmmjbjgbfgjaaDoorQ2
import Derived.Test.YtipmmjbjgbfgjaaDoorQ4
import Derived.Test.YtipmmjbjgbfgjaaDoorQ5
import Derived.Test.YtipmmjbjgbfgjaaDoorQ6
namespace Go.Proofs.YtipmmjbjgbfgjaaDoor.Q
open Go.RowKit Go.Proofs.YtipmmjbjgbfgjaaDoorW.PrintWords Go.Proofs.YtipmmjbjgbfgjaaDoorW.PrintLast Go.Proofs.YtipmmjbjgbfgjaaDoorW.PrintMore
attribute [local go_sem] max2_int min2_int max_two min_two max_three min_three max_four min_four   -- for this text's walks alone
set_option linter.unusedVariables false
set_option linter.unusedSimpArgs false

/-! ### laws_FnUintBack: function 3 -/
mutual
def laws_FnUintBack.j0 : Nat → Int → ByteArray → Bool → Option (Bool)
  | 0, _, _, _ => none
  | k + 1, x0, x1, x26 => if x26 = true then (some false) else ((impl_UintText.f x0).bind fun bt104 => (if x0 < 0 then (if bt104.2 = true then (some false) else (some (bt104.1.toList == ([] : List UInt8)))) else (if x0 > 1125899906842624 then (laws_FnUintBack.j1 k x0 x1 bt104.1 bt104.2 true) else ((laws_short.f k (([x1] : List ByteArray))).bind fun t109 => (if t109 = true then (if x1.toList = ([] : List UInt8) then (laws_FnUintBack.j1 k x0 x1 bt104.1 bt104.2 false) else (if 0 < (x1.size : Int) then (if (bt x1 0) ≥ 48 then (laws_FnUintBack.j1 k x0 x1 bt104.1 bt104.2 (decide ((bt x1 0) ≤ 57))) else (laws_FnUintBack.j1 k x0 x1 bt104.1 bt104.2 false)) else (none))) else (laws_FnUintBack.j1 k x0 x1 bt104.1 bt104.2 true))))))
def laws_FnUintBack.j1 : Nat → Int → ByteArray → ByteArray → Bool → Bool → Option (Bool)
  | 0, _, _, _, _, _ => none
  | k + 1, x0, x1, x7, x8, x61 => if x61 = true then (some true) else ((impl_UintOf.f x7).bind fun bt110 => (if x7.size + x1.size ≤ 9223372036854775807 then ((impl_UintAhead.f (x7 ++ x1)).bind fun bt112 => (if x8 = true then (if bt110.2 = true then (if bt112.2.2 = true then (if bt110.1 = x0 then (if bt112.1 = x0 then (some (bt112.2.1 == (x7.size : Int))) else (some false)) else (some false)) else (some false)) else (some false)) else (some false))) else (none)))
end
def laws_FnUintBack.f (k : Nat) (a0 : Int) (a1 : ByteArray) : Option (Bool) := if (a1.size : Int) > 2147483647 then (some true) else ((impl_UintOf.f (⟨#[49, 50]⟩ : ByteArray)).bind fun bt102 => (if bt102.2 = true then (laws_FnUintBack.j0 k a0 a1 (bt102.1 != 12)) else (laws_FnUintBack.j0 k a0 a1 true)))
theorem laws_FnUintBack.mono_l : ∀ k, (∀ y0 y1 y2, LeO (laws_FnUintBack.j0 k y0 y1 y2) (laws_FnUintBack.j0 (k + 1) y0 y1 y2)) ∧ (∀ y0 y1 y2 y3 y4, LeO (laws_FnUintBack.j1 k y0 y1 y2 y3 y4) (laws_FnUintBack.j1 (k + 1) y0 y1 y2 y3 y4))
  | 0 => ⟨fun _ _ _ r h => by simp [laws_FnUintBack.j0] at h, fun _ _ _ _ _ r h => by simp [laws_FnUintBack.j1] at h⟩
  | k + 1 => by
    obtain ⟨ih0, ih1⟩ := laws_FnUintBack.mono_l k
    refine ⟨?_, ?_⟩
    · intro y0 y1 y2
      unfold laws_FnUintBack.j0
      repeat' first
      | (with_reducible exact ih0 _ _ _)
      | (with_reducible exact ih1 _ _ _ _ _)
      | (with_reducible exact laws_short.mono _ _)
      | (with_reducible exact LeO.refl _)
      | (with_reducible exact LeO.none _)
      | (with_reducible refine LeO.ite ?_ ?_)
      | (with_reducible refine LeO.bind ?_ (fun _ => ?_))
      | exact ih0 _ _ _
      | exact ih1 _ _ _ _ _
      | exact laws_short.mono _ _
      | exact LeO.none _
      | refine LeO.ite ?_ ?_
      | refine LeO.bind ?_ (fun _ => ?_)
    · intro y0 y1 y2 y3 y4
      unfold laws_FnUintBack.j1
      repeat' first
      | (with_reducible exact ih0 _ _ _)
      | (with_reducible exact ih1 _ _ _ _ _)
      | (with_reducible exact laws_short.mono _ _)
      | (with_reducible exact LeO.refl _)
      | (with_reducible exact LeO.none _)
      | (with_reducible refine LeO.ite ?_ ?_)
      | (with_reducible refine LeO.bind ?_ (fun _ => ?_))
      | exact ih0 _ _ _
      | exact ih1 _ _ _ _ _
      | exact laws_short.mono _ _
      | exact LeO.none _
      | refine LeO.ite ?_ ?_
      | refine LeO.bind ?_ (fun _ => ?_)
theorem laws_FnUintBack.mono : ∀ a0 a1 k, LeO (laws_FnUintBack.f k a0 a1) (laws_FnUintBack.f (k + 1) a0 a1) := by
  intro a0 a1 k
  obtain ⟨ih0, ih1⟩ := laws_FnUintBack.mono_l k
  unfold laws_FnUintBack.f
  repeat' first
      | (with_reducible exact ih0 _ _ _)
      | (with_reducible exact ih1 _ _ _ _ _)
      | (with_reducible exact laws_short.mono _ _)
      | (with_reducible exact LeO.refl _)
      | (with_reducible exact LeO.none _)
      | (with_reducible refine LeO.ite ?_ ?_)
      | (with_reducible refine LeO.bind ?_ (fun _ => ?_))
      | exact ih0 _ _ _
      | exact ih1 _ _ _ _ _
      | exact laws_short.mono _ _
      | exact LeO.none _
      | refine LeO.ite ?_ ?_
      | refine LeO.bind ?_ (fun _ => ?_)
set_option maxHeartbeats 8000000 in
set_option maxRecDepth 100000 in
theorem laws_FnUintBack.calls (k : Nat) (a0 : Int) (a1 : ByteArray) (r : Bool) (w : World) (hL_ : LaidD w) (h : laws_FnUintBack.f k a0 a1 = some r) :
    Calls Tryd.prog 3 #[.int .i64 a0, .string a1] w fun e w' => e = .returned (.bool r) ∧ Below w.heap.size w w' := by
  have HB := Aside0.mk (Below.refl w.heap.size w)
  have HLD_ := Aside0.mk hL_
  clear hL_
  have H : (if (a1.size : Int) > 2147483647 then (some true) else ((impl_UintOf.f (⟨#[49, 50]⟩ : ByteArray)).bind fun bt102 => (if bt102.2 = true then (laws_FnUintBack.j0 k a0 a1 (bt102.1 != 12)) else (laws_FnUintBack.j0 k a0 a1 true)))) = some r := h
  clear h
  by_cases c3 : (a1.size : Int) > 2147483647
  · rw [if_pos c3] at H
    have c3b0 : decide (2147483647 < (a1.size : Int)) = true := decide_eq_true c3
    have c3b1 : decide (2147483647 < a1.size) = true := decide_eq_true (by omega)
    clear c3
    obtain rfl := Option.some.inj H
    go_enter Tryd.func3, Tryd.ntmps3
    go_wp2
    go_ret
    exact ⟨by first | rfl | (simp [errW_none, errW_some] <;> rfl) | (simp [*, errW_none, errW_some] <;> rfl), by repeat (first | (with_reducible first | exact HB.out | apply below_alloc | apply pw_below_drewN | apply below_drew1) | exact HB.out)⟩
  · rw [if_neg c3] at H
    have c3b0 : decide (2147483647 < (a1.size : Int)) = false := decide_eq_false c3
    have c3b1 : decide (2147483647 < a1.size) = false := decide_eq_false (by omega)
    clear c3
    replace H := Option.bind_eq_some_iff.mp H
    obtain ⟨⟨t102, t103⟩, A40, H⟩ := H
    replace H : (if t103 = true then (laws_FnUintBack.j0 k a0 a1 (t102 != 12)) else (laws_FnUintBack.j0 k a0 a1 true)) = some r := H
    have A4 := Aside0.mk A40
    clear A40
    have HC5 := Aside0.mk H
    clear H
    go_enter Tryd.func3, Tryd.ntmps3
    go_upto_region 4 with (first | ((with_reducible refine gate_callee (f := 5) rfl ?_); refine goesL_ (some 18) rfl rfl Tryd.func5 (by kernel_rfl) rfl #[.string (⟨#[49, 50]⟩ : ByteArray)] rfl (by (try simp only [List.map_toArray, List.map_cons, List.map_nil]); first | done | rfl | (simp only [List.length_drop, List.length_take]; rfl)) ?_; (with_reducible refine (impl_UintOf.calls (⟨#[49, 50]⟩ : ByteArray) t102 t103 _ A4.out (HLD_.out.below (by repeat (first | (with_reducible first | exact HB.out | apply below_alloc | apply pw_below_drewN | apply below_drew1) | exact HB.out)) (Nat.le_refl _))).mono ?_); rintro e w6 ⟨rfl, hb⟩; refine ⟨_, rfl, ?_⟩; have n0_ := Aside0.mk (below_step (by repeat (first | (with_reducible first | exact HB.out | apply below_alloc | apply pw_below_drewN | apply below_drew1) | exact HB.out)) hb); clear HB; have HB := n0_; clear n0_; (try clear hb); (try clear hb2); (try clear hk); (try clear hi)))
    (try simp only [Act.put, List.setIfInBounds_toArray, List.set_cons_zero, List.set_cons_succ])
    go_cut [26] (fun v26 wc => ∃ (kq : Nat) (x26_4 : Bool), v26 = .bool x26_4 ∧ Aside0 (laws_FnUintBack.j0 kq a0 a1 x26_4 = some r) ∧ Aside0 (kq ≤ k) ∧ Aside0 (Below w.heap.size w wc))
    case first =>
      have H := HC5.out
      clear HC5
      by_cases c7 : t103 = true
      · subst c7
        have H1 : (laws_FnUintBack.j0 k a0 a1 (t102 != 12)) = some r := by rw [if_pos rfl] at H; exact H
        clear H
        have H := H1
        clear H1
        have H' := Aside0.mk H
        clear H
        go_wp2
        go_meet
        case rel => exact ⟨_, ((t102 != 12)), (by first | rfl | (simp; done) | (simp [*]; done) | (simp [Go.Proofs.YtipmmjbjgbfgjaaDoorX.isEmpty_ne]; done)), H', ⟨by first | omega | exact Nat.le_refl _⟩, ⟨by repeat (first | (with_reducible first | exact HB.out | apply below_alloc | apply pw_below_drewN | apply below_drew1) | exact HB.out)⟩⟩
      · replace c7 := Bool.eq_false_iff.mpr c7
        subst c7
        have H1 : (laws_FnUintBack.j0 k a0 a1 true) = some r := by rw [if_neg (show ¬ (false = true) by decide)] at H; exact H
        clear H
        have H := H1
        clear H1
        have H' := Aside0.mk H
        clear H
        go_wp2
        go_meet
        case rel => exact ⟨_, (true), (by first | rfl | (simp; done) | (simp [*]; done) | (simp [Go.Proofs.YtipmmjbjgbfgjaaDoorX.isEmpty_ne]; done)), H', ⟨by first | omega | exact Nat.le_refl _⟩, ⟨by repeat (first | (with_reducible first | exact HB.out | apply below_alloc | apply pw_below_drewN | apply below_drew1) | exact HB.out)⟩⟩
    case rest =>
      clear HC5
      try clear p2
      try clear c3
      try clear c3b0
      try clear c3b1
      try clear c5
      try clear c7
      obtain ⟨kq, x26_4, rfl, HA, HJ4, HB⟩ := hcut
      cases kq with
      | zero => exact absurd HA.out (by simp [laws_FnUintBack.j0])
      | succ kj4 =>
        have H := HA.out
        clear HA
        simp only [laws_FnUintBack.j0] at H
        by_cases c8 : x26_4 = true
        · subst c8
          have H1 : (some false) = some r := by rw [if_pos rfl] at H; exact H
          clear H
          have H := H1
          clear H1
          obtain rfl := Option.some.inj H
          go_wp2
          go_ret
          exact ⟨by first | rfl | (simp [errW_none, errW_some] <;> rfl) | (simp [*, errW_none, errW_some] <;> rfl), by repeat (first | (with_reducible first | exact HB.out | apply below_alloc | apply pw_below_drewN | apply below_drew1) | exact HB.out)⟩
        · replace c8 := Bool.eq_false_iff.mpr c8
          subst c8
          have H1 : ((impl_UintText.f a0).bind fun bt104 => (if a0 < 0 then (if bt104.2 = true then (some false) else (some (bt104.1.toList == ([] : List UInt8)))) else (if a0 > 1125899906842624 then (laws_FnUintBack.j1 kj4 a0 a1 bt104.1 bt104.2 true) else ((laws_short.f kj4 (([a1] : List ByteArray))).bind fun t109 => (if t109 = true then (if a1.toList = ([] : List UInt8) then (laws_FnUintBack.j1 kj4 a0 a1 bt104.1 bt104.2 false) else (if 0 < (a1.size : Int) then (if (bt a1 0) ≥ 48 then (laws_FnUintBack.j1 kj4 a0 a1 bt104.1 bt104.2 (decide ((bt a1 0) ≤ 57))) else (laws_FnUintBack.j1 kj4 a0 a1 bt104.1 bt104.2 false)) else (none))) else (laws_FnUintBack.j1 kj4 a0 a1 bt104.1 bt104.2 true)))))) = some r := by rw [if_neg (show ¬ (false = true) by decide)] at H; exact H
          clear H
          have H := H1
          clear H1
          replace H := Option.bind_eq_some_iff.mp H
          obtain ⟨⟨t104, t105⟩, A90, H⟩ := H
          replace H : (if a0 < 0 then (if t105 = true then (some false) else (some (t104.toList == ([] : List UInt8)))) else (if a0 > 1125899906842624 then (laws_FnUintBack.j1 kj4 a0 a1 t104 t105 true) else ((laws_short.f kj4 (([a1] : List ByteArray))).bind fun t109 => (if t109 = true then (if a1.toList = ([] : List UInt8) then (laws_FnUintBack.j1 kj4 a0 a1 t104 t105 false) else (if 0 < (a1.size : Int) then (if (bt a1 0) ≥ 48 then (laws_FnUintBack.j1 kj4 a0 a1 t104 t105 (decide ((bt a1 0) ≤ 57))) else (laws_FnUintBack.j1 kj4 a0 a1 t104 t105 false)) else (none))) else (laws_FnUintBack.j1 kj4 a0 a1 t104 t105 true))))) = some r := H
          have A9 := Aside0.mk A90
          clear A90
          by_cases c10 : a0 < 0
          · rw [if_pos c10] at H
            have c10b0 : decide (a0 < 0) = true := decide_eq_true c10
            clear c10
            by_cases c11 : t105 = true
            · subst c11
              have H1 : (some false) = some r := by rw [if_pos rfl] at H; exact H
              clear H
              have H := H1
              clear H1
              obtain rfl := Option.some.inj H
              go_wp2_with (first | ((with_reducible refine gate_callee (f := 6) rfl ?_); refine goesL_ (some 29) rfl rfl Tryd.func6 (by kernel_rfl) rfl #[.int .i64 a0] rfl (by (try simp only [List.map_toArray, List.map_cons, List.map_nil]); first | done | rfl | (simp only [List.length_drop, List.length_take]; rfl)) ?_; (with_reducible refine (impl_UintText.calls a0 t104 true _ A9.out).mono ?_); rintro e w12 ⟨rfl, hb⟩; refine ⟨_, rfl, ?_⟩; have n0_ := Aside0.mk (below_step (by repeat (first | (with_reducible first | exact HB.out | apply below_alloc | apply pw_below_drewN | apply below_drew1) | exact HB.out)) hb); clear HB; have HB := n0_; clear n0_; (try clear hb); (try clear hb2); (try clear hk); (try clear hi)))
              go_ret
              exact ⟨by first | rfl | (simp [errW_none, errW_some] <;> rfl) | (simp [*, errW_none, errW_some] <;> rfl), by repeat (first | (with_reducible first | exact HB.out | apply below_alloc | apply pw_below_drewN | apply below_drew1) | exact HB.out)⟩
            · replace c11 := Bool.eq_false_iff.mpr c11
              subst c11
              have H1 : (some (t104.toList == ([] : List UInt8))) = some r := by rw [if_neg (show ¬ (false = true) by decide)] at H; exact H
              clear H
              have H := H1
              clear H1
              obtain rfl := Option.some.inj H
              go_wp2_with (first | ((with_reducible refine gate_callee (f := 6) rfl ?_); refine goesL_ (some 29) rfl rfl Tryd.func6 (by kernel_rfl) rfl #[.int .i64 a0] rfl (by (try simp only [List.map_toArray, List.map_cons, List.map_nil]); first | done | rfl | (simp only [List.length_drop, List.length_take]; rfl)) ?_; (with_reducible refine (impl_UintText.calls a0 t104 false _ A9.out).mono ?_); rintro e w13 ⟨rfl, hb⟩; refine ⟨_, rfl, ?_⟩; have n0_ := Aside0.mk (below_step (by repeat (first | (with_reducible first | exact HB.out | apply below_alloc | apply pw_below_drewN | apply below_drew1) | exact HB.out)) hb); clear HB; have HB := n0_; clear n0_; (try clear hb); (try clear hb2); (try clear hk); (try clear hi)))
              go_ret
              exact ⟨by first | rfl | (simp [errW_none, errW_some] <;> rfl) | (simp [*, errW_none, errW_some] <;> rfl), by repeat (first | (with_reducible first | exact HB.out | apply below_alloc | apply pw_below_drewN | apply below_drew1) | exact HB.out)⟩
          · rw [if_neg c10] at H
            have c10b0 : decide (a0 < 0) = false := decide_eq_false c10
            clear c10
            have HC14 := Aside0.mk H
            clear H
            go_upto_region 9 with (first | ((with_reducible refine gate_callee (f := 6) rfl ?_); refine goesL_ (some 29) rfl rfl Tryd.func6 (by kernel_rfl) rfl #[.int .i64 a0] rfl (by (try simp only [List.map_toArray, List.map_cons, List.map_nil]); first | done | rfl | (simp only [List.length_drop, List.length_take]; rfl)) ?_; (with_reducible refine (impl_UintText.calls a0 t104 t105 _ A9.out).mono ?_); rintro e w15 ⟨rfl, hb⟩; refine ⟨_, rfl, ?_⟩; have n0_ := Aside0.mk (below_step (by repeat (first | (with_reducible first | exact HB.out | apply below_alloc | apply pw_below_drewN | apply below_drew1) | exact HB.out)) hb); clear HB; have HB := n0_; clear n0_; (try clear hb); (try clear hb2); (try clear hk); (try clear hi)))
            (try simp only [Act.put, List.setIfInBounds_toArray, List.set_cons_zero, List.set_cons_succ])
            go_cut [61] (fun v61 wc => ∃ (kq : Nat) (x61_13 : Bool), v61 = .bool x61_13 ∧ Aside0 (laws_FnUintBack.j1 kq a0 a1 t104 t105 x61_13 = some r) ∧ Aside0 (kq ≤ kj4) ∧ Aside0 (Below w.heap.size w wc))
            case first =>
              have H := HC14.out
              clear HC14
              by_cases c16 : a0 > 1125899906842624
              · rw [if_pos c16] at H
                have c16b0 : decide (1125899906842624 < a0) = true := decide_eq_true c16
                clear c16
                (first | rw [c16b0] | (simp only [i64_w, i32_w]; rw [c16b0]) | (rw [Go.Proofs.YtipmmjbjgbfgjaaDoorX.isEmpty_eq]; rw [c16b0]) | skip)
                have H' := Aside0.mk H
                clear H
                go_wp2
                go_meet
                case rel => exact ⟨_, (true), (by first | rfl | (simp; done) | (simp [*]; done) | (simp [Go.Proofs.YtipmmjbjgbfgjaaDoorX.isEmpty_ne]; done)), H', ⟨by have := HJ4.out; first | omega | exact Nat.le_refl _⟩, ⟨by repeat (first | (with_reducible first | exact HB.out | apply below_alloc | apply pw_below_drewN | apply below_drew1) | exact HB.out)⟩⟩
              · rw [if_neg c16] at H
                have c16b0 : decide (1125899906842624 < a0) = false := decide_eq_false c16
                clear c16
                (first | rw [c16b0] | (simp only [i64_w, i32_w]; rw [c16b0]) | (rw [Go.Proofs.YtipmmjbjgbfgjaaDoorX.isEmpty_eq]; rw [c16b0]) | skip)
                obtain ⟨y106, hy106⟩ : ∃ y_ : List ByteArray, y_ = (([a1] : List ByteArray)) := ⟨_, rfl⟩
                replace H : ((laws_short.f kj4 y106).bind fun t109 => (if t109 = true then (if a1.toList = ([] : List UInt8) then (laws_FnUintBack.j1 kj4 a0 a1 t104 t105 false) else (if 0 < (a1.size : Int) then (if (bt a1 0) ≥ 48 then (laws_FnUintBack.j1 kj4 a0 a1 t104 t105 (decide ((bt a1 0) ≤ 57))) else (laws_FnUintBack.j1 kj4 a0 a1 t104 t105 false)) else (none))) else (laws_FnUintBack.j1 kj4 a0 a1 t104 t105 true))) = some r := by first | (rw [hy106]; with_reducible exact H) | (have H2_ := (Option.bind_some _ _).symm.trans H; rw [hy106]; with_reducible exact H2_) | (have H2_ := (Option.bind_some _ _).symm.trans H; with_reducible exact H2_) | with_reducible exact H | (rw [hy106]; exact H) | exact H
                have Ny106 := Aside0.mk hy106
                clear hy106
                replace H := Option.bind_eq_some_iff.mp H
                obtain ⟨t109, A170, H⟩ := H
                replace H : (if t109 = true then (if a1.toList = ([] : List UInt8) then (laws_FnUintBack.j1 kj4 a0 a1 t104 t105 false) else (if 0 < (a1.size : Int) then (if (bt a1 0) ≥ 48 then (laws_FnUintBack.j1 kj4 a0 a1 t104 t105 (decide ((bt a1 0) ≤ 57))) else (laws_FnUintBack.j1 kj4 a0 a1 t104 t105 false)) else (none))) else (laws_FnUintBack.j1 kj4 a0 a1 t104 t105 true)) = some r := H
                have A17 := Aside0.mk A170
                clear A170
                by_cases c18 : t109 = true
                · subst c18
                  have H1 : (if a1.toList = ([] : List UInt8) then (laws_FnUintBack.j1 kj4 a0 a1 t104 t105 false) else (if 0 < (a1.size : Int) then (if (bt a1 0) ≥ 48 then (laws_FnUintBack.j1 kj4 a0 a1 t104 t105 (decide ((bt a1 0) ≤ 57))) else (laws_FnUintBack.j1 kj4 a0 a1 t104 t105 false)) else (none))) = some r := by rw [if_pos rfl] at H; exact H
                  clear H
                  have H := H1
                  clear H1
                  by_cases c19 : a1.toList = ([] : List UInt8)
                  · rw [if_pos c19] at H
                    have c19b0 : (a1.toList == ([] : List UInt8)) = true := beq_iff_eq.mpr c19
                    have c19b1 : (a1.toList != ([] : List UInt8)) = false := bne_eq_false_iff_eq.mpr c19
                    clear c19
                    have H' := Aside0.mk H
                    clear H
                    go_wp2_with (first | ((with_reducible refine gate_dst (N := 44) rfl ?_); (try (refine gate_guard (by rfl) ?_; dsimp only)); refine Kd.R_lit Kd.string _ 9 ?hg (N := 44) ?hd (xs := ([a1] : List ByteArray)) (inner := [.string a1]) (ok := fun _ => True) (okp := fun _ => True) ?hr ?hp (fun _ hk => hk) trivial (Below.refl _ _) (Nat.le_refl _) (by simp) ?_; (case hd => rfl); (case hg => rfl); (case hr => first | (go_simp; done) | (go_simp; rfl)); (case hp => exact (Reps.one (show Kd.M Kd.string _ _ _ a1 [.string a1] from rfl) (Reps.none _ _))); intro v107 w20 ho21 hb hg_ hnew_; clear hg_ hnew_; (first | rw [← Ny106.out] at ho21 | (simp only [Int.reduceToNat] at ho21; rw [← Ny106.out] at ho21)); have n0_ := Aside0.mk (Kd.R_lower ho21 (below_size (by repeat (first | (with_reducible first | exact HB.out | apply below_alloc | apply pw_below_drewN | apply below_drew1) | exact HB.out)))); have n1_ := Aside0.mk (below_step (by repeat (first | (with_reducible first | exact HB.out | apply below_alloc | apply pw_below_drewN | apply below_drew1) | exact HB.out)) hb); clear HB; have HO108 := n0_; have HB := n1_; clear n0_ n1_; clear hb ho21; obtain ⟨Ao22, co22, eo22⟩ := Kd.R_slice HO108.out; subst eo22) | (go_at_call 7; (with_reducible refine (laws_short.calls kj4 _ _ y106 true _ ?side1 ?side2 A17.out).mono ?_); (case side1 => repeat (first | exact (Kd.R_reads' HO108.out).2.2 | (with_reducible refine Kd.C_alloc ?_ _) | (with_reducible refine Kd.C_drewN ?_ _) | (with_reducible refine Kd.C_drew ?_))); (case side2 => exact (Kd.R_reads' HO108.out).2.1); rintro e w' ⟨rfl, ⟨nd, rfl⟩⟩))
                    go_meet
                    case rel => exact ⟨_, (false), (by first | rfl | (simp; done) | (simp [*]; done) | (simp [Go.Proofs.YtipmmjbjgbfgjaaDoorX.isEmpty_ne]; done)), H', ⟨by have := HJ4.out; first | omega | exact Nat.le_refl _⟩, ⟨by repeat (first | (with_reducible first | exact HB.out | apply below_alloc | apply pw_below_drewN | apply below_drew1) | exact HB.out)⟩⟩
                  · rw [if_neg c19] at H
                    have c19b0 : (a1.toList == ([] : List UInt8)) = false := beq_eq_false_iff_ne.mpr c19
                    have c19b1 : (a1.toList != ([] : List UInt8)) = true := bne_iff_ne.mpr c19
                    by_cases c23 : 0 < (a1.size : Int)
                    · rw [if_pos c23] at H
                      have c23b0 : decide (0 < (a1.size : Int)) = true := decide_eq_true c23
                      have c23b1 : decide (0 < a1.size) = true := decide_eq_true (by omega)
                      clear c23
                      by_cases c25 : (bt a1 0) ≥ 48
                      · rw [if_pos c25] at H
                        have c25b0 : decide (48 ≤ (bt a1 0)) = true := decide_eq_true c25
                        clear c25
                        have H' := Aside0.mk H
                        clear H
                        go_wp2_with (first | ((with_reducible refine gate_dst (N := 44) rfl ?_); (try (refine gate_guard (by rfl) ?_; dsimp only)); refine Kd.R_lit Kd.string _ 9 ?hg (N := 44) ?hd (xs := ([a1] : List ByteArray)) (inner := [.string a1]) (ok := fun _ => True) (okp := fun _ => True) ?hr ?hp (fun _ hk => hk) trivial (Below.refl _ _) (Nat.le_refl _) (by simp) ?_; (case hd => rfl); (case hg => rfl); (case hr => first | (go_simp; done) | (go_simp; rfl)); (case hp => exact (Reps.one (show Kd.M Kd.string _ _ _ a1 [.string a1] from rfl) (Reps.none _ _))); intro v107 w27 ho28 hb hg_ hnew_; clear hg_ hnew_; (first | rw [← Ny106.out] at ho28 | (simp only [Int.reduceToNat] at ho28; rw [← Ny106.out] at ho28)); have n0_ := Aside0.mk (Kd.R_lower ho28 (below_size (by repeat (first | (with_reducible first | exact HB.out | apply below_alloc | apply pw_below_drewN | apply below_drew1) | exact HB.out)))); have n1_ := Aside0.mk (below_step (by repeat (first | (with_reducible first | exact HB.out | apply below_alloc | apply pw_below_drewN | apply below_drew1) | exact HB.out)) hb); clear HB; have HO108 := n0_; have HB := n1_; clear n0_ n1_; clear hb ho28; obtain ⟨Ao29, co29, eo29⟩ := Kd.R_slice HO108.out; subst eo29) | (go_at_call 7; (with_reducible refine (laws_short.calls kj4 _ _ y106 true _ ?side1 ?side2 A17.out).mono ?_); (case side1 => repeat (first | exact (Kd.R_reads' HO108.out).2.2 | (with_reducible refine Kd.C_alloc ?_ _) | (with_reducible refine Kd.C_drewN ?_ _) | (with_reducible refine Kd.C_drew ?_))); (case side2 => exact (Kd.R_reads' HO108.out).2.1); rintro e w' ⟨rfl, ⟨nd, rfl⟩⟩; have p24 : 0 ≤ (0 : Int) := (by omega); have q24 : 0 < a1.size := (by have : (0 : Int) < (a1.size : Int) := of_decide_eq_true (by first | (with_reducible assumption) | assumption); omega); have hx24 : ∀ h : 0 < a1.size, ((a1[0]'h).toNat : Int) = bt a1 0 := bt_at a1 0; clear p24; have qi24 : (0 < (a1.size : Int)) = True := eq_true (of_decide_eq_true (by first | (with_reducible assumption) | assumption)); replace q24 := eq_true q24; have p26 : 0 ≤ (0 : Int) := (by omega); have q26 : 0 < a1.size := (by have : (0 : Int) < (a1.size : Int) := of_decide_eq_true (by first | (with_reducible assumption) | assumption); omega); have hx26 : ∀ h : 0 < a1.size, ((a1[0]'h).toNat : Int) = bt a1 0 := bt_at a1 0; clear p26; have qi26 : (0 < (a1.size : Int)) = True := eq_true (of_decide_eq_true (by first | (with_reducible assumption) | assumption)); replace q26 := eq_true q26))
                        go_meet
                        case rel => exact ⟨_, (decide ((bt a1 0) ≤ 57)), (by first | rfl | (simp; done) | (simp [*]; done) | (simp [Go.Proofs.YtipmmjbjgbfgjaaDoorX.isEmpty_ne]; done)), H', ⟨by have := HJ4.out; first | omega | exact Nat.le_refl _⟩, ⟨by repeat (first | (with_reducible first | exact HB.out | apply below_alloc | apply pw_below_drewN | apply below_drew1) | exact HB.out)⟩⟩
                      · rw [if_neg c25] at H
                        have c25b0 : decide (48 ≤ (bt a1 0)) = false := decide_eq_false c25
                        clear c25
                        have H' := Aside0.mk H
                        clear H
                        go_wp2_with (first | ((with_reducible refine gate_dst (N := 44) rfl ?_); (try (refine gate_guard (by rfl) ?_; dsimp only)); refine Kd.R_lit Kd.string _ 9 ?hg (N := 44) ?hd (xs := ([a1] : List ByteArray)) (inner := [.string a1]) (ok := fun _ => True) (okp := fun _ => True) ?hr ?hp (fun _ hk => hk) trivial (Below.refl _ _) (Nat.le_refl _) (by simp) ?_; (case hd => rfl); (case hg => rfl); (case hr => first | (go_simp; done) | (go_simp; rfl)); (case hp => exact (Reps.one (show Kd.M Kd.string _ _ _ a1 [.string a1] from rfl) (Reps.none _ _))); intro v107 w30 ho31 hb hg_ hnew_; clear hg_ hnew_; (first | rw [← Ny106.out] at ho31 | (simp only [Int.reduceToNat] at ho31; rw [← Ny106.out] at ho31)); have n0_ := Aside0.mk (Kd.R_lower ho31 (below_size (by repeat (first | (with_reducible first | exact HB.out | apply below_alloc | apply pw_below_drewN | apply below_drew1) | exact HB.out)))); have n1_ := Aside0.mk (below_step (by repeat (first | (with_reducible first | exact HB.out | apply below_alloc | apply pw_below_drewN | apply below_drew1) | exact HB.out)) hb); clear HB; have HO108 := n0_; have HB := n1_; clear n0_ n1_; clear hb ho31; obtain ⟨Ao32, co32, eo32⟩ := Kd.R_slice HO108.out; subst eo32) | (go_at_call 7; (with_reducible refine (laws_short.calls kj4 _ _ y106 true _ ?side1 ?side2 A17.out).mono ?_); (case side1 => repeat (first | exact (Kd.R_reads' HO108.out).2.2 | (with_reducible refine Kd.C_alloc ?_ _) | (with_reducible refine Kd.C_drewN ?_ _) | (with_reducible refine Kd.C_drew ?_))); (case side2 => exact (Kd.R_reads' HO108.out).2.1); rintro e w' ⟨rfl, ⟨nd, rfl⟩⟩; have p24 : 0 ≤ (0 : Int) := (by omega); have q24 : 0 < a1.size := (by have : (0 : Int) < (a1.size : Int) := of_decide_eq_true (by first | (with_reducible assumption) | assumption); omega); have hx24 : ∀ h : 0 < a1.size, ((a1[0]'h).toNat : Int) = bt a1 0 := bt_at a1 0; clear p24; have qi24 : (0 < (a1.size : Int)) = True := eq_true (of_decide_eq_true (by first | (with_reducible assumption) | assumption)); replace q24 := eq_true q24))
                        go_meet
                        case rel => exact ⟨_, (false), (by first | rfl | (simp; done) | (simp [*]; done) | (simp [Go.Proofs.YtipmmjbjgbfgjaaDoorX.isEmpty_ne]; done)), H', ⟨by have := HJ4.out; first | omega | exact Nat.le_refl _⟩, ⟨by repeat (first | (with_reducible first | exact HB.out | apply below_alloc | apply pw_below_drewN | apply below_drew1) | exact HB.out)⟩⟩
                    · rw [if_neg c23] at H
                      exact absurd H (by simp)
                · replace c18 := Bool.eq_false_iff.mpr c18
                  subst c18
                  have H1 : (laws_FnUintBack.j1 kj4 a0 a1 t104 t105 true) = some r := by rw [if_neg (show ¬ (false = true) by decide)] at H; exact H
                  clear H
                  have H := H1
                  clear H1
                  have H' := Aside0.mk H
                  clear H
                  go_wp2_with (first | ((with_reducible refine gate_dst (N := 44) rfl ?_); (try (refine gate_guard (by rfl) ?_; dsimp only)); refine Kd.R_lit Kd.string _ 9 ?hg (N := 44) ?hd (xs := ([a1] : List ByteArray)) (inner := [.string a1]) (ok := fun _ => True) (okp := fun _ => True) ?hr ?hp (fun _ hk => hk) trivial (Below.refl _ _) (Nat.le_refl _) (by simp) ?_; (case hd => rfl); (case hg => rfl); (case hr => first | (go_simp; done) | (go_simp; rfl)); (case hp => exact (Reps.one (show Kd.M Kd.string _ _ _ a1 [.string a1] from rfl) (Reps.none _ _))); intro v107 w33 ho34 hb hg_ hnew_; clear hg_ hnew_; (first | rw [← Ny106.out] at ho34 | (simp only [Int.reduceToNat] at ho34; rw [← Ny106.out] at ho34)); have n0_ := Aside0.mk (Kd.R_lower ho34 (below_size (by repeat (first | (with_reducible first | exact HB.out | apply below_alloc | apply pw_below_drewN | apply below_drew1) | exact HB.out)))); have n1_ := Aside0.mk (below_step (by repeat (first | (with_reducible first | exact HB.out | apply below_alloc | apply pw_below_drewN | apply below_drew1) | exact HB.out)) hb); clear HB; have HO108 := n0_; have HB := n1_; clear n0_ n1_; clear hb ho34; obtain ⟨Ao35, co35, eo35⟩ := Kd.R_slice HO108.out; subst eo35) | (go_at_call 7; (with_reducible refine (laws_short.calls kj4 _ _ y106 false _ ?side1 ?side2 A17.out).mono ?_); (case side1 => repeat (first | exact (Kd.R_reads' HO108.out).2.2 | (with_reducible refine Kd.C_alloc ?_ _) | (with_reducible refine Kd.C_drewN ?_ _) | (with_reducible refine Kd.C_drew ?_))); (case side2 => exact (Kd.R_reads' HO108.out).2.1); rintro e w' ⟨rfl, ⟨nd, rfl⟩⟩))
                  go_meet
                  case rel => exact ⟨_, (true), (by first | rfl | (simp; done) | (simp [*]; done) | (simp [Go.Proofs.YtipmmjbjgbfgjaaDoorX.isEmpty_ne]; done)), H', ⟨by have := HJ4.out; first | omega | exact Nat.le_refl _⟩, ⟨by repeat (first | (with_reducible first | exact HB.out | apply below_alloc | apply pw_below_drewN | apply below_drew1) | exact HB.out)⟩⟩
            case rest =>
              clear HC14
              try clear c1
              try clear c2
              try clear p2
              try clear q2
              try clear hx2
              try clear qi2
              try clear c3
              try clear c3b0
              try clear c3b1
              try clear c5
              try clear c6
              try clear c7
              try clear c8
              try clear c10
              try clear c10b0
              try clear c11
              try clear c16
              try clear c16b0
              try clear c18
              try clear c19
              try clear c19b0
              try clear c19b1
              try clear c23
              try clear c23b0
              try clear c23b1
              try clear p24
              try clear q24
              try clear hx24
              try clear qi24
              try clear c25
              try clear c25b0
              try clear p26
              try clear q26
              try clear hx26
              try clear qi26
              try clear p2
              try clear p24
              try clear p26
              try clear q24
              try clear q26
              obtain ⟨kq, x61_13, rfl, HA, HJ13, HB⟩ := hcut
              cases kq with
              | zero => exact absurd HA.out (by simp [laws_FnUintBack.j1])
              | succ kj13 =>
                have H := HA.out
                clear HA
                simp only [laws_FnUintBack.j1] at H
                by_cases c36 : x61_13 = true
                · subst c36
                  have H1 : (some true) = some r := by rw [if_pos rfl] at H; exact H
                  clear H
                  have H := H1
                  clear H1
                  obtain rfl := Option.some.inj H
                  go_wp2
                  go_ret
                  exact ⟨by first | rfl | (simp [errW_none, errW_some] <;> rfl) | (simp [*, errW_none, errW_some] <;> rfl), by repeat (first | (with_reducible first | exact HB.out | apply below_alloc | apply pw_below_drewN | apply below_drew1) | exact HB.out)⟩
                · replace c36 := Bool.eq_false_iff.mpr c36
                  subst c36
                  have H1 : ((impl_UintOf.f t104).bind fun bt110 => (if t104.size + a1.size ≤ 9223372036854775807 then ((impl_UintAhead.f (t104 ++ a1)).bind fun bt112 => (if t105 = true then (if bt110.2 = true then (if bt112.2.2 = true then (if bt110.1 = a0 then (if bt112.1 = a0 then (some (bt112.2.1 == (t104.size : Int))) else (some false)) else (some false)) else (some false)) else (some false)) else (some false))) else (none))) = some r := by rw [if_neg (show ¬ (false = true) by decide)] at H; exact H
                  clear H
                  have H := H1
                  clear H1
                  replace H := Option.bind_eq_some_iff.mp H
                  obtain ⟨⟨t110, t111⟩, A370, H⟩ := H
                  replace H : (if t104.size + a1.size ≤ 9223372036854775807 then ((impl_UintAhead.f (t104 ++ a1)).bind fun bt112 => (if t105 = true then (if t111 = true then (if bt112.2.2 = true then (if t110 = a0 then (if bt112.1 = a0 then (some (bt112.2.1 == (t104.size : Int))) else (some false)) else (some false)) else (some false)) else (some false)) else (some false))) else (none)) = some r := H
                  have A37 := Aside0.mk A370
                  clear A370
                  by_cases c38 : t104.size + a1.size ≤ 9223372036854775807
                  · rw [if_pos c38] at H
                    have c38b0 := eq_true c38
                    have c38b1 : decide (t104.size + a1.size ≤ 9223372036854775807) = true := decide_eq_true c38
                    try have c38b2 : (9223372036854775807 < t104.size + a1.size) = False := eq_false (Nat.not_lt.2 c38)
                    replace H := Option.bind_eq_some_iff.mp H
                    obtain ⟨⟨t112, t113, t114⟩, A390, H⟩ := H
                    replace H : (if t105 = true then (if t111 = true then (if t114 = true then (if t110 = a0 then (if t112 = a0 then (some (t113 == (t104.size : Int))) else (some false)) else (some false)) else (some false)) else (some false)) else (some false)) = some r := H
                    have A39 := Aside0.mk A390
                    clear A390
                    by_cases c40 : t105 = true
                    · subst c40
                      have H1 : (if t111 = true then (if t114 = true then (if t110 = a0 then (if t112 = a0 then (some (t113 == (t104.size : Int))) else (some false)) else (some false)) else (some false)) else (some false)) = some r := by rw [if_pos rfl] at H; exact H
                      clear H
                      have H := H1
                      clear H1
                      by_cases c41 : t111 = true
                      · subst c41
                        have H1 : (if t114 = true then (if t110 = a0 then (if t112 = a0 then (some (t113 == (t104.size : Int))) else (some false)) else (some false)) else (some false)) = some r := by rw [if_pos rfl] at H; exact H
                        clear H
                        have H := H1
                        clear H1
                        by_cases c42 : t114 = true
                        · subst c42
                          have H1 : (if t110 = a0 then (if t112 = a0 then (some (t113 == (t104.size : Int))) else (some false)) else (some false)) = some r := by rw [if_pos rfl] at H; exact H
                          clear H
                          have H := H1
                          clear H1
                          by_cases c43 : t110 = a0
                          · rw [if_pos c43] at H
                            have c43b0 : (t110 == a0) = true := beq_iff_eq.mpr c43
                            have c43b1 : (t110 != a0) = false := bne_eq_false_iff_eq.mpr c43
                            clear c43
                            by_cases c44 : t112 = a0
                            · rw [if_pos c44] at H
                              have c44b0 : (t112 == a0) = true := beq_iff_eq.mpr c44
                              have c44b1 : (t112 != a0) = false := bne_eq_false_iff_eq.mpr c44
                              clear c44
                              obtain rfl := Option.some.inj H
                              go_wp2_with (first | ((with_reducible refine gate_callee (f := 5) rfl ?_); refine goesL_ (some 64) rfl rfl Tryd.func5 (by kernel_rfl) rfl #[.string t104] rfl (by (try simp only [List.map_toArray, List.map_cons, List.map_nil]); first | done | rfl | (simp only [List.length_drop, List.length_take]; rfl)) ?_; (with_reducible refine (impl_UintOf.calls t104 t110 true _ A37.out (HLD_.out.below (by repeat (first | (with_reducible first | exact HB.out | apply below_alloc | apply pw_below_drewN | apply below_drew1) | exact HB.out)) (Nat.le_refl _))).mono ?_); rintro e w45 ⟨rfl, hb⟩; refine ⟨_, rfl, ?_⟩; have n0_ := Aside0.mk (below_step (by repeat (first | (with_reducible first | exact HB.out | apply below_alloc | apply pw_below_drewN | apply below_drew1) | exact HB.out)) hb); clear HB; have HB := n0_; clear n0_; (try clear hb); (try clear hb2); (try clear hk); (try clear hi)) | ((with_reducible refine gate_callee (f := 8) rfl ?_); refine goesL_ (some 71) rfl rfl Tryd.func8 (by kernel_rfl) rfl #[.string (t104 ++ a1)] rfl (by (try simp only [List.map_toArray, List.map_cons, List.map_nil]); first | done | rfl | (simp only [List.length_drop, List.length_take]; rfl)) ?_; (with_reducible refine (impl_UintAhead.calls (t104 ++ a1) t112 t113 true _ A39.out (HLD_.out.below (by repeat (first | (with_reducible first | exact HB.out | apply below_alloc | apply pw_below_drewN | apply below_drew1) | exact HB.out)) (Nat.le_refl _))).mono ?_); rintro e w46 ⟨rfl, hb⟩; refine ⟨_, rfl, ?_⟩; have n0_ := Aside0.mk (below_step (by repeat (first | (with_reducible first | exact HB.out | apply below_alloc | apply pw_below_drewN | apply below_drew1) | exact HB.out)) hb); clear HB; have HB := n0_; clear n0_; (try clear hb); (try clear hb2); (try clear hk); (try clear hi)))
                              any_goals (try (exfalso; have zc38b1 := of_decide_eq_true c38b1; omega))
                              go_ret
                              exact ⟨by first | rfl | (simp [errW_none, errW_some] <;> rfl) | (simp [*, errW_none, errW_some] <;> rfl), by repeat (first | (with_reducible first | exact HB.out | apply below_alloc | apply pw_below_drewN | apply below_drew1) | exact HB.out)⟩
                            · rw [if_neg c44] at H
                              have c44b0 : (t112 == a0) = false := beq_eq_false_iff_ne.mpr c44
                              have c44b1 : (t112 != a0) = true := bne_iff_ne.mpr c44
                              obtain rfl := Option.some.inj H
                              go_wp2_with (first | ((with_reducible refine gate_callee (f := 5) rfl ?_); refine goesL_ (some 64) rfl rfl Tryd.func5 (by kernel_rfl) rfl #[.string t104] rfl (by (try simp only [List.map_toArray, List.map_cons, List.map_nil]); first | done | rfl | (simp only [List.length_drop, List.length_take]; rfl)) ?_; (with_reducible refine (impl_UintOf.calls t104 t110 true _ A37.out (HLD_.out.below (by repeat (first | (with_reducible first | exact HB.out | apply below_alloc | apply pw_below_drewN | apply below_drew1) | exact HB.out)) (Nat.le_refl _))).mono ?_); rintro e w47 ⟨rfl, hb⟩; refine ⟨_, rfl, ?_⟩; have n0_ := Aside0.mk (below_step (by repeat (first | (with_reducible first | exact HB.out | apply below_alloc | apply pw_below_drewN | apply below_drew1) | exact HB.out)) hb); clear HB; have HB := n0_; clear n0_; (try clear hb); (try clear hb2); (try clear hk); (try clear hi)) | ((with_reducible refine gate_callee (f := 8) rfl ?_); refine goesL_ (some 71) rfl rfl Tryd.func8 (by kernel_rfl) rfl #[.string (t104 ++ a1)] rfl (by (try simp only [List.map_toArray, List.map_cons, List.map_nil]); first | done | rfl | (simp only [List.length_drop, List.length_take]; rfl)) ?_; (with_reducible refine (impl_UintAhead.calls (t104 ++ a1) t112 t113 true _ A39.out (HLD_.out.below (by repeat (first | (with_reducible first | exact HB.out | apply below_alloc | apply pw_below_drewN | apply below_drew1) | exact HB.out)) (Nat.le_refl _))).mono ?_); rintro e w48 ⟨rfl, hb⟩; refine ⟨_, rfl, ?_⟩; have n0_ := Aside0.mk (below_step (by repeat (first | (with_reducible first | exact HB.out | apply below_alloc | apply pw_below_drewN | apply below_drew1) | exact HB.out)) hb); clear HB; have HB := n0_; clear n0_; (try clear hb); (try clear hb2); (try clear hk); (try clear hi)))
                              any_goals (try (exfalso; have zc38b1 := of_decide_eq_true c38b1; omega))
                              go_ret
                              exact ⟨by first | rfl | (simp [errW_none, errW_some] <;> rfl) | (simp [*, errW_none, errW_some] <;> rfl), by repeat (first | (with_reducible first | exact HB.out | apply below_alloc | apply pw_below_drewN | apply below_drew1) | exact HB.out)⟩
                          · rw [if_neg c43] at H
                            have c43b0 : (t110 == a0) = false := beq_eq_false_iff_ne.mpr c43
                            have c43b1 : (t110 != a0) = true := bne_iff_ne.mpr c43
                            obtain rfl := Option.some.inj H
                            go_wp2_with (first | ((with_reducible refine gate_callee (f := 5) rfl ?_); refine goesL_ (some 64) rfl rfl Tryd.func5 (by kernel_rfl) rfl #[.string t104] rfl (by (try simp only [List.map_toArray, List.map_cons, List.map_nil]); first | done | rfl | (simp only [List.length_drop, List.length_take]; rfl)) ?_; (with_reducible refine (impl_UintOf.calls t104 t110 true _ A37.out (HLD_.out.below (by repeat (first | (with_reducible first | exact HB.out | apply below_alloc | apply pw_below_drewN | apply below_drew1) | exact HB.out)) (Nat.le_refl _))).mono ?_); rintro e w49 ⟨rfl, hb⟩; refine ⟨_, rfl, ?_⟩; have n0_ := Aside0.mk (below_step (by repeat (first | (with_reducible first | exact HB.out | apply below_alloc | apply pw_below_drewN | apply below_drew1) | exact HB.out)) hb); clear HB; have HB := n0_; clear n0_; (try clear hb); (try clear hb2); (try clear hk); (try clear hi)) | ((with_reducible refine gate_callee (f := 8) rfl ?_); refine goesL_ (some 71) rfl rfl Tryd.func8 (by kernel_rfl) rfl #[.string (t104 ++ a1)] rfl (by (try simp only [List.map_toArray, List.map_cons, List.map_nil]); first | done | rfl | (simp only [List.length_drop, List.length_take]; rfl)) ?_; (with_reducible refine (impl_UintAhead.calls (t104 ++ a1) t112 t113 true _ A39.out (HLD_.out.below (by repeat (first | (with_reducible first | exact HB.out | apply below_alloc | apply pw_below_drewN | apply below_drew1) | exact HB.out)) (Nat.le_refl _))).mono ?_); rintro e w50 ⟨rfl, hb⟩; refine ⟨_, rfl, ?_⟩; have n0_ := Aside0.mk (below_step (by repeat (first | (with_reducible first | exact HB.out | apply below_alloc | apply pw_below_drewN | apply below_drew1) | exact HB.out)) hb); clear HB; have HB := n0_; clear n0_; (try clear hb); (try clear hb2); (try clear hk); (try clear hi)))
                            any_goals (try (exfalso; have zc38b1 := of_decide_eq_true c38b1; omega))
                            go_ret
                            exact ⟨by first | rfl | (simp [errW_none, errW_some] <;> rfl) | (simp [*, errW_none, errW_some] <;> rfl), by repeat (first | (with_reducible first | exact HB.out | apply below_alloc | apply pw_below_drewN | apply below_drew1) | exact HB.out)⟩
                        · replace c42 := Bool.eq_false_iff.mpr c42
                          subst c42
                          have H1 : (some false) = some r := by rw [if_neg (show ¬ (false = true) by decide)] at H; exact H
                          clear H
                          have H := H1
                          clear H1
                          obtain rfl := Option.some.inj H
                          go_wp2_with (first | ((with_reducible refine gate_callee (f := 5) rfl ?_); refine goesL_ (some 64) rfl rfl Tryd.func5 (by kernel_rfl) rfl #[.string t104] rfl (by (try simp only [List.map_toArray, List.map_cons, List.map_nil]); first | done | rfl | (simp only [List.length_drop, List.length_take]; rfl)) ?_; (with_reducible refine (impl_UintOf.calls t104 t110 true _ A37.out (HLD_.out.below (by repeat (first | (with_reducible first | exact HB.out | apply below_alloc | apply pw_below_drewN | apply below_drew1) | exact HB.out)) (Nat.le_refl _))).mono ?_); rintro e w51 ⟨rfl, hb⟩; refine ⟨_, rfl, ?_⟩; have n0_ := Aside0.mk (below_step (by repeat (first | (with_reducible first | exact HB.out | apply below_alloc | apply pw_below_drewN | apply below_drew1) | exact HB.out)) hb); clear HB; have HB := n0_; clear n0_; (try clear hb); (try clear hb2); (try clear hk); (try clear hi)) | ((with_reducible refine gate_callee (f := 8) rfl ?_); refine goesL_ (some 71) rfl rfl Tryd.func8 (by kernel_rfl) rfl #[.string (t104 ++ a1)] rfl (by (try simp only [List.map_toArray, List.map_cons, List.map_nil]); first | done | rfl | (simp only [List.length_drop, List.length_take]; rfl)) ?_; (with_reducible refine (impl_UintAhead.calls (t104 ++ a1) t112 t113 false _ A39.out (HLD_.out.below (by repeat (first | (with_reducible first | exact HB.out | apply below_alloc | apply pw_below_drewN | apply below_drew1) | exact HB.out)) (Nat.le_refl _))).mono ?_); rintro e w52 ⟨rfl, hb⟩; refine ⟨_, rfl, ?_⟩; have n0_ := Aside0.mk (below_step (by repeat (first | (with_reducible first | exact HB.out | apply below_alloc | apply pw_below_drewN | apply below_drew1) | exact HB.out)) hb); clear HB; have HB := n0_; clear n0_; (try clear hb); (try clear hb2); (try clear hk); (try clear hi)))
                          any_goals (try (exfalso; have zc38b1 := of_decide_eq_true c38b1; omega))
                          go_ret
                          exact ⟨by first | rfl | (simp [errW_none, errW_some] <;> rfl) | (simp [*, errW_none, errW_some] <;> rfl), by repeat (first | (with_reducible first | exact HB.out | apply below_alloc | apply pw_below_drewN | apply below_drew1) | exact HB.out)⟩
                      · replace c41 := Bool.eq_false_iff.mpr c41
                        subst c41
                        have H1 : (some false) = some r := by rw [if_neg (show ¬ (false = true) by decide)] at H; exact H
                        clear H
                        have H := H1
                        clear H1
                        obtain rfl := Option.some.inj H
                        go_wp2_with (first | ((with_reducible refine gate_callee (f := 5) rfl ?_); refine goesL_ (some 64) rfl rfl Tryd.func5 (by kernel_rfl) rfl #[.string t104] rfl (by (try simp only [List.map_toArray, List.map_cons, List.map_nil]); first | done | rfl | (simp only [List.length_drop, List.length_take]; rfl)) ?_; (with_reducible refine (impl_UintOf.calls t104 t110 false _ A37.out (HLD_.out.below (by repeat (first | (with_reducible first | exact HB.out | apply below_alloc | apply pw_below_drewN | apply below_drew1) | exact HB.out)) (Nat.le_refl _))).mono ?_); rintro e w53 ⟨rfl, hb⟩; refine ⟨_, rfl, ?_⟩; have n0_ := Aside0.mk (below_step (by repeat (first | (with_reducible first | exact HB.out | apply below_alloc | apply pw_below_drewN | apply below_drew1) | exact HB.out)) hb); clear HB; have HB := n0_; clear n0_; (try clear hb); (try clear hb2); (try clear hk); (try clear hi)) | ((with_reducible refine gate_callee (f := 8) rfl ?_); refine goesL_ (some 71) rfl rfl Tryd.func8 (by kernel_rfl) rfl #[.string (t104 ++ a1)] rfl (by (try simp only [List.map_toArray, List.map_cons, List.map_nil]); first | done | rfl | (simp only [List.length_drop, List.length_take]; rfl)) ?_; (with_reducible refine (impl_UintAhead.calls (t104 ++ a1) t112 t113 t114 _ A39.out (HLD_.out.below (by repeat (first | (with_reducible first | exact HB.out | apply below_alloc | apply pw_below_drewN | apply below_drew1) | exact HB.out)) (Nat.le_refl _))).mono ?_); rintro e w54 ⟨rfl, hb⟩; refine ⟨_, rfl, ?_⟩; have n0_ := Aside0.mk (below_step (by repeat (first | (with_reducible first | exact HB.out | apply below_alloc | apply pw_below_drewN | apply below_drew1) | exact HB.out)) hb); clear HB; have HB := n0_; clear n0_; (try clear hb); (try clear hb2); (try clear hk); (try clear hi)))
                        any_goals (try (exfalso; have zc38b1 := of_decide_eq_true c38b1; omega))
                        go_ret
                        exact ⟨by first | rfl | (simp [errW_none, errW_some] <;> rfl) | (simp [*, errW_none, errW_some] <;> rfl), by repeat (first | (with_reducible first | exact HB.out | apply below_alloc | apply pw_below_drewN | apply below_drew1) | exact HB.out)⟩
                    · replace c40 := Bool.eq_false_iff.mpr c40
                      subst c40
                      have H1 : (some false) = some r := by rw [if_neg (show ¬ (false = true) by decide)] at H; exact H
                      clear H
                      have H := H1
                      clear H1
                      obtain rfl := Option.some.inj H
                      go_wp2_with (first | ((with_reducible refine gate_callee (f := 5) rfl ?_); refine goesL_ (some 64) rfl rfl Tryd.func5 (by kernel_rfl) rfl #[.string t104] rfl (by (try simp only [List.map_toArray, List.map_cons, List.map_nil]); first | done | rfl | (simp only [List.length_drop, List.length_take]; rfl)) ?_; (with_reducible refine (impl_UintOf.calls t104 t110 t111 _ A37.out (HLD_.out.below (by repeat (first | (with_reducible first | exact HB.out | apply below_alloc | apply pw_below_drewN | apply below_drew1) | exact HB.out)) (Nat.le_refl _))).mono ?_); rintro e w55 ⟨rfl, hb⟩; refine ⟨_, rfl, ?_⟩; have n0_ := Aside0.mk (below_step (by repeat (first | (with_reducible first | exact HB.out | apply below_alloc | apply pw_below_drewN | apply below_drew1) | exact HB.out)) hb); clear HB; have HB := n0_; clear n0_; (try clear hb); (try clear hb2); (try clear hk); (try clear hi)) | ((with_reducible refine gate_callee (f := 8) rfl ?_); refine goesL_ (some 71) rfl rfl Tryd.func8 (by kernel_rfl) rfl #[.string (t104 ++ a1)] rfl (by (try simp only [List.map_toArray, List.map_cons, List.map_nil]); first | done | rfl | (simp only [List.length_drop, List.length_take]; rfl)) ?_; (with_reducible refine (impl_UintAhead.calls (t104 ++ a1) t112 t113 t114 _ A39.out (HLD_.out.below (by repeat (first | (with_reducible first | exact HB.out | apply below_alloc | apply pw_below_drewN | apply below_drew1) | exact HB.out)) (Nat.le_refl _))).mono ?_); rintro e w56 ⟨rfl, hb⟩; refine ⟨_, rfl, ?_⟩; have n0_ := Aside0.mk (below_step (by repeat (first | (with_reducible first | exact HB.out | apply below_alloc | apply pw_below_drewN | apply below_drew1) | exact HB.out)) hb); clear HB; have HB := n0_; clear n0_; (try clear hb); (try clear hb2); (try clear hk); (try clear hi)))
                      any_goals (try (exfalso; have zc38b1 := of_decide_eq_true c38b1; omega))
                      go_ret
                      exact ⟨by first | rfl | (simp [errW_none, errW_some] <;> rfl) | (simp [*, errW_none, errW_some] <;> rfl), by repeat (first | (with_reducible first | exact HB.out | apply below_alloc | apply pw_below_drewN | apply below_drew1) | exact HB.out)⟩
                  · rw [if_neg c38] at H
                    exact absurd H (by simp)

/-- THE ONE PURE STATEMENT of laws_FnUintBack: yours. -/
def laws_FnUintBack.Pure : Prop := ∀ (a0 : Int) (a1 : ByteArray), (Lit.int .i64 a0).wf = true → a1.size ≤ 140737488351232 → ∃ k, laws_FnUintBack.f k a0 a1 = some true
theorem laws_FnUintBack.walk (P : laws_FnUintBack.Pure) (a0 : Int) (a1 : ByteArray) (w : World) (hL_ : LaidD w) (w0 : (Lit.int .i64 a0).wf = true) (w1 : a1.size ≤ 140737488351232) :
    Calls Tryd.prog 3 #[.int .i64 a0, .string a1] w fun e w' => e = .returned (.bool true) ∧ Below w.heap.size w w' := by
  obtain ⟨k, h⟩ := P a0 a1 w0 w1
  refine (laws_FnUintBack.calls k a0 a1 true w hL_ h).mono ?_
  rintro e w' ⟨rfl, hd⟩
  exact ⟨rfl, hd⟩

end Go.Proofs.YtipmmjbjgbfgjaaDoor.Q
