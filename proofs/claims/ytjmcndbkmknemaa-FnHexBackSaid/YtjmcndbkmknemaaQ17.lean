-- Written by a program of this session out of the translation, with the kit's printer. Not trusted: Lean checks it.
import Derived.Test.YtjmcndbkmknemaaQ0
import Derived.Test.YtjmcndbkmknemaaQ15
import Derived.Test.YtjmcndbkmknemaaQ16
namespace Go.Proofs.Ytjmcndbkmknemaa.Q
open Go.RowKit Go.Proofs.YtjmcndbkmknemaaW.PrintWords Go.Proofs.YtjmcndbkmknemaaW.PrintLast Go.Proofs.YtjmcndbkmknemaaW.PrintMore
attribute [local go_sem] max2_int min2_int max_two min_two max_three min_three max_four min_four   -- for this text's walks alone
set_option linter.unusedVariables false
set_option linter.unusedSimpArgs false

/-! ### laws_FnHexBack: function 8 -/
mutual
def laws_FnHexBack.j0 : Nat → Int → Bool → Option (Bool)
  | 0, _, _ => none
  | k + 1, x0, x18 => if x18 = true then (some false) else ((impl_HexText.f k x0).bind fun bt182 => (if bt182.2 = (bt182.1.size : Int) then (if bt182.1.toList = ([] : List UInt8) then (laws_FnHexBack.j1 k x0 bt182.1 true) else (if (bt182.1.size : Int) > 16 then (laws_FnHexBack.j1 k x0 bt182.1 true) else (if (bt182.1.size : Int) > 1 then (if 0 < (bt182.1.size : Int) then (laws_FnHexBack.j1 k x0 bt182.1 ((bt bt182.1 0) == 48)) else (none)) else (laws_FnHexBack.j1 k x0 bt182.1 false)))) else (laws_FnHexBack.j1 k x0 bt182.1 true)))
def laws_FnHexBack.j1 : Nat → Int → ByteArray → Bool → Option (Bool)
  | 0, _, _, _ => none
  | k + 1, x0, x5, x46 => if x46 = true then (some false) else (laws_FnHexBack.l0 k x0 x5 0 (x5.size : Int) 0)
def laws_FnHexBack.l0 : Nat → Int → ByteArray → Int → Int → Int → Option (Bool)
  | 0, _, _, _, _, _ => none
  | k + 1, x0, x5, x7, x48, x49 => if x49 < x48 then (if 0 ≤ x49 then (if x49 < (x5.size : Int) then ((laws_hex.f k (bt x5 x49)).bind fun t184 => (if t184 < 0 then (some false) else (if (bt x5 x49) < 97 then (if (bt x5 x49) > 57 then (some false) else ((laws_hex.f k (bt x5 x49)).bind fun t185 => (laws_FnHexBack.l0 k x0 x5 (Go.bits .or .u64 (IntKind.u64.wrap (x7 * 16)) (IntKind.u64.wrap (t185))) x48 (wrap64 (x49 + 1))))) else ((laws_hex.f k (bt x5 x49)).bind fun t186 => (laws_FnHexBack.l0 k x0 x5 (Go.bits .or .u64 (IntKind.u64.wrap (x7 * 16)) (IntKind.u64.wrap (t186))) x48 (wrap64 (x49 + 1))))))) else (none)) else (none)) else (some (x7 == x0))
end
def laws_FnHexBack.f (k : Nat) (a0 : Int) : Option (Bool) := (impl_HexText.f k 255).bind fun bt180 => (if bt180.1.toList = ([102, 102] : List UInt8) then (laws_FnHexBack.j0 k a0 (bt180.2 != 2)) else (laws_FnHexBack.j0 k a0 true))
theorem laws_FnHexBack.mono_l : ∀ k, (∀ y0 y1, LeO (laws_FnHexBack.j0 k y0 y1) (laws_FnHexBack.j0 (k + 1) y0 y1)) ∧ (∀ y0 y1 y2, LeO (laws_FnHexBack.j1 k y0 y1 y2) (laws_FnHexBack.j1 (k + 1) y0 y1 y2)) ∧ (∀ y0 y1 y2 y3 y4, LeO (laws_FnHexBack.l0 k y0 y1 y2 y3 y4) (laws_FnHexBack.l0 (k + 1) y0 y1 y2 y3 y4))
  | 0 => ⟨fun _ _ r h => by simp [laws_FnHexBack.j0] at h, fun _ _ _ r h => by simp [laws_FnHexBack.j1] at h, fun _ _ _ _ _ r h => by simp [laws_FnHexBack.l0] at h⟩
  | k + 1 => by
    obtain ⟨ih0, ih1, ih2⟩ := laws_FnHexBack.mono_l k
    refine ⟨?_, ?_, ?_⟩
    · intro y0 y1
      unfold laws_FnHexBack.j0
      repeat' first
      | (with_reducible exact ih0 _ _)
      | (with_reducible exact ih1 _ _ _)
      | (with_reducible exact ih2 _ _ _ _ _)
      | (with_reducible exact impl_HexText.mono _ _)
      | (with_reducible exact laws_hex.mono _ _)
      | (with_reducible exact LeO.refl _)
      | (with_reducible exact LeO.none _)
      | (with_reducible refine LeO.ite ?_ ?_)
      | (with_reducible refine LeO.bind ?_ (fun _ => ?_))
      | exact ih0 _ _
      | exact ih1 _ _ _
      | exact ih2 _ _ _ _ _
      | exact impl_HexText.mono _ _
      | exact laws_hex.mono _ _
      | exact LeO.none _
      | refine LeO.ite ?_ ?_
      | refine LeO.bind ?_ (fun _ => ?_)
    · intro y0 y1 y2
      unfold laws_FnHexBack.j1
      repeat' first
      | (with_reducible exact ih0 _ _)
      | (with_reducible exact ih1 _ _ _)
      | (with_reducible exact ih2 _ _ _ _ _)
      | (with_reducible exact impl_HexText.mono _ _)
      | (with_reducible exact laws_hex.mono _ _)
      | (with_reducible exact LeO.refl _)
      | (with_reducible exact LeO.none _)
      | (with_reducible refine LeO.ite ?_ ?_)
      | (with_reducible refine LeO.bind ?_ (fun _ => ?_))
      | exact ih0 _ _
      | exact ih1 _ _ _
      | exact ih2 _ _ _ _ _
      | exact impl_HexText.mono _ _
      | exact laws_hex.mono _ _
      | exact LeO.none _
      | refine LeO.ite ?_ ?_
      | refine LeO.bind ?_ (fun _ => ?_)
    · intro y0 y1 y2 y3 y4
      unfold laws_FnHexBack.l0
      repeat' first
      | (with_reducible exact ih0 _ _)
      | (with_reducible exact ih1 _ _ _)
      | (with_reducible exact ih2 _ _ _ _ _)
      | (with_reducible exact impl_HexText.mono _ _)
      | (with_reducible exact laws_hex.mono _ _)
      | (with_reducible exact LeO.refl _)
      | (with_reducible exact LeO.none _)
      | (with_reducible refine LeO.ite ?_ ?_)
      | (with_reducible refine LeO.bind ?_ (fun _ => ?_))
      | exact ih0 _ _
      | exact ih1 _ _ _
      | exact ih2 _ _ _ _ _
      | exact impl_HexText.mono _ _
      | exact laws_hex.mono _ _
      | exact LeO.none _
      | refine LeO.ite ?_ ?_
      | refine LeO.bind ?_ (fun _ => ?_)
theorem laws_FnHexBack.mono : ∀ a0 k, LeO (laws_FnHexBack.f k a0) (laws_FnHexBack.f (k + 1) a0) := by
  intro a0 k
  obtain ⟨ih0, ih1, ih2⟩ := laws_FnHexBack.mono_l k
  unfold laws_FnHexBack.f
  repeat' first
      | (with_reducible exact ih0 _ _)
      | (with_reducible exact ih1 _ _ _)
      | (with_reducible exact ih2 _ _ _ _ _)
      | (with_reducible exact impl_HexText.mono _ _)
      | (with_reducible exact laws_hex.mono _ _)
      | (with_reducible exact LeO.refl _)
      | (with_reducible exact LeO.none _)
      | (with_reducible refine LeO.ite ?_ ?_)
      | (with_reducible refine LeO.bind ?_ (fun _ => ?_))
      | exact ih0 _ _
      | exact ih1 _ _ _
      | exact ih2 _ _ _ _ _
      | exact impl_HexText.mono _ _
      | exact laws_hex.mono _ _
      | exact LeO.none _
      | refine LeO.ite ?_ ?_
      | refine LeO.bind ?_ (fun _ => ?_)
set_option maxHeartbeats 8000000 in
set_option maxRecDepth 100000 in
theorem laws_FnHexBack.calls (k : Nat) (a0 : Int) (r : Bool) (w : World) (h : laws_FnHexBack.f k a0 = some r) :
    Calls Try.prog 8 #[.int .u64 a0] w fun e w' => e = .returned (.bool r) ∧ Below w.heap.size w w' := by
  have HB := Aside0.mk (Below.refl w.heap.size w)
  have H : ((impl_HexText.f k 255).bind fun bt180 => (if bt180.1.toList = ([102, 102] : List UInt8) then (laws_FnHexBack.j0 k a0 (bt180.2 != 2)) else (laws_FnHexBack.j0 k a0 true))) = some r := h
  clear h
  replace H := Option.bind_eq_some_iff.mp H
  obtain ⟨⟨t180, t181⟩, A20, H⟩ := H
  replace H : (if t180.toList = ([102, 102] : List UInt8) then (laws_FnHexBack.j0 k a0 (t181 != 2)) else (laws_FnHexBack.j0 k a0 true)) = some r := H
  have A2 := Aside0.mk A20
  clear A20
  have HC3 := Aside0.mk H
  clear H
  go_enter Try.func8, Try.ntmps8
  go_upto_region 2 with (first | ((with_reducible refine gate_callee (f := 25) rfl ?_); refine goesL_ (some 10) rfl rfl Try.func25 (by kernel_rfl) rfl #[.int .u64 255] rfl (by (try simp only [List.map_toArray, List.map_cons, List.map_nil]); first | done | rfl | (simp only [List.length_drop, List.length_take]; rfl)) ?_; (with_reducible refine (impl_HexText.calls k 255 t180 t181 _ A2.out).mono ?_); rintro e w4 ⟨rfl, hb⟩; refine ⟨_, rfl, ?_⟩; have n0_ := Aside0.mk (below_step (by repeat (first | (with_reducible first | exact HB.out | apply below_alloc | apply pw_below_drewN | apply below_drew1) | exact HB.out)) hb); clear HB; have HB := n0_; clear n0_; (try clear hb); (try clear hb2); (try clear hk); (try clear hi)))
  (try simp only [Act.put, List.setIfInBounds_toArray, List.set_cons_zero, List.set_cons_succ])
  go_cut [18] (fun v18 wc => ∃ (kq : Nat) (x18_2 : Bool), v18 = .bool x18_2 ∧ Aside0 (laws_FnHexBack.j0 kq a0 x18_2 = some r) ∧ Aside0 (kq ≤ k) ∧ Aside0 (Below w.heap.size w wc))
  case first =>
    have H := HC3.out
    clear HC3
    by_cases c5 : t180.toList = ([102, 102] : List UInt8)
    · rw [if_pos c5] at H
      have c5b0 : (t180.toList == ([102, 102] : List UInt8)) = true := beq_iff_eq.mpr c5
      have c5b1 : (t180.toList != ([102, 102] : List UInt8)) = false := bne_eq_false_iff_eq.mpr c5
      clear c5
      (first | rw [c5b0] | (simp only [i64_w, i32_w]; rw [c5b0]) | skip)
      have H' := Aside0.mk H
      clear H
      go_wp2
      go_meet
      case rel => exact ⟨_, ((t181 != 2)), (by first | rfl | (simp; done) | (simp [*]; done) | (simp [Go.Proofs.YtjmcndbkmknemaaX.isEmpty_ne]; done)), H', ⟨by first | omega | exact Nat.le_refl _⟩, ⟨by repeat (first | (with_reducible first | exact HB.out | apply below_alloc | apply pw_below_drewN | apply below_drew1) | exact HB.out)⟩⟩
    · rw [if_neg c5] at H
      have c5b0 : (t180.toList == ([102, 102] : List UInt8)) = false := beq_eq_false_iff_ne.mpr c5
      have c5b1 : (t180.toList != ([102, 102] : List UInt8)) = true := bne_iff_ne.mpr c5
      (first | rw [c5b0] | (simp only [i64_w, i32_w]; rw [c5b0]) | skip)
      have H' := Aside0.mk H
      clear H
      go_wp2
      go_meet
      case rel => exact ⟨_, (true), (by first | rfl | (simp; done) | (simp [*]; done) | (simp [Go.Proofs.YtjmcndbkmknemaaX.isEmpty_ne]; done)), H', ⟨by first | omega | exact Nat.le_refl _⟩, ⟨by repeat (first | (with_reducible first | exact HB.out | apply below_alloc | apply pw_below_drewN | apply below_drew1) | exact HB.out)⟩⟩
  case rest =>
    clear HC3
    try clear c2
    try clear p2
    try clear c5
    try clear c5b0
    try clear c5b1
    obtain ⟨kq, x18_2, rfl, HA, HJ2, HB⟩ := hcut
    cases kq with
    | zero => exact absurd HA.out (by simp [laws_FnHexBack.j0])
    | succ kj2 =>
      have H := HA.out
      clear HA
      simp only [laws_FnHexBack.j0] at H
      by_cases c6 : x18_2 = true
      · subst c6
        have H1 : (some false) = some r := by rw [if_pos rfl] at H; exact H
        clear H
        have H := H1
        clear H1
        obtain rfl := Option.some.inj H
        go_wp2
        go_ret
        exact ⟨by first | rfl | (simp [errW_none, errW_some] <;> rfl) | (simp [*, errW_none, errW_some] <;> rfl), by repeat (first | (with_reducible first | exact HB.out | apply below_alloc | apply pw_below_drewN | apply below_drew1) | exact HB.out)⟩
      · replace c6 := Bool.eq_false_iff.mpr c6
        subst c6
        have H1 : ((impl_HexText.f kj2 a0).bind fun bt182 => (if bt182.2 = (bt182.1.size : Int) then (if bt182.1.toList = ([] : List UInt8) then (laws_FnHexBack.j1 kj2 a0 bt182.1 true) else (if (bt182.1.size : Int) > 16 then (laws_FnHexBack.j1 kj2 a0 bt182.1 true) else (if (bt182.1.size : Int) > 1 then (if 0 < (bt182.1.size : Int) then (laws_FnHexBack.j1 kj2 a0 bt182.1 ((bt bt182.1 0) == 48)) else (none)) else (laws_FnHexBack.j1 kj2 a0 bt182.1 false)))) else (laws_FnHexBack.j1 kj2 a0 bt182.1 true))) = some r := by rw [if_neg (show ¬ (false = true) by decide)] at H; exact H
        clear H
        have H := H1
        clear H1
        replace H := Option.bind_eq_some_iff.mp H
        obtain ⟨⟨t182, t183⟩, A70, H⟩ := H
        replace H : (if t183 = (t182.size : Int) then (if t182.toList = ([] : List UInt8) then (laws_FnHexBack.j1 kj2 a0 t182 true) else (if (t182.size : Int) > 16 then (laws_FnHexBack.j1 kj2 a0 t182 true) else (if (t182.size : Int) > 1 then (if 0 < (t182.size : Int) then (laws_FnHexBack.j1 kj2 a0 t182 ((bt t182 0) == 48)) else (none)) else (laws_FnHexBack.j1 kj2 a0 t182 false)))) else (laws_FnHexBack.j1 kj2 a0 t182 true)) = some r := H
        have A7 := Aside0.mk A70
        clear A70
        have HC8 := Aside0.mk H
        clear H
        go_upto_region 5 with (first | ((with_reducible refine gate_callee (f := 25) rfl ?_); refine goesL_ (some 21) rfl rfl Try.func25 (by kernel_rfl) rfl #[.int .u64 a0] rfl (by (try simp only [List.map_toArray, List.map_cons, List.map_nil]); first | done | rfl | (simp only [List.length_drop, List.length_take]; rfl)) ?_; (with_reducible refine (impl_HexText.calls kj2 a0 t182 t183 _ A7.out).mono ?_); rintro e w9 ⟨rfl, hb⟩; refine ⟨_, rfl, ?_⟩; have n0_ := Aside0.mk (below_step (by repeat (first | (with_reducible first | exact HB.out | apply below_alloc | apply pw_below_drewN | apply below_drew1) | exact HB.out)) hb); clear HB; have HB := n0_; clear n0_; (try clear hb); (try clear hb2); (try clear hk); (try clear hi)))
        (try simp only [Act.put, List.setIfInBounds_toArray, List.set_cons_zero, List.set_cons_succ])
        go_cut [46] (fun v46 wc => ∃ (kq : Nat) (x46_7 : Bool), v46 = .bool x46_7 ∧ Aside0 (laws_FnHexBack.j1 kq a0 t182 x46_7 = some r) ∧ Aside0 (kq ≤ kj2) ∧ Aside0 (Below w.heap.size w wc))
        case first =>
          have H := HC8.out
          clear HC8
          by_cases c10 : t183 = (t182.size : Int)
          · rw [if_pos c10] at H
            have c10b0 : (t183 == (t182.size : Int)) = true := beq_iff_eq.mpr c10
            have c10b1 : (t183 != (t182.size : Int)) = false := bne_eq_false_iff_eq.mpr c10
            clear c10
            (first | rw [c10b0] | (simp only [i64_w, i32_w]; rw [c10b0]) | skip)
            by_cases c11 : t182.toList = ([] : List UInt8)
            · rw [if_pos c11] at H
              have c11b0 : (t182.toList == ([] : List UInt8)) = true := beq_iff_eq.mpr c11
              have c11b1 : (t182.toList != ([] : List UInt8)) = false := bne_eq_false_iff_eq.mpr c11
              clear c11
              have H' := Aside0.mk H
              clear H
              go_wp2
              go_meet
              case rel => exact ⟨_, (true), (by first | rfl | (simp; done) | (simp [*]; done) | (simp [Go.Proofs.YtjmcndbkmknemaaX.isEmpty_ne]; done)), H', ⟨by have := HJ2.out; first | omega | exact Nat.le_refl _⟩, ⟨by repeat (first | (with_reducible first | exact HB.out | apply below_alloc | apply pw_below_drewN | apply below_drew1) | exact HB.out)⟩⟩
            · rw [if_neg c11] at H
              have c11b0 : (t182.toList == ([] : List UInt8)) = false := beq_eq_false_iff_ne.mpr c11
              have c11b1 : (t182.toList != ([] : List UInt8)) = true := bne_iff_ne.mpr c11
              by_cases c12 : (t182.size : Int) > 16
              · rw [if_pos c12] at H
                have c12b0 : decide (16 < (t182.size : Int)) = true := decide_eq_true c12
                have c12b1 : decide (16 < t182.size) = true := decide_eq_true (by omega)
                clear c12
                have H' := Aside0.mk H
                clear H
                go_wp2
                go_meet
                case rel => exact ⟨_, (true), (by first | rfl | (simp; done) | (simp [*]; done) | (simp [Go.Proofs.YtjmcndbkmknemaaX.isEmpty_ne]; done)), H', ⟨by have := HJ2.out; first | omega | exact Nat.le_refl _⟩, ⟨by repeat (first | (with_reducible first | exact HB.out | apply below_alloc | apply pw_below_drewN | apply below_drew1) | exact HB.out)⟩⟩
              · rw [if_neg c12] at H
                have c12b0 : decide (16 < (t182.size : Int)) = false := decide_eq_false c12
                have c12b1 : decide (16 < t182.size) = false := decide_eq_false (by omega)
                clear c12
                by_cases c13 : (t182.size : Int) > 1
                · rw [if_pos c13] at H
                  have c13b0 : decide (1 < (t182.size : Int)) = true := decide_eq_true c13
                  have c13b1 : decide (1 < t182.size) = true := decide_eq_true (by omega)
                  clear c13
                  by_cases c14 : 0 < (t182.size : Int)
                  · rw [if_pos c14] at H
                    have c14b0 : decide (0 < (t182.size : Int)) = true := decide_eq_true c14
                    have c14b1 : decide (0 < t182.size) = true := decide_eq_true (by omega)
                    clear c14
                    have H' := Aside0.mk H
                    clear H
                    have p15 : 0 ≤ (0 : Int) := (by omega)
                    have q15 : 0 < t182.size := (by have : (0 : Int) < (t182.size : Int) := of_decide_eq_true (by first | (with_reducible assumption) | assumption); omega)
                    have hx15 : ∀ h : 0 < t182.size, ((t182[0]'h).toNat : Int) = bt t182 0 := bt_at t182 0
                    clear p15
                    have qi15 : (0 < (t182.size : Int)) = True := eq_true (of_decide_eq_true (by first | (with_reducible assumption) | assumption))
                    replace q15 := eq_true q15
                    go_wp2
                    go_meet
                    case rel => exact ⟨_, (((bt t182 0) == 48)), (by first | rfl | (simp; done) | (simp [*]; done) | (simp [Go.Proofs.YtjmcndbkmknemaaX.isEmpty_ne]; done)), H', ⟨by have := HJ2.out; first | omega | exact Nat.le_refl _⟩, ⟨by repeat (first | (with_reducible first | exact HB.out | apply below_alloc | apply pw_below_drewN | apply below_drew1) | exact HB.out)⟩⟩
                  · rw [if_neg c14] at H
                    exact absurd H (by simp)
                · rw [if_neg c13] at H
                  have c13b0 : decide (1 < (t182.size : Int)) = false := decide_eq_false c13
                  have c13b1 : decide (1 < t182.size) = false := decide_eq_false (by omega)
                  clear c13
                  have H' := Aside0.mk H
                  clear H
                  go_wp2
                  go_meet
                  case rel => exact ⟨_, (false), (by first | rfl | (simp; done) | (simp [*]; done) | (simp [Go.Proofs.YtjmcndbkmknemaaX.isEmpty_ne]; done)), H', ⟨by have := HJ2.out; first | omega | exact Nat.le_refl _⟩, ⟨by repeat (first | (with_reducible first | exact HB.out | apply below_alloc | apply pw_below_drewN | apply below_drew1) | exact HB.out)⟩⟩
          · rw [if_neg c10] at H
            have c10b0 : (t183 == (t182.size : Int)) = false := beq_eq_false_iff_ne.mpr c10
            have c10b1 : (t183 != (t182.size : Int)) = true := bne_iff_ne.mpr c10
            (first | rw [c10b0] | (simp only [i64_w, i32_w]; rw [c10b0]) | skip)
            have H' := Aside0.mk H
            clear H
            go_wp2
            go_meet
            case rel => exact ⟨_, (true), (by first | rfl | (simp; done) | (simp [*]; done) | (simp [Go.Proofs.YtjmcndbkmknemaaX.isEmpty_ne]; done)), H', ⟨by have := HJ2.out; first | omega | exact Nat.le_refl _⟩, ⟨by repeat (first | (with_reducible first | exact HB.out | apply below_alloc | apply pw_below_drewN | apply below_drew1) | exact HB.out)⟩⟩
        case rest =>
          clear HC8
          try clear c1
          try clear p1
          try clear q1
          try clear hx1
          try clear qi1
          try clear c2
          try clear p2
          try clear c5
          try clear c5b0
          try clear c5b1
          try clear c6
          try clear c8
          try clear c10
          try clear c10b0
          try clear c10b1
          try clear c11
          try clear c11b0
          try clear c11b1
          try clear c12
          try clear c12b0
          try clear c12b1
          try clear c13
          try clear c13b0
          try clear c13b1
          try clear c14
          try clear c14b0
          try clear c14b1
          try clear p15
          try clear q15
          try clear hx15
          try clear qi15
          try clear p15
          try clear p2
          try clear q15
          obtain ⟨kq, x46_7, rfl, HA, HJ7, HB⟩ := hcut
          cases kq with
          | zero => exact absurd HA.out (by simp [laws_FnHexBack.j1])
          | succ kj7 =>
            have H := HA.out
            clear HA
            simp only [laws_FnHexBack.j1] at H
            by_cases c16 : x46_7 = true
            · subst c16
              have H1 : (some false) = some r := by rw [if_pos rfl] at H; exact H
              clear H
              have H := H1
              clear H1
              obtain rfl := Option.some.inj H
              go_wp2
              go_ret
              exact ⟨by first | rfl | (simp [errW_none, errW_some] <;> rfl) | (simp [*, errW_none, errW_some] <;> rfl), by repeat (first | (with_reducible first | exact HB.out | apply below_alloc | apply pw_below_drewN | apply below_drew1) | exact HB.out)⟩
            · replace c16 := Bool.eq_false_iff.mpr c16
              subst c16
              have H1 : (laws_FnHexBack.l0 kj7 a0 t182 0 (t182.size : Int) 0) = some r := by rw [if_neg (show ¬ (false = true) by decide)] at H; exact H
              clear H
              have H := H1
              clear H1
              have H' := Aside0.mk H
              clear H
              go_wp2
              go_loopg [7, 49] kj7 (fun kq v7 v49 w' => ∃ (x7_3 : Int) (x49_3 : Int), v7 = .int .u64 x7_3 ∧ v49 = .int .i64 x49_3 ∧ Aside0 (laws_FnHexBack.l0 kq a0 t182 x7_3 (t182.size : Int) x49_3 = some r) ∧ Aside0 (kq ≤ kj7) ∧ Aside0 (Below w.heap.size w w'))
              case atStart => exact ⟨(0), (0), (by first | rfl | (simp; done) | (simp [*]; done) | (simp [Go.Proofs.YtjmcndbkmknemaaX.isEmpty_ne]; done)), (by first | rfl | (simp; done) | (simp [*]; done) | (simp [Go.Proofs.YtjmcndbkmknemaaX.isEmpty_ne]; done)), H', ⟨Nat.le_refl _⟩, ⟨by repeat (first | (with_reducible first | exact HB.out | apply below_alloc | apply pw_below_drewN | apply below_drew1) | exact HB.out)⟩⟩
              case round =>
                clear H'
                try clear c1
                try clear p1
                try clear q1
                try clear hx1
                try clear qi1
                try clear c2
                try clear p2
                try clear c5
                try clear c5b0
                try clear c5b1
                try clear c6
                try clear c8
                try clear c10
                try clear c10b0
                try clear c10b1
                try clear c11
                try clear c11b0
                try clear c11b1
                try clear c12
                try clear c12b0
                try clear c12b1
                try clear c13
                try clear c13b0
                try clear c13b1
                try clear c14
                try clear c14b0
                try clear c14b1
                try clear p15
                try clear q15
                try clear hx15
                try clear qi15
                try clear c16
                try clear p1
                try clear p15
                try clear p2
                try clear q1
                try clear q15
                obtain ⟨x7_3, x49_3, rfl, rfl, HA, HK3, HB⟩ := hrel
                cases gk with
                | zero => exact absurd HA.out (by simp [laws_FnHexBack.l0])
                | succ k3 =>
                  have H := HA.out
                  clear HA
                  simp only [laws_FnHexBack.l0] at H
                  by_cases c17 : x49_3 < (t182.size : Int)
                  · rw [if_pos c17] at H
                    have c17b0 : decide (x49_3 < (t182.size : Int)) = true := decide_eq_true c17
                    clear c17
                    by_cases c18 : 0 ≤ x49_3
                    · rw [if_pos c18] at H
                      have c18b0 : decide (0 ≤ x49_3) = true := decide_eq_true c18
                      clear c18
                      by_cases c19 : x49_3 < (t182.size : Int)
                      · rw [if_pos c19] at H
                        have c19b0 : decide (x49_3 < (t182.size : Int)) = true := decide_eq_true c19
                        clear c19
                        replace H := Option.bind_eq_some_iff.mp H
                        obtain ⟨t184, A210, H⟩ := H
                        replace H : (if t184 < 0 then (some false) else (if (bt t182 x49_3) < 97 then (if (bt t182 x49_3) > 57 then (some false) else ((laws_hex.f k3 (bt t182 x49_3)).bind fun t185 => (laws_FnHexBack.l0 k3 a0 t182 (Go.bits .or .u64 (IntKind.u64.wrap (x7_3 * 16)) (IntKind.u64.wrap (t185))) (t182.size : Int) (wrap64 (x49_3 + 1))))) else ((laws_hex.f k3 (bt t182 x49_3)).bind fun t186 => (laws_FnHexBack.l0 k3 a0 t182 (Go.bits .or .u64 (IntKind.u64.wrap (x7_3 * 16)) (IntKind.u64.wrap (t186))) (t182.size : Int) (wrap64 (x49_3 + 1)))))) = some r := H
                        have A21 := Aside0.mk A210
                        clear A210
                        by_cases c22 : t184 < 0
                        · rw [if_pos c22] at H
                          have c22b0 : decide (t184 < 0) = true := decide_eq_true c22
                          clear c22
                          obtain rfl := Option.some.inj H
                          have p20 : 0 ≤ (x49_3 : Int) := of_decide_eq_true (by first | (with_reducible assumption) | assumption)
                          have q20 : x49_3 < (t182.size : Int) := of_decide_eq_true (by first | (with_reducible assumption) | assumption)
                          have hx20 := bt_at t182 x49_3
                          replace p20 := eq_true p20
                          replace q20 := eq_true q20
                          go_wp2_with (first | ((with_reducible refine gate_callee (f := 26) rfl ?_); refine goesL_ (some 55) rfl rfl Try.func26 (by kernel_rfl) rfl #[.int .u8 (bt t182 x49_3)] rfl (by (try simp only [List.map_toArray, List.map_cons, List.map_nil]); first | done | rfl | (simp only [List.length_drop, List.length_take]; rfl)) ?_; (with_reducible refine (laws_hex.calls k3 (bt t182 x49_3) t184 _ A21.out).mono ?_); rintro e w' ⟨rfl, ⟨nd, rfl⟩⟩; refine ⟨_, rfl, ?_⟩))
                          go_ret
                          exact ⟨by first | rfl | (simp [errW_none, errW_some] <;> rfl) | (simp [*, errW_none, errW_some] <;> rfl), by repeat (first | (with_reducible first | exact HB.out | apply below_alloc | apply pw_below_drewN | apply below_drew1) | exact HB.out)⟩
                        · rw [if_neg c22] at H
                          have c22b0 : decide (t184 < 0) = false := decide_eq_false c22
                          clear c22
                          by_cases c24 : (bt t182 x49_3) < 97
                          · rw [if_pos c24] at H
                            have c24b0 : decide ((bt t182 x49_3) < 97) = true := decide_eq_true c24
                            clear c24
                            by_cases c26 : (bt t182 x49_3) > 57
                            · rw [if_pos c26] at H
                              have c26b0 : decide (57 < (bt t182 x49_3)) = true := decide_eq_true c26
                              clear c26
                              obtain rfl := Option.some.inj H
                              have p20 : 0 ≤ (x49_3 : Int) := of_decide_eq_true (by first | (with_reducible assumption) | assumption)
                              have q20 : x49_3 < (t182.size : Int) := of_decide_eq_true (by first | (with_reducible assumption) | assumption)
                              have hx20 := bt_at t182 x49_3
                              replace p20 := eq_true p20
                              replace q20 := eq_true q20
                              go_wp2_with (first | ((with_reducible refine gate_callee (f := 26) rfl ?_); refine goesL_ (some 55) rfl rfl Try.func26 (by kernel_rfl) rfl #[.int .u8 (bt t182 x49_3)] rfl (by (try simp only [List.map_toArray, List.map_cons, List.map_nil]); first | done | rfl | (simp only [List.length_drop, List.length_take]; rfl)) ?_; (with_reducible refine (laws_hex.calls k3 (bt t182 x49_3) t184 _ A21.out).mono ?_); rintro e w' ⟨rfl, ⟨nd, rfl⟩⟩; refine ⟨_, rfl, ?_⟩; have p23 : 0 ≤ (x49_3 : Int) := of_decide_eq_true (by first | (with_reducible assumption) | assumption); have q23 : x49_3 < (t182.size : Int) := of_decide_eq_true (by first | (with_reducible assumption) | assumption); have hx23 := bt_at t182 x49_3; replace p23 := eq_true p23; replace q23 := eq_true q23; have p25 : 0 ≤ (x49_3 : Int) := of_decide_eq_true (by first | (with_reducible assumption) | assumption); have q25 : x49_3 < (t182.size : Int) := of_decide_eq_true (by first | (with_reducible assumption) | assumption); have hx25 := bt_at t182 x49_3; replace p25 := eq_true p25; replace q25 := eq_true q25))
                              go_ret
                              exact ⟨by first | rfl | (simp [errW_none, errW_some] <;> rfl) | (simp [*, errW_none, errW_some] <;> rfl), by repeat (first | (with_reducible first | exact HB.out | apply below_alloc | apply pw_below_drewN | apply below_drew1) | exact HB.out)⟩
                            · rw [if_neg c26] at H
                              have c26b0 : decide (57 < (bt t182 x49_3)) = false := decide_eq_false c26
                              clear c26
                              replace H := Option.bind_eq_some_iff.mp H
                              obtain ⟨t185, A280, H⟩ := H
                              replace H : (laws_FnHexBack.l0 k3 a0 t182 (Go.bits .or .u64 (IntKind.u64.wrap (x7_3 * 16)) (IntKind.u64.wrap (t185))) (t182.size : Int) (wrap64 (x49_3 + 1))) = some r := H
                              have A28 := Aside0.mk A280
                              clear A280
                              have H' := Aside0.mk H
                              clear H
                              have p20 : 0 ≤ (x49_3 : Int) := of_decide_eq_true (by first | (with_reducible assumption) | assumption)
                              have q20 : x49_3 < (t182.size : Int) := of_decide_eq_true (by first | (with_reducible assumption) | assumption)
                              have hx20 := bt_at t182 x49_3
                              replace p20 := eq_true p20
                              replace q20 := eq_true q20
                              go_wp2_with (first | ((with_reducible refine gate_callee (f := 26) rfl ?_); refine goesL_ (some 55) rfl rfl Try.func26 (by kernel_rfl) rfl #[.int .u8 (bt t182 x49_3)] rfl (by (try simp only [List.map_toArray, List.map_cons, List.map_nil]); first | done | rfl | (simp only [List.length_drop, List.length_take]; rfl)) ?_; (with_reducible refine (laws_hex.calls k3 (bt t182 x49_3) t184 _ A21.out).mono ?_); rintro e w' ⟨rfl, ⟨nd, rfl⟩⟩; refine ⟨_, rfl, ?_⟩; have p23 : 0 ≤ (x49_3 : Int) := of_decide_eq_true (by first | (with_reducible assumption) | assumption); have q23 : x49_3 < (t182.size : Int) := of_decide_eq_true (by first | (with_reducible assumption) | assumption); have hx23 := bt_at t182 x49_3; replace p23 := eq_true p23; replace q23 := eq_true q23; have p25 : 0 ≤ (x49_3 : Int) := of_decide_eq_true (by first | (with_reducible assumption) | assumption); have q25 : x49_3 < (t182.size : Int) := of_decide_eq_true (by first | (with_reducible assumption) | assumption); have hx25 := bt_at t182 x49_3; replace p25 := eq_true p25; replace q25 := eq_true q25; have p27 : 0 ≤ (x49_3 : Int) := of_decide_eq_true (by first | (with_reducible assumption) | assumption); have q27 : x49_3 < (t182.size : Int) := of_decide_eq_true (by first | (with_reducible assumption) | assumption); have hx27 := bt_at t182 x49_3; replace p27 := eq_true p27; replace q27 := eq_true q27) | ((with_reducible refine gate_callee (f := 26) rfl ?_); refine goesL_ (some 74) rfl rfl Try.func26 (by kernel_rfl) rfl #[.int .u8 (bt t182 x49_3)] rfl (by (try simp only [List.map_toArray, List.map_cons, List.map_nil]); first | done | rfl | (simp only [List.length_drop, List.length_take]; rfl)) ?_; (with_reducible refine (laws_hex.calls k3 (bt t182 x49_3) t185 _ A28.out).mono ?_); rintro e w' ⟨rfl, ⟨nd, rfl⟩⟩; refine ⟨_, rfl, ?_⟩))
                              go_roundg k3
                              case measure => have := HJ2.out; have := HJ7.out; have := HK3.out; omega
                              case rel => exact ⟨(Go.bits .or .u64 (IntKind.u64.wrap (x7_3 * 16)) (IntKind.u64.wrap (t185))), (wrap64 (x49_3 + 1)), (by first | rfl | (simp; done) | (simp [*]; done) | (simp [Go.Proofs.YtjmcndbkmknemaaX.isEmpty_ne]; done)), (by first | rfl | (simp; done) | (simp [*]; done) | (simp [Go.Proofs.YtjmcndbkmknemaaX.isEmpty_ne]; done)), H', ⟨by have := HJ2.out; have := HJ7.out; have := HK3.out; omega⟩, ⟨by repeat (first | (with_reducible first | exact HB.out | apply below_alloc | apply pw_below_drewN | apply below_drew1) | exact HB.out)⟩⟩
                          · rw [if_neg c24] at H
                            have c24b0 : decide ((bt t182 x49_3) < 97) = false := decide_eq_false c24
                            clear c24
                            replace H := Option.bind_eq_some_iff.mp H
                            obtain ⟨t186, A300, H⟩ := H
                            replace H : (laws_FnHexBack.l0 k3 a0 t182 (Go.bits .or .u64 (IntKind.u64.wrap (x7_3 * 16)) (IntKind.u64.wrap (t186))) (t182.size : Int) (wrap64 (x49_3 + 1))) = some r := H
                            have A30 := Aside0.mk A300
                            clear A300
                            have H' := Aside0.mk H
                            clear H
                            have p20 : 0 ≤ (x49_3 : Int) := of_decide_eq_true (by first | (with_reducible assumption) | assumption)
                            have q20 : x49_3 < (t182.size : Int) := of_decide_eq_true (by first | (with_reducible assumption) | assumption)
                            have hx20 := bt_at t182 x49_3
                            replace p20 := eq_true p20
                            replace q20 := eq_true q20
                            go_wp2_with (first | ((with_reducible refine gate_callee (f := 26) rfl ?_); refine goesL_ (some 55) rfl rfl Try.func26 (by kernel_rfl) rfl #[.int .u8 (bt t182 x49_3)] rfl (by (try simp only [List.map_toArray, List.map_cons, List.map_nil]); first | done | rfl | (simp only [List.length_drop, List.length_take]; rfl)) ?_; (with_reducible refine (laws_hex.calls k3 (bt t182 x49_3) t184 _ A21.out).mono ?_); rintro e w' ⟨rfl, ⟨nd, rfl⟩⟩; refine ⟨_, rfl, ?_⟩; have p23 : 0 ≤ (x49_3 : Int) := of_decide_eq_true (by first | (with_reducible assumption) | assumption); have q23 : x49_3 < (t182.size : Int) := of_decide_eq_true (by first | (with_reducible assumption) | assumption); have hx23 := bt_at t182 x49_3; replace p23 := eq_true p23; replace q23 := eq_true q23; have p29 : 0 ≤ (x49_3 : Int) := of_decide_eq_true (by first | (with_reducible assumption) | assumption); have q29 : x49_3 < (t182.size : Int) := of_decide_eq_true (by first | (with_reducible assumption) | assumption); have hx29 := bt_at t182 x49_3; replace p29 := eq_true p29; replace q29 := eq_true q29) | ((with_reducible refine gate_callee (f := 26) rfl ?_); refine goesL_ (some 74) rfl rfl Try.func26 (by kernel_rfl) rfl #[.int .u8 (bt t182 x49_3)] rfl (by (try simp only [List.map_toArray, List.map_cons, List.map_nil]); first | done | rfl | (simp only [List.length_drop, List.length_take]; rfl)) ?_; (with_reducible refine (laws_hex.calls k3 (bt t182 x49_3) t186 _ A30.out).mono ?_); rintro e w' ⟨rfl, ⟨nd, rfl⟩⟩; refine ⟨_, rfl, ?_⟩))
                            go_roundg k3
                            case measure => have := HJ2.out; have := HJ7.out; have := HK3.out; omega
                            case rel => exact ⟨(Go.bits .or .u64 (IntKind.u64.wrap (x7_3 * 16)) (IntKind.u64.wrap (t186))), (wrap64 (x49_3 + 1)), (by first | rfl | (simp; done) | (simp [*]; done) | (simp [Go.Proofs.YtjmcndbkmknemaaX.isEmpty_ne]; done)), (by first | rfl | (simp; done) | (simp [*]; done) | (simp [Go.Proofs.YtjmcndbkmknemaaX.isEmpty_ne]; done)), H', ⟨by have := HJ2.out; have := HJ7.out; have := HK3.out; omega⟩, ⟨by repeat (first | (with_reducible first | exact HB.out | apply below_alloc | apply pw_below_drewN | apply below_drew1) | exact HB.out)⟩⟩
                      · rw [if_neg c19] at H
                        exact absurd H (by simp)
                    · rw [if_neg c18] at H
                      exact absurd H (by simp)
                  · rw [if_neg c17] at H
                    have c17b0 : decide (x49_3 < (t182.size : Int)) = false := decide_eq_false c17
                    clear c17
                    obtain rfl := Option.some.inj H
                    go_wp2
                    go_ret
                    exact ⟨by first | rfl | (simp [errW_none, errW_some] <;> rfl) | (simp [*, errW_none, errW_some] <;> rfl), by repeat (first | (with_reducible first | exact HB.out | apply below_alloc | apply pw_below_drewN | apply below_drew1) | exact HB.out)⟩

/-- THE ONE PURE STATEMENT of laws_FnHexBack: yours. -/
def laws_FnHexBack.Pure : Prop := ∀ (a0 : Int), (Lit.int .u64 a0).wf = true → ∃ k, laws_FnHexBack.f k a0 = some true
theorem laws_FnHexBack.walk (P : laws_FnHexBack.Pure) (a0 : Int) (w : World) (w0 : (Lit.int .u64 a0).wf = true) :
    Calls Try.prog 8 #[.int .u64 a0] w fun e w' => e = .returned (.bool true) ∧ Below w.heap.size w w' := by
  obtain ⟨k, h⟩ := P a0 w0
  refine (laws_FnHexBack.calls k a0 true w h).mono ?_
  rintro e w' ⟨rfl, hd⟩
  exact ⟨rfl, hd⟩

end Go.Proofs.Ytjmcndbkmknemaa.Q
