-- Written by a program of this session out of the translation, with the kit's printer. Not trusted: Lean checks it.
import Derived.Test.YtjmcndbkmknemaaT7
import Derived.Test.YtjmcndbkmknemaaQ0
import Derived.Test.YtjmcndbkmknemaaQ11
import Derived.Test.YtjmcndbkmknemaaQ35
namespace Go.Proofs.Ytjmcndbkmknemaa.Q
open Go.RowKit Go.Proofs.YtjmcndbkmknemaaW.PrintWords Go.Proofs.YtjmcndbkmknemaaW.PrintLast Go.Proofs.YtjmcndbkmknemaaW.PrintMore
attribute [local go_sem] max2_int min2_int max_two min_two max_three min_three max_four min_four   -- for this text's walks alone
set_option linter.unusedVariables false
set_option linter.unusedSimpArgs false

/-! ### laws_holds: function 38 -/
def laws_holds.l0 : Nat → ByteArray → Int → Int → Int → Option (Bool)
  | 0, _, _, _, _ => none
  | k + 1, x0, x1, x7, x8 => if x8 < x7 then (if 0 ≤ x8 then (if x8 < (x0.size : Int) then (if (bt x0 x8) = x1 then (some true) else (laws_holds.l0 k x0 x1 x7 (wrap64 (x8 + 1)))) else (none)) else (none)) else (some false)
def laws_holds.f (k : Nat) (a0 : ByteArray) (a1 : Int) : Option (Bool) := laws_holds.l0 k a0 a1 (a0.size : Int) 0
theorem laws_holds.mono_l : ∀ k, (∀ y0 y1 y2 y3, LeO (laws_holds.l0 k y0 y1 y2 y3) (laws_holds.l0 (k + 1) y0 y1 y2 y3))
  | 0 => fun _ _ _ _ r h => by simp [laws_holds.l0] at h
  | k + 1 => by
    have ih0 := laws_holds.mono_l k
    · intro y0 y1 y2 y3
      unfold laws_holds.l0
      repeat' first
      | (with_reducible exact ih0 _ _ _ _)
      | (with_reducible exact LeO.refl _)
      | (with_reducible exact LeO.none _)
      | (with_reducible refine LeO.ite ?_ ?_)
      | (with_reducible refine LeO.bind ?_ (fun _ => ?_))
      | exact ih0 _ _ _ _
      | exact LeO.none _
      | refine LeO.ite ?_ ?_
      | refine LeO.bind ?_ (fun _ => ?_)
theorem laws_holds.mono : ∀ a0 a1 k, LeO (laws_holds.f k a0 a1) (laws_holds.f (k + 1) a0 a1) := by
  intro a0 a1 k
  have ih0 := laws_holds.mono_l k
  unfold laws_holds.f
  repeat' first
      | (with_reducible exact ih0 _ _ _ _)
      | (with_reducible exact LeO.refl _)
      | (with_reducible exact LeO.none _)
      | (with_reducible refine LeO.ite ?_ ?_)
      | (with_reducible refine LeO.bind ?_ (fun _ => ?_))
      | exact ih0 _ _ _ _
      | exact LeO.none _
      | refine LeO.ite ?_ ?_
      | refine LeO.bind ?_ (fun _ => ?_)
set_option maxHeartbeats 8000000 in
set_option maxRecDepth 100000 in
theorem laws_holds.calls (k : Nat) (a0 : ByteArray) (a1 : Int) (r : Bool) (w : World) (h : laws_holds.f k a0 a1 = some r) :
    Calls Try.prog 38 #[.string a0, .int .u8 a1] w fun e w' => e = .returned (.bool r) ∧ Drawn0 w w' := by
  have H : (laws_holds.l0 k a0 a1 (a0.size : Int) 0) = some r := h
  clear h
  have H' := Aside0.mk H
  clear H
  go_enter Try.func38, Try.ntmps38
  go_wp2
  go_loopg [8] k (fun kq v8 w' => ∃ (x8_1 : Int), v8 = .int .i64 x8_1 ∧ Aside0 (laws_holds.l0 kq a0 a1 (a0.size : Int) x8_1 = some r) ∧ Aside0 (kq ≤ k) ∧ Drawn0 w w')
  case atStart => exact ⟨(0), (by first | rfl | (simp; done) | (simp [*]; done) | (simp [Go.Proofs.YtjmcndbkmknemaaX.isEmpty_ne]; done)), H', ⟨Nat.le_refl _⟩, by repeat (first | exact Drawn0.refl _ | apply Drawn0.step)⟩
  case round =>
    clear H'
    try clear p2
    obtain ⟨x8_1, rfl, HA, HK1, ⟨m1, rfl⟩⟩ := hrel
    cases gk with
    | zero => exact absurd HA.out (by simp [laws_holds.l0])
    | succ k1 =>
      have H := HA.out
      clear HA
      simp only [laws_holds.l0] at H
      by_cases c3 : x8_1 < (a0.size : Int)
      · rw [if_pos c3] at H
        have c3b0 : decide (x8_1 < (a0.size : Int)) = true := decide_eq_true c3
        clear c3
        by_cases c4 : 0 ≤ x8_1
        · rw [if_pos c4] at H
          have c4b0 : decide (0 ≤ x8_1) = true := decide_eq_true c4
          clear c4
          by_cases c5 : x8_1 < (a0.size : Int)
          · rw [if_pos c5] at H
            have c5b0 : decide (x8_1 < (a0.size : Int)) = true := decide_eq_true c5
            clear c5
            by_cases c7 : (bt a0 x8_1) = a1
            · rw [if_pos c7] at H
              have c7b0 : ((bt a0 x8_1) == a1) = true := beq_iff_eq.mpr c7
              have c7b1 : ((bt a0 x8_1) != a1) = false := bne_eq_false_iff_eq.mpr c7
              clear c7
              obtain rfl := Option.some.inj H
              have p6 : 0 ≤ (x8_1 : Int) := of_decide_eq_true (by first | (with_reducible assumption) | assumption)
              have q6 : x8_1 < (a0.size : Int) := of_decide_eq_true (by first | (with_reducible assumption) | assumption)
              have hx6 := bt_at a0 x8_1
              replace p6 := eq_true p6
              replace q6 := eq_true q6
              go_wp2
              go_ret
              exact ⟨by first | rfl | (simp; done) | (simp [*]; done) | (simp [Go.Proofs.YtjmcndbkmknemaaX.isEmpty_ne]; done), by repeat (first | exact Drawn0.refl _ | apply Drawn0.step)⟩
            · rw [if_neg c7] at H
              have c7b0 : ((bt a0 x8_1) == a1) = false := beq_eq_false_iff_ne.mpr c7
              have c7b1 : ((bt a0 x8_1) != a1) = true := bne_iff_ne.mpr c7
              have H' := Aside0.mk H
              clear H
              have p6 : 0 ≤ (x8_1 : Int) := of_decide_eq_true (by first | (with_reducible assumption) | assumption)
              have q6 : x8_1 < (a0.size : Int) := of_decide_eq_true (by first | (with_reducible assumption) | assumption)
              have hx6 := bt_at a0 x8_1
              replace p6 := eq_true p6
              replace q6 := eq_true q6
              go_wp2
              go_roundg k1
              case measure => have := HK1.out; omega
              case rel => exact ⟨(wrap64 (x8_1 + 1)), (by first | rfl | (simp; done) | (simp [*]; done) | (simp [Go.Proofs.YtjmcndbkmknemaaX.isEmpty_ne]; done)), H', ⟨by have := HK1.out; omega⟩, by repeat (first | exact Drawn0.refl _ | apply Drawn0.step)⟩
          · rw [if_neg c5] at H
            exact absurd H (by simp)
        · rw [if_neg c4] at H
          exact absurd H (by simp)
      · rw [if_neg c3] at H
        have c3b0 : decide (x8_1 < (a0.size : Int)) = false := decide_eq_false c3
        clear c3
        obtain rfl := Option.some.inj H
        go_wp2
        go_ret
        exact ⟨by first | rfl | (simp; done) | (simp [*]; done) | (simp [Go.Proofs.YtjmcndbkmknemaaX.isEmpty_ne]; done), by repeat (first | exact Drawn0.refl _ | apply Drawn0.step)⟩

/-! ### laws_FnContentPlain: function 12 -/
def laws_FnContentPlain.f (k : Nat) (a0 : ByteArray) : Option (Bool) := if (a0.size : Int) > 2147483647 then (some true) else ((impl_ContentType.f k (⟨#[97, 47, 98]⟩ : ByteArray)).bind fun t286 => (if t286.toList = ([97, 47, 98] : List UInt8) then ((laws_holds.f k a0 43).bind fun t287 => (if t287 = true then (some true) else ((laws_short.f k (([a0] : List ByteArray))).bind fun t291 => (if t291 = true then ((impl_ContentType.f k a0).bind fun t292 => (some (t292.toList == a0.toList))) else (some true))))) else (some false)))
theorem laws_FnContentPlain.mono : ∀ a0 k, LeO (laws_FnContentPlain.f k a0) (laws_FnContentPlain.f (k + 1) a0) := by
  intro a0 k
  unfold laws_FnContentPlain.f
  repeat' first
      | (with_reducible exact impl_ContentType.mono _ _)
      | (with_reducible exact laws_holds.mono _ _ _)
      | (with_reducible exact laws_short.mono _ _)
      | (with_reducible exact LeO.refl _)
      | (with_reducible exact LeO.none _)
      | (with_reducible refine LeO.ite ?_ ?_)
      | (with_reducible refine LeO.bind ?_ (fun _ => ?_))
      | exact impl_ContentType.mono _ _
      | exact laws_holds.mono _ _ _
      | exact laws_short.mono _ _
      | exact LeO.none _
      | refine LeO.ite ?_ ?_
      | refine LeO.bind ?_ (fun _ => ?_)
set_option maxHeartbeats 8000000 in
set_option maxRecDepth 100000 in
theorem laws_FnContentPlain.calls (k : Nat) (a0 : ByteArray) (r : Bool) (w : World) (h : laws_FnContentPlain.f k a0 = some r) :
    Calls Try.prog 12 #[.string a0] w fun e w' => e = .returned (.bool r) ∧ Below w.heap.size w w' := by
  have HB := Aside0.mk (Below.refl w.heap.size w)
  have H : (if (a0.size : Int) > 2147483647 then (some true) else ((impl_ContentType.f k (⟨#[97, 47, 98]⟩ : ByteArray)).bind fun t286 => (if t286.toList = ([97, 47, 98] : List UInt8) then ((laws_holds.f k a0 43).bind fun t287 => (if t287 = true then (some true) else ((laws_short.f k (([a0] : List ByteArray))).bind fun t291 => (if t291 = true then ((impl_ContentType.f k a0).bind fun t292 => (some (t292.toList == a0.toList))) else (some true))))) else (some false)))) = some r := h
  clear h
  by_cases c2 : (a0.size : Int) > 2147483647
  · rw [if_pos c2] at H
    have c2b0 : decide (2147483647 < (a0.size : Int)) = true := decide_eq_true c2
    have c2b1 : decide (2147483647 < a0.size) = true := decide_eq_true (by omega)
    clear c2
    obtain rfl := Option.some.inj H
    go_enter Try.func12, Try.ntmps12
    go_wp2
    go_ret
    exact ⟨by first | rfl | (simp [errW_none, errW_some] <;> rfl) | (simp [*, errW_none, errW_some] <;> rfl), by repeat (first | (with_reducible first | exact HB.out | apply below_alloc | apply pw_below_drewN | apply below_drew1) | exact HB.out)⟩
  · rw [if_neg c2] at H
    have c2b0 : decide (2147483647 < (a0.size : Int)) = false := decide_eq_false c2
    have c2b1 : decide (2147483647 < a0.size) = false := decide_eq_false (by omega)
    clear c2
    replace H := Option.bind_eq_some_iff.mp H
    obtain ⟨t286, A30, H⟩ := H
    replace H : (if t286.toList = ([97, 47, 98] : List UInt8) then ((laws_holds.f k a0 43).bind fun t287 => (if t287 = true then (some true) else ((laws_short.f k (([a0] : List ByteArray))).bind fun t291 => (if t291 = true then ((impl_ContentType.f k a0).bind fun t292 => (some (t292.toList == a0.toList))) else (some true))))) else (some false)) = some r := H
    have A3 := Aside0.mk A30
    clear A30
    by_cases c4 : t286.toList = ([97, 47, 98] : List UInt8)
    · rw [if_pos c4] at H
      have c4b0 : (t286.toList == ([97, 47, 98] : List UInt8)) = true := beq_iff_eq.mpr c4
      have c4b1 : (t286.toList != ([97, 47, 98] : List UInt8)) = false := bne_eq_false_iff_eq.mpr c4
      clear c4
      replace H := Option.bind_eq_some_iff.mp H
      obtain ⟨t287, A50, H⟩ := H
      replace H : (if t287 = true then (some true) else ((laws_short.f k (([a0] : List ByteArray))).bind fun t291 => (if t291 = true then ((impl_ContentType.f k a0).bind fun t292 => (some (t292.toList == a0.toList))) else (some true)))) = some r := H
      have A5 := Aside0.mk A50
      clear A50
      by_cases c6 : t287 = true
      · subst c6
        have H1 : (some true) = some r := by rw [if_pos rfl] at H; exact H
        clear H
        have H := H1
        clear H1
        obtain rfl := Option.some.inj H
        go_enter Try.func12, Try.ntmps12
        go_wp2_with (first | ((with_reducible refine gate_callee (f := 37) rfl ?_); refine goesL_ (some 6) rfl rfl Try.func37 (by kernel_rfl) rfl #[.string (⟨#[97, 47, 98]⟩ : ByteArray)] rfl (by (try simp only [List.map_toArray, List.map_cons, List.map_nil]); first | done | rfl | (simp only [List.length_drop, List.length_take]; rfl)) ?_; (with_reducible refine (impl_ContentType.calls k (⟨#[97, 47, 98]⟩ : ByteArray) t286 _ A3.out).mono ?_); rintro e w' ⟨rfl, ⟨nd, rfl⟩⟩; refine ⟨_, rfl, ?_⟩) | ((with_reducible refine gate_callee (f := 38) rfl ?_); refine goesL_ (some 9) rfl rfl Try.func38 (by kernel_rfl) rfl #[.string a0, .int .u8 43] rfl (by (try simp only [List.map_toArray, List.map_cons, List.map_nil]); first | done | rfl | (simp only [List.length_drop, List.length_take]; rfl)) ?_; (with_reducible refine (laws_holds.calls k a0 43 true _ A5.out).mono ?_); rintro e w' ⟨rfl, ⟨nd, rfl⟩⟩; refine ⟨_, rfl, ?_⟩))
        go_ret
        exact ⟨by first | rfl | (simp [errW_none, errW_some] <;> rfl) | (simp [*, errW_none, errW_some] <;> rfl), by repeat (first | (with_reducible first | exact HB.out | apply below_alloc | apply pw_below_drewN | apply below_drew1) | exact HB.out)⟩
      · replace c6 := Bool.eq_false_iff.mpr c6
        subst c6
        have H1 : ((laws_short.f k (([a0] : List ByteArray))).bind fun t291 => (if t291 = true then ((impl_ContentType.f k a0).bind fun t292 => (some (t292.toList == a0.toList))) else (some true))) = some r := by rw [if_neg (show ¬ (false = true) by decide)] at H; exact H
        clear H
        have H := H1
        clear H1
        obtain ⟨y288, hy288⟩ : ∃ y_ : List ByteArray, y_ = (([a0] : List ByteArray)) := ⟨_, rfl⟩
        replace H : ((laws_short.f k y288).bind fun t291 => (if t291 = true then ((impl_ContentType.f k a0).bind fun t292 => (some (t292.toList == a0.toList))) else (some true))) = some r := by first | (rw [hy288]; with_reducible exact H) | (have H2_ := (Option.bind_some _ _).symm.trans H; rw [hy288]; with_reducible exact H2_) | (have H2_ := (Option.bind_some _ _).symm.trans H; with_reducible exact H2_) | with_reducible exact H | (rw [hy288]; exact H) | exact H
        have Ny288 := Aside0.mk hy288
        clear hy288
        replace H := Option.bind_eq_some_iff.mp H
        obtain ⟨t291, A70, H⟩ := H
        replace H : (if t291 = true then ((impl_ContentType.f k a0).bind fun t292 => (some (t292.toList == a0.toList))) else (some true)) = some r := H
        have A7 := Aside0.mk A70
        clear A70
        by_cases c8 : t291 = true
        · subst c8
          have H1 : ((impl_ContentType.f k a0).bind fun t292 => (some (t292.toList == a0.toList))) = some r := by rw [if_pos rfl] at H; exact H
          clear H
          have H := H1
          clear H1
          replace H := Option.bind_eq_some_iff.mp H
          obtain ⟨t292, A90, H⟩ := H
          replace H : (some (t292.toList == a0.toList)) = some r := H
          have A9 := Aside0.mk A90
          clear A90
          obtain rfl := Option.some.inj H
          go_enter Try.func12, Try.ntmps12
          go_wp2_with (first | ((with_reducible refine gate_callee (f := 37) rfl ?_); refine goesL_ (some 6) rfl rfl Try.func37 (by kernel_rfl) rfl #[.string (⟨#[97, 47, 98]⟩ : ByteArray)] rfl (by (try simp only [List.map_toArray, List.map_cons, List.map_nil]); first | done | rfl | (simp only [List.length_drop, List.length_take]; rfl)) ?_; (with_reducible refine (impl_ContentType.calls k (⟨#[97, 47, 98]⟩ : ByteArray) t286 _ A3.out).mono ?_); rintro e w' ⟨rfl, ⟨nd, rfl⟩⟩; refine ⟨_, rfl, ?_⟩) | ((with_reducible refine gate_callee (f := 38) rfl ?_); refine goesL_ (some 9) rfl rfl Try.func38 (by kernel_rfl) rfl #[.string a0, .int .u8 43] rfl (by (try simp only [List.map_toArray, List.map_cons, List.map_nil]); first | done | rfl | (simp only [List.length_drop, List.length_take]; rfl)) ?_; (with_reducible refine (laws_holds.calls k a0 43 false _ A5.out).mono ?_); rintro e w' ⟨rfl, ⟨nd, rfl⟩⟩; refine ⟨_, rfl, ?_⟩) | ((with_reducible refine gate_dst (N := 12) rfl ?_); (try (refine gate_guard (by rfl) ?_; dsimp only)); refine Kd.R_lit Kd.string _ 9 ?hg (N := 12) ?hd (xs := ([a0] : List ByteArray)) (inner := [.string a0]) (ok := fun _ => True) (okp := fun _ => True) ?hr ?hp (fun _ hk => hk) trivial (Below.refl _ _) (Nat.le_refl _) (by simp) ?_; (case hd => rfl); (case hg => rfl); (case hr => first | (go_simp; done) | (go_simp; rfl)); (case hp => exact (Reps.one (show Kd.M Kd.string _ _ _ a0 [.string a0] from rfl) (Reps.none _ _))); intro v289 w10 ho11 hb hg_ hnew_; clear hg_ hnew_; (first | rw [← Ny288.out] at ho11 | (simp only [Int.reduceToNat] at ho11; rw [← Ny288.out] at ho11)); have n0_ := Aside0.mk (Kd.R_lower ho11 (below_size (by repeat (first | (with_reducible first | exact HB.out | apply below_alloc | apply pw_below_drewN | apply below_drew1) | exact HB.out)))); have n1_ := Aside0.mk (below_step (by repeat (first | (with_reducible first | exact HB.out | apply below_alloc | apply pw_below_drewN | apply below_drew1) | exact HB.out)) hb); clear HB; have HO290 := n0_; have HB := n1_; clear n0_ n1_; clear hb ho11; obtain ⟨Ao12, co12, eo12⟩ := Kd.R_slice HO290.out; subst eo12) | (go_at_call 23; (with_reducible refine (laws_short.calls k _ _ y288 true _ ?side1 ?side2 A7.out).mono ?_); (case side1 => repeat (first | exact (Kd.R_reads' HO290.out).2.2 | (with_reducible refine Kd.C_alloc ?_ _) | (with_reducible refine Kd.C_drewN ?_ _) | (with_reducible refine Kd.C_drew ?_))); (case side2 => exact (Kd.R_reads' HO290.out).2.1); rintro e w' ⟨rfl, ⟨nd, rfl⟩⟩) | (go_at_call 37; (with_reducible refine (impl_ContentType.calls k a0 t292 _ A9.out).mono ?_); rintro e w' ⟨rfl, ⟨nd, rfl⟩⟩))
          go_ret
          exact ⟨by first | rfl | (simp [errW_none, errW_some] <;> rfl) | (simp [*, errW_none, errW_some] <;> rfl), by repeat (first | (with_reducible first | exact HB.out | apply below_alloc | apply pw_below_drewN | apply below_drew1) | exact HB.out)⟩
        · replace c8 := Bool.eq_false_iff.mpr c8
          subst c8
          have H1 : (some true) = some r := by rw [if_neg (show ¬ (false = true) by decide)] at H; exact H
          clear H
          have H := H1
          clear H1
          obtain rfl := Option.some.inj H
          go_enter Try.func12, Try.ntmps12
          go_wp2_with (first | ((with_reducible refine gate_callee (f := 37) rfl ?_); refine goesL_ (some 6) rfl rfl Try.func37 (by kernel_rfl) rfl #[.string (⟨#[97, 47, 98]⟩ : ByteArray)] rfl (by (try simp only [List.map_toArray, List.map_cons, List.map_nil]); first | done | rfl | (simp only [List.length_drop, List.length_take]; rfl)) ?_; (with_reducible refine (impl_ContentType.calls k (⟨#[97, 47, 98]⟩ : ByteArray) t286 _ A3.out).mono ?_); rintro e w' ⟨rfl, ⟨nd, rfl⟩⟩; refine ⟨_, rfl, ?_⟩) | ((with_reducible refine gate_callee (f := 38) rfl ?_); refine goesL_ (some 9) rfl rfl Try.func38 (by kernel_rfl) rfl #[.string a0, .int .u8 43] rfl (by (try simp only [List.map_toArray, List.map_cons, List.map_nil]); first | done | rfl | (simp only [List.length_drop, List.length_take]; rfl)) ?_; (with_reducible refine (laws_holds.calls k a0 43 false _ A5.out).mono ?_); rintro e w' ⟨rfl, ⟨nd, rfl⟩⟩; refine ⟨_, rfl, ?_⟩) | ((with_reducible refine gate_dst (N := 12) rfl ?_); (try (refine gate_guard (by rfl) ?_; dsimp only)); refine Kd.R_lit Kd.string _ 9 ?hg (N := 12) ?hd (xs := ([a0] : List ByteArray)) (inner := [.string a0]) (ok := fun _ => True) (okp := fun _ => True) ?hr ?hp (fun _ hk => hk) trivial (Below.refl _ _) (Nat.le_refl _) (by simp) ?_; (case hd => rfl); (case hg => rfl); (case hr => first | (go_simp; done) | (go_simp; rfl)); (case hp => exact (Reps.one (show Kd.M Kd.string _ _ _ a0 [.string a0] from rfl) (Reps.none _ _))); intro v289 w13 ho14 hb hg_ hnew_; clear hg_ hnew_; (first | rw [← Ny288.out] at ho14 | (simp only [Int.reduceToNat] at ho14; rw [← Ny288.out] at ho14)); have n0_ := Aside0.mk (Kd.R_lower ho14 (below_size (by repeat (first | (with_reducible first | exact HB.out | apply below_alloc | apply pw_below_drewN | apply below_drew1) | exact HB.out)))); have n1_ := Aside0.mk (below_step (by repeat (first | (with_reducible first | exact HB.out | apply below_alloc | apply pw_below_drewN | apply below_drew1) | exact HB.out)) hb); clear HB; have HO290 := n0_; have HB := n1_; clear n0_ n1_; clear hb ho14; obtain ⟨Ao15, co15, eo15⟩ := Kd.R_slice HO290.out; subst eo15) | (go_at_call 23; (with_reducible refine (laws_short.calls k _ _ y288 false _ ?side1 ?side2 A7.out).mono ?_); (case side1 => repeat (first | exact (Kd.R_reads' HO290.out).2.2 | (with_reducible refine Kd.C_alloc ?_ _) | (with_reducible refine Kd.C_drewN ?_ _) | (with_reducible refine Kd.C_drew ?_))); (case side2 => exact (Kd.R_reads' HO290.out).2.1); rintro e w' ⟨rfl, ⟨nd, rfl⟩⟩))
          go_ret
          exact ⟨by first | rfl | (simp [errW_none, errW_some] <;> rfl) | (simp [*, errW_none, errW_some] <;> rfl), by repeat (first | (with_reducible first | exact HB.out | apply below_alloc | apply pw_below_drewN | apply below_drew1) | exact HB.out)⟩
    · rw [if_neg c4] at H
      have c4b0 : (t286.toList == ([97, 47, 98] : List UInt8)) = false := beq_eq_false_iff_ne.mpr c4
      have c4b1 : (t286.toList != ([97, 47, 98] : List UInt8)) = true := bne_iff_ne.mpr c4
      obtain rfl := Option.some.inj H
      go_enter Try.func12, Try.ntmps12
      go_wp2_with (first | ((with_reducible refine gate_callee (f := 37) rfl ?_); refine goesL_ (some 6) rfl rfl Try.func37 (by kernel_rfl) rfl #[.string (⟨#[97, 47, 98]⟩ : ByteArray)] rfl (by (try simp only [List.map_toArray, List.map_cons, List.map_nil]); first | done | rfl | (simp only [List.length_drop, List.length_take]; rfl)) ?_; (with_reducible refine (impl_ContentType.calls k (⟨#[97, 47, 98]⟩ : ByteArray) t286 _ A3.out).mono ?_); rintro e w' ⟨rfl, ⟨nd, rfl⟩⟩; refine ⟨_, rfl, ?_⟩))
      go_ret
      exact ⟨by first | rfl | (simp [errW_none, errW_some] <;> rfl) | (simp [*, errW_none, errW_some] <;> rfl), by repeat (first | (with_reducible first | exact HB.out | apply below_alloc | apply pw_below_drewN | apply below_drew1) | exact HB.out)⟩

/-- THE ONE PURE STATEMENT of laws_FnContentPlain: yours. -/
def laws_FnContentPlain.Pure : Prop := ∀ (a0 : ByteArray), a0.size ≤ 140737488351232 → ∃ k, laws_FnContentPlain.f k a0 = some true
theorem laws_FnContentPlain.walk (P : laws_FnContentPlain.Pure) (a0 : ByteArray) (w : World) (w0 : a0.size ≤ 140737488351232) :
    Calls Try.prog 12 #[.string a0] w fun e w' => e = .returned (.bool true) ∧ Below w.heap.size w w' := by
  obtain ⟨k, h⟩ := P a0 w0
  refine (laws_FnContentPlain.calls k a0 true w h).mono ?_
  rintro e w' ⟨rfl, hd⟩
  exact ⟨rfl, hd⟩

-- NOT PRINTED: function 66 (irisast_HasAlias)

-- NOT PRINTED: function 58 (irisast_LookupParamType)

/-! ### impl_TypeOf: function 39 -/
-- USES T7
def impl_TypeOf.f (a0 : ByteArray) (l1 : List S45) : Option (ByteArray × ByteArray × Bool × Bool × Bool) := if l1.length ≤ 2147483647 then some (orNone (findO a0 l1)) else none
theorem impl_TypeOf.calls (a0 : ByteArray) (A1 : Option Addr) (c1 : Nat) (l1 : List (S45)) (r1 : ByteArray) (r2 : ByteArray) (r3 : Bool) (r4 : Bool) (r5 : Bool) (w : World) (hr1 : Kd.C k45 w A1 l1.length l1) (hc1 : l1.length ≤ c1) (h : impl_TypeOf.f a0 l1 = some (r1, r2, r3, r4, r5)) :
    Calls Try.prog 39 #[.string a0, .slice A1 l1.length c1] w fun e w' => e = .returned (.tuple #[.agg #[.string r1, .string r2, .bool r3, .bool r4], .bool r5]) ∧ Below w.heap.size w w' := by
  unfold impl_TypeOf.f at h
  split at h
  · rename_i hl
    exact typeOf_calls a0 A1 c1 l1 r1 r2 r3 r4 r5 w hr1 hc1 hl (Option.some.inj h)
  · cases h

end Go.Proofs.Ytjmcndbkmknemaa.Q
