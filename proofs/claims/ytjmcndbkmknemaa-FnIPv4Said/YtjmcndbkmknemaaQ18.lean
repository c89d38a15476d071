-- Written by a program of this session out of the translation, with the kit's printer. Not trusted: Lean checks it.
import Derived.Test.YtjmcndbkmknemaaQ0
import Derived.Test.YtjmcndbkmknemaaQ10
import Derived.Test.YtjmcndbkmknemaaQ16
import Derived.Test.YtjmcndbkmknemaaQ17
namespace Go.Proofs.Ytjmcndbkmknemaa.Q
open Go.RowKit Go.Proofs.YtjmcndbkmknemaaW.PrintWords Go.Proofs.YtjmcndbkmknemaaW.PrintLast Go.Proofs.YtjmcndbkmknemaaW.PrintMore
attribute [local go_sem] max2_int min2_int max_two min_two max_three min_three max_four min_four   -- for this text's walks alone
set_option linter.unusedVariables false
set_option linter.unusedSimpArgs false

/-! ### laws_FnIPv4: function 10 -/
def laws_FnIPv4.j0 : Nat → Int → Int → Int → Int → ByteArray → Bool → Option (Bool)
  | 0, _, _, _, _, _, _ => none
  | k + 1, x0, x1, x2, x3, x4, x18 => if x18 = true then (some false) else ((laws_short.f k (([x4] : List ByteArray))).bind fun t189 => (if t189 = true then ((laws_digits.f k (wrap64 (x0))).bind fun t190 => (if t190.size + 1 ≤ 9223372036854775807 then ((laws_digits.f k (wrap64 (x1))).bind fun t191 => (if t190.size + 1 + t191.size ≤ 9223372036854775807 then (if t190.size + 1 + t191.size + 1 ≤ 9223372036854775807 then ((laws_digits.f k (wrap64 (x2))).bind fun t192 => (if t190.size + 1 + t191.size + 1 + t192.size ≤ 9223372036854775807 then (if t190.size + 1 + t191.size + 1 + t192.size + 1 ≤ 9223372036854775807 then ((laws_digits.f k (wrap64 (x3))).bind fun t193 => (if t190.size + 1 + t191.size + 1 + t192.size + 1 + t193.size ≤ 9223372036854775807 then ((impl_IPv4.f k ((((((t190 ++ (⟨#[46]⟩ : ByteArray)) ++ t191) ++ (⟨#[46]⟩ : ByteArray)) ++ t192) ++ (⟨#[46]⟩ : ByteArray)) ++ t193)).bind fun t194 => (if t194 = true then ((impl_IPv4.f k x4).bind fun t195 => ((laws_four.f k x4).bind fun t196 => (some (t195 == t196)))) else (some false))) else (none))) else (none)) else (none))) else (none)) else (none))) else (none))) else (some true)))
def laws_FnIPv4.f (k : Nat) (a0 : Int) (a1 : Int) (a2 : Int) (a3 : Int) (a4 : ByteArray) : Option (Bool) := if (a4.size : Int) > 2147483647 then (some true) else ((impl_IPv4.f k (⟨#[49, 46, 50, 46, 51, 46, 52]⟩ : ByteArray)).bind fun t184 => (if t184 = true then ((impl_IPv4.f k (⟨#[49, 46, 50, 46, 51]⟩ : ByteArray)).bind fun t185 => (laws_FnIPv4.j0 k a0 a1 a2 a3 a4 t185)) else (laws_FnIPv4.j0 k a0 a1 a2 a3 a4 true)))
theorem laws_FnIPv4.mono_l : ∀ k, (∀ y0 y1 y2 y3 y4 y5, LeO (laws_FnIPv4.j0 k y0 y1 y2 y3 y4 y5) (laws_FnIPv4.j0 (k + 1) y0 y1 y2 y3 y4 y5))
  | 0 => fun _ _ _ _ _ _ r h => by simp [laws_FnIPv4.j0] at h
  | k + 1 => by
    have ih0 := laws_FnIPv4.mono_l k
    · intro y0 y1 y2 y3 y4 y5
      unfold laws_FnIPv4.j0
      repeat' first
      | (with_reducible exact ih0 _ _ _ _ _ _)
      | (with_reducible exact impl_IPv4.mono _ _)
      | (with_reducible exact laws_digits.mono _ _)
      | (with_reducible exact laws_four.mono _ _)
      | (with_reducible exact laws_short.mono _ _)
      | (with_reducible exact LeO.refl _)
      | (with_reducible exact LeO.none _)
      | (with_reducible refine LeO.ite ?_ ?_)
      | (with_reducible refine LeO.bind ?_ (fun _ => ?_))
      | exact ih0 _ _ _ _ _ _
      | exact impl_IPv4.mono _ _
      | exact laws_digits.mono _ _
      | exact laws_four.mono _ _
      | exact laws_short.mono _ _
      | exact LeO.none _
      | refine LeO.ite ?_ ?_
      | refine LeO.bind ?_ (fun _ => ?_)
theorem laws_FnIPv4.mono : ∀ a0 a1 a2 a3 a4 k, LeO (laws_FnIPv4.f k a0 a1 a2 a3 a4) (laws_FnIPv4.f (k + 1) a0 a1 a2 a3 a4) := by
  intro a0 a1 a2 a3 a4 k
  have ih0 := laws_FnIPv4.mono_l k
  unfold laws_FnIPv4.f
  repeat' first
      | (with_reducible exact ih0 _ _ _ _ _ _)
      | (with_reducible exact impl_IPv4.mono _ _)
      | (with_reducible exact laws_digits.mono _ _)
      | (with_reducible exact laws_four.mono _ _)
      | (with_reducible exact laws_short.mono _ _)
      | (with_reducible exact LeO.refl _)
      | (with_reducible exact LeO.none _)
      | (with_reducible refine LeO.ite ?_ ?_)
      | (with_reducible refine LeO.bind ?_ (fun _ => ?_))
      | exact ih0 _ _ _ _ _ _
      | exact impl_IPv4.mono _ _
      | exact laws_digits.mono _ _
      | exact laws_four.mono _ _
      | exact laws_short.mono _ _
      | exact LeO.none _
      | refine LeO.ite ?_ ?_
      | refine LeO.bind ?_ (fun _ => ?_)
set_option maxHeartbeats 8000000 in
set_option maxRecDepth 100000 in
theorem laws_FnIPv4.calls (k : Nat) (a0 : Int) (a1 : Int) (a2 : Int) (a3 : Int) (a4 : ByteArray) (r : Bool) (w : World) (h : laws_FnIPv4.f k a0 a1 a2 a3 a4 = some r) :
    Calls Try.prog 10 #[.int .u8 a0, .int .u8 a1, .int .u8 a2, .int .u8 a3, .string a4] w fun e w' => e = .returned (.bool r) ∧ Below w.heap.size w w' := by
  have HB := Aside0.mk (Below.refl w.heap.size w)
  have H : (if (a4.size : Int) > 2147483647 then (some true) else ((impl_IPv4.f k (⟨#[49, 46, 50, 46, 51, 46, 52]⟩ : ByteArray)).bind fun t184 => (if t184 = true then ((impl_IPv4.f k (⟨#[49, 46, 50, 46, 51]⟩ : ByteArray)).bind fun t185 => (laws_FnIPv4.j0 k a0 a1 a2 a3 a4 t185)) else (laws_FnIPv4.j0 k a0 a1 a2 a3 a4 true)))) = some r := h
  clear h
  by_cases c6 : (a4.size : Int) > 2147483647
  · rw [if_pos c6] at H
    have c6b0 : decide (2147483647 < (a4.size : Int)) = true := decide_eq_true c6
    have c6b1 : decide (2147483647 < a4.size) = true := decide_eq_true (by omega)
    clear c6
    obtain rfl := Option.some.inj H
    go_enter Try.func10, Try.ntmps10
    go_wp2
    go_ret
    exact ⟨by first | rfl | (simp [errW_none, errW_some] <;> rfl) | (simp [*, errW_none, errW_some] <;> rfl), by repeat (first | (with_reducible first | exact HB.out | apply below_alloc | apply pw_below_drewN | apply below_drew1) | exact HB.out)⟩
  · rw [if_neg c6] at H
    have c6b0 : decide (2147483647 < (a4.size : Int)) = false := decide_eq_false c6
    have c6b1 : decide (2147483647 < a4.size) = false := decide_eq_false (by omega)
    clear c6
    have HC7 := Aside0.mk H
    clear H
    go_enter Try.func10, Try.ntmps10
    go_upto_region 3 with (fail)
    go_cut [18] (fun v18 wc => ∃ (kq : Nat) (x18_6 : Bool), v18 = .bool x18_6 ∧ Aside0 (laws_FnIPv4.j0 kq a0 a1 a2 a3 a4 x18_6 = some r) ∧ Aside0 (kq ≤ k) ∧ Aside0 (Below w.heap.size w wc))
    case first =>
      have H := HC7.out
      clear HC7
      replace H := Option.bind_eq_some_iff.mp H
      obtain ⟨t184, A80, H⟩ := H
      replace H : (if t184 = true then ((impl_IPv4.f k (⟨#[49, 46, 50, 46, 51]⟩ : ByteArray)).bind fun t185 => (laws_FnIPv4.j0 k a0 a1 a2 a3 a4 t185)) else (laws_FnIPv4.j0 k a0 a1 a2 a3 a4 true)) = some r := H
      have A8 := Aside0.mk A80
      clear A80
      by_cases c9 : t184 = true
      · subst c9
        have H1 : ((impl_IPv4.f k (⟨#[49, 46, 50, 46, 51]⟩ : ByteArray)).bind fun t185 => (laws_FnIPv4.j0 k a0 a1 a2 a3 a4 t185)) = some r := by rw [if_pos rfl] at H; exact H
        clear H
        have H := H1
        clear H1
        replace H := Option.bind_eq_some_iff.mp H
        obtain ⟨t185, A100, H⟩ := H
        replace H : (laws_FnIPv4.j0 k a0 a1 a2 a3 a4 t185) = some r := H
        have A10 := Aside0.mk A100
        clear A100
        have H' := Aside0.mk H
        clear H
        go_wp2_with (first | ((with_reducible refine gate_callee (f := 30) rfl ?_); refine goesL_ (some 14) rfl rfl Try.func30 (by kernel_rfl) rfl #[.string (⟨#[49, 46, 50, 46, 51, 46, 52]⟩ : ByteArray)] rfl (by (try simp only [List.map_toArray, List.map_cons, List.map_nil]); first | done | rfl | (simp only [List.length_drop, List.length_take]; rfl)) ?_; (with_reducible refine (impl_IPv4.calls k (⟨#[49, 46, 50, 46, 51, 46, 52]⟩ : ByteArray) true _ A8.out).mono ?_); rintro e w' ⟨rfl, ⟨nd, rfl⟩⟩; refine ⟨_, rfl, ?_⟩) | (go_at_call 30; (with_reducible refine (impl_IPv4.calls k (⟨#[49, 46, 50, 46, 51]⟩ : ByteArray) t185 _ A10.out).mono ?_); rintro e w' ⟨rfl, ⟨nd, rfl⟩⟩))
        go_meet
        case rel => exact ⟨_, (t185), (by first | rfl | (simp; done) | (simp [*]; done) | (simp [Go.Proofs.YtjmcndbkmknemaaX.isEmpty_ne]; done)), H', ⟨by first | omega | exact Nat.le_refl _⟩, ⟨by repeat (first | (with_reducible first | exact HB.out | apply below_alloc | apply pw_below_drewN | apply below_drew1) | exact HB.out)⟩⟩
      · replace c9 := Bool.eq_false_iff.mpr c9
        subst c9
        have H1 : (laws_FnIPv4.j0 k a0 a1 a2 a3 a4 true) = some r := by rw [if_neg (show ¬ (false = true) by decide)] at H; exact H
        clear H
        have H := H1
        clear H1
        have H' := Aside0.mk H
        clear H
        go_wp2_with (first | ((with_reducible refine gate_callee (f := 30) rfl ?_); refine goesL_ (some 14) rfl rfl Try.func30 (by kernel_rfl) rfl #[.string (⟨#[49, 46, 50, 46, 51, 46, 52]⟩ : ByteArray)] rfl (by (try simp only [List.map_toArray, List.map_cons, List.map_nil]); first | done | rfl | (simp only [List.length_drop, List.length_take]; rfl)) ?_; (with_reducible refine (impl_IPv4.calls k (⟨#[49, 46, 50, 46, 51, 46, 52]⟩ : ByteArray) false _ A8.out).mono ?_); rintro e w' ⟨rfl, ⟨nd, rfl⟩⟩; refine ⟨_, rfl, ?_⟩))
        go_meet
        case rel => exact ⟨_, (true), (by first | rfl | (simp; done) | (simp [*]; done) | (simp [Go.Proofs.YtjmcndbkmknemaaX.isEmpty_ne]; done)), H', ⟨by first | omega | exact Nat.le_refl _⟩, ⟨by repeat (first | (with_reducible first | exact HB.out | apply below_alloc | apply pw_below_drewN | apply below_drew1) | exact HB.out)⟩⟩
    case rest =>
      clear HC7
      try clear c1
      try clear p2
      try clear c3
      try clear c6
      try clear c6b0
      try clear c6b1
      try clear c9
      try clear c10
      obtain ⟨kq, x18_6, rfl, HA, HJ6, HB⟩ := hcut
      cases kq with
      | zero => exact absurd HA.out (by simp [laws_FnIPv4.j0])
      | succ kj6 =>
        have H := HA.out
        clear HA
        simp only [laws_FnIPv4.j0] at H
        by_cases c11 : x18_6 = true
        · subst c11
          have H1 : (some false) = some r := by rw [if_pos rfl] at H; exact H
          clear H
          have H := H1
          clear H1
          obtain rfl := Option.some.inj H
          go_wp2
          go_ret
          exact ⟨by first | rfl | (simp [errW_none, errW_some] <;> rfl) | (simp [*, errW_none, errW_some] <;> rfl), by repeat (first | (with_reducible first | exact HB.out | apply below_alloc | apply pw_below_drewN | apply below_drew1) | exact HB.out)⟩
        · replace c11 := Bool.eq_false_iff.mpr c11
          subst c11
          have H1 : ((laws_short.f kj6 (([a4] : List ByteArray))).bind fun t189 => (if t189 = true then ((laws_digits.f kj6 (wrap64 (a0))).bind fun t190 => (if t190.size + 1 ≤ 9223372036854775807 then ((laws_digits.f kj6 (wrap64 (a1))).bind fun t191 => (if t190.size + 1 + t191.size ≤ 9223372036854775807 then (if t190.size + 1 + t191.size + 1 ≤ 9223372036854775807 then ((laws_digits.f kj6 (wrap64 (a2))).bind fun t192 => (if t190.size + 1 + t191.size + 1 + t192.size ≤ 9223372036854775807 then (if t190.size + 1 + t191.size + 1 + t192.size + 1 ≤ 9223372036854775807 then ((laws_digits.f kj6 (wrap64 (a3))).bind fun t193 => (if t190.size + 1 + t191.size + 1 + t192.size + 1 + t193.size ≤ 9223372036854775807 then ((impl_IPv4.f kj6 ((((((t190 ++ (⟨#[46]⟩ : ByteArray)) ++ t191) ++ (⟨#[46]⟩ : ByteArray)) ++ t192) ++ (⟨#[46]⟩ : ByteArray)) ++ t193)).bind fun t194 => (if t194 = true then ((impl_IPv4.f kj6 a4).bind fun t195 => ((laws_four.f kj6 a4).bind fun t196 => (some (t195 == t196)))) else (some false))) else (none))) else (none)) else (none))) else (none)) else (none))) else (none))) else (some true))) = some r := by rw [if_neg (show ¬ (false = true) by decide)] at H; exact H
          clear H
          have H := H1
          clear H1
          obtain ⟨y186, hy186⟩ : ∃ y_ : List ByteArray, y_ = (([a4] : List ByteArray)) := ⟨_, rfl⟩
          replace H : ((laws_short.f kj6 y186).bind fun t189 => (if t189 = true then ((laws_digits.f kj6 (wrap64 (a0))).bind fun t190 => (if t190.size + 1 ≤ 9223372036854775807 then ((laws_digits.f kj6 (wrap64 (a1))).bind fun t191 => (if t190.size + 1 + t191.size ≤ 9223372036854775807 then (if t190.size + 1 + t191.size + 1 ≤ 9223372036854775807 then ((laws_digits.f kj6 (wrap64 (a2))).bind fun t192 => (if t190.size + 1 + t191.size + 1 + t192.size ≤ 9223372036854775807 then (if t190.size + 1 + t191.size + 1 + t192.size + 1 ≤ 9223372036854775807 then ((laws_digits.f kj6 (wrap64 (a3))).bind fun t193 => (if t190.size + 1 + t191.size + 1 + t192.size + 1 + t193.size ≤ 9223372036854775807 then ((impl_IPv4.f kj6 ((((((t190 ++ (⟨#[46]⟩ : ByteArray)) ++ t191) ++ (⟨#[46]⟩ : ByteArray)) ++ t192) ++ (⟨#[46]⟩ : ByteArray)) ++ t193)).bind fun t194 => (if t194 = true then ((impl_IPv4.f kj6 a4).bind fun t195 => ((laws_four.f kj6 a4).bind fun t196 => (some (t195 == t196)))) else (some false))) else (none))) else (none)) else (none))) else (none)) else (none))) else (none))) else (some true))) = some r := by first | (rw [hy186]; with_reducible exact H) | (have H2_ := (Option.bind_some _ _).symm.trans H; rw [hy186]; with_reducible exact H2_) | (have H2_ := (Option.bind_some _ _).symm.trans H; with_reducible exact H2_) | with_reducible exact H | (rw [hy186]; exact H) | exact H
          have Ny186 := Aside0.mk hy186
          clear hy186
          replace H := Option.bind_eq_some_iff.mp H
          obtain ⟨t189, A120, H⟩ := H
          replace H : (if t189 = true then ((laws_digits.f kj6 (wrap64 (a0))).bind fun t190 => (if t190.size + 1 ≤ 9223372036854775807 then ((laws_digits.f kj6 (wrap64 (a1))).bind fun t191 => (if t190.size + 1 + t191.size ≤ 9223372036854775807 then (if t190.size + 1 + t191.size + 1 ≤ 9223372036854775807 then ((laws_digits.f kj6 (wrap64 (a2))).bind fun t192 => (if t190.size + 1 + t191.size + 1 + t192.size ≤ 9223372036854775807 then (if t190.size + 1 + t191.size + 1 + t192.size + 1 ≤ 9223372036854775807 then ((laws_digits.f kj6 (wrap64 (a3))).bind fun t193 => (if t190.size + 1 + t191.size + 1 + t192.size + 1 + t193.size ≤ 9223372036854775807 then ((impl_IPv4.f kj6 ((((((t190 ++ (⟨#[46]⟩ : ByteArray)) ++ t191) ++ (⟨#[46]⟩ : ByteArray)) ++ t192) ++ (⟨#[46]⟩ : ByteArray)) ++ t193)).bind fun t194 => (if t194 = true then ((impl_IPv4.f kj6 a4).bind fun t195 => ((laws_four.f kj6 a4).bind fun t196 => (some (t195 == t196)))) else (some false))) else (none))) else (none)) else (none))) else (none)) else (none))) else (none))) else (some true)) = some r := H
          have A12 := Aside0.mk A120
          clear A120
          by_cases c13 : t189 = true
          · subst c13
            have H1 : ((laws_digits.f kj6 (wrap64 (a0))).bind fun t190 => (if t190.size + 1 ≤ 9223372036854775807 then ((laws_digits.f kj6 (wrap64 (a1))).bind fun t191 => (if t190.size + 1 + t191.size ≤ 9223372036854775807 then (if t190.size + 1 + t191.size + 1 ≤ 9223372036854775807 then ((laws_digits.f kj6 (wrap64 (a2))).bind fun t192 => (if t190.size + 1 + t191.size + 1 + t192.size ≤ 9223372036854775807 then (if t190.size + 1 + t191.size + 1 + t192.size + 1 ≤ 9223372036854775807 then ((laws_digits.f kj6 (wrap64 (a3))).bind fun t193 => (if t190.size + 1 + t191.size + 1 + t192.size + 1 + t193.size ≤ 9223372036854775807 then ((impl_IPv4.f kj6 ((((((t190 ++ (⟨#[46]⟩ : ByteArray)) ++ t191) ++ (⟨#[46]⟩ : ByteArray)) ++ t192) ++ (⟨#[46]⟩ : ByteArray)) ++ t193)).bind fun t194 => (if t194 = true then ((impl_IPv4.f kj6 a4).bind fun t195 => ((laws_four.f kj6 a4).bind fun t196 => (some (t195 == t196)))) else (some false))) else (none))) else (none)) else (none))) else (none)) else (none))) else (none))) = some r := by rw [if_pos rfl] at H; exact H
            clear H
            have H := H1
            clear H1
            replace H := Option.bind_eq_some_iff.mp H
            obtain ⟨t190, A140, H⟩ := H
            replace H : (if t190.size + 1 ≤ 9223372036854775807 then ((laws_digits.f kj6 (wrap64 (a1))).bind fun t191 => (if t190.size + 1 + t191.size ≤ 9223372036854775807 then (if t190.size + 1 + t191.size + 1 ≤ 9223372036854775807 then ((laws_digits.f kj6 (wrap64 (a2))).bind fun t192 => (if t190.size + 1 + t191.size + 1 + t192.size ≤ 9223372036854775807 then (if t190.size + 1 + t191.size + 1 + t192.size + 1 ≤ 9223372036854775807 then ((laws_digits.f kj6 (wrap64 (a3))).bind fun t193 => (if t190.size + 1 + t191.size + 1 + t192.size + 1 + t193.size ≤ 9223372036854775807 then ((impl_IPv4.f kj6 ((((((t190 ++ (⟨#[46]⟩ : ByteArray)) ++ t191) ++ (⟨#[46]⟩ : ByteArray)) ++ t192) ++ (⟨#[46]⟩ : ByteArray)) ++ t193)).bind fun t194 => (if t194 = true then ((impl_IPv4.f kj6 a4).bind fun t195 => ((laws_four.f kj6 a4).bind fun t196 => (some (t195 == t196)))) else (some false))) else (none))) else (none)) else (none))) else (none)) else (none))) else (none)) = some r := H
            have A14 := Aside0.mk A140
            clear A140
            by_cases c15 : t190.size + 1 ≤ 9223372036854775807
            · rw [if_pos c15] at H
              have c15b0 := eq_true c15
              have c15b1 : decide (t190.size + 1 ≤ 9223372036854775807) = true := decide_eq_true c15
              try have c15b2 : (9223372036854775807 < t190.size + 1) = False := eq_false (Nat.not_lt.2 c15)
              replace H := Option.bind_eq_some_iff.mp H
              obtain ⟨t191, A160, H⟩ := H
              replace H : (if t190.size + 1 + t191.size ≤ 9223372036854775807 then (if t190.size + 1 + t191.size + 1 ≤ 9223372036854775807 then ((laws_digits.f kj6 (wrap64 (a2))).bind fun t192 => (if t190.size + 1 + t191.size + 1 + t192.size ≤ 9223372036854775807 then (if t190.size + 1 + t191.size + 1 + t192.size + 1 ≤ 9223372036854775807 then ((laws_digits.f kj6 (wrap64 (a3))).bind fun t193 => (if t190.size + 1 + t191.size + 1 + t192.size + 1 + t193.size ≤ 9223372036854775807 then ((impl_IPv4.f kj6 ((((((t190 ++ (⟨#[46]⟩ : ByteArray)) ++ t191) ++ (⟨#[46]⟩ : ByteArray)) ++ t192) ++ (⟨#[46]⟩ : ByteArray)) ++ t193)).bind fun t194 => (if t194 = true then ((impl_IPv4.f kj6 a4).bind fun t195 => ((laws_four.f kj6 a4).bind fun t196 => (some (t195 == t196)))) else (some false))) else (none))) else (none)) else (none))) else (none)) else (none)) = some r := H
              have A16 := Aside0.mk A160
              clear A160
              by_cases c17 : t190.size + 1 + t191.size ≤ 9223372036854775807
              · rw [if_pos c17] at H
                have c17b0 := eq_true c17
                have c17b1 : decide (t190.size + 1 + t191.size ≤ 9223372036854775807) = true := decide_eq_true c17
                try have c17b2 : (9223372036854775807 < t190.size + 1 + t191.size) = False := eq_false (Nat.not_lt.2 c17)
                by_cases c18 : t190.size + 1 + t191.size + 1 ≤ 9223372036854775807
                · rw [if_pos c18] at H
                  have c18b0 := eq_true c18
                  have c18b1 : decide (t190.size + 1 + t191.size + 1 ≤ 9223372036854775807) = true := decide_eq_true c18
                  try have c18b2 : (9223372036854775807 < t190.size + 1 + t191.size + 1) = False := eq_false (Nat.not_lt.2 c18)
                  replace H := Option.bind_eq_some_iff.mp H
                  obtain ⟨t192, A190, H⟩ := H
                  replace H : (if t190.size + 1 + t191.size + 1 + t192.size ≤ 9223372036854775807 then (if t190.size + 1 + t191.size + 1 + t192.size + 1 ≤ 9223372036854775807 then ((laws_digits.f kj6 (wrap64 (a3))).bind fun t193 => (if t190.size + 1 + t191.size + 1 + t192.size + 1 + t193.size ≤ 9223372036854775807 then ((impl_IPv4.f kj6 ((((((t190 ++ (⟨#[46]⟩ : ByteArray)) ++ t191) ++ (⟨#[46]⟩ : ByteArray)) ++ t192) ++ (⟨#[46]⟩ : ByteArray)) ++ t193)).bind fun t194 => (if t194 = true then ((impl_IPv4.f kj6 a4).bind fun t195 => ((laws_four.f kj6 a4).bind fun t196 => (some (t195 == t196)))) else (some false))) else (none))) else (none)) else (none)) = some r := H
                  have A19 := Aside0.mk A190
                  clear A190
                  by_cases c20 : t190.size + 1 + t191.size + 1 + t192.size ≤ 9223372036854775807
                  · rw [if_pos c20] at H
                    have c20b0 := eq_true c20
                    have c20b1 : decide (t190.size + 1 + t191.size + 1 + t192.size ≤ 9223372036854775807) = true := decide_eq_true c20
                    try have c20b2 : (9223372036854775807 < t190.size + 1 + t191.size + 1 + t192.size) = False := eq_false (Nat.not_lt.2 c20)
                    by_cases c21 : t190.size + 1 + t191.size + 1 + t192.size + 1 ≤ 9223372036854775807
                    · rw [if_pos c21] at H
                      have c21b0 := eq_true c21
                      have c21b1 : decide (t190.size + 1 + t191.size + 1 + t192.size + 1 ≤ 9223372036854775807) = true := decide_eq_true c21
                      try have c21b2 : (9223372036854775807 < t190.size + 1 + t191.size + 1 + t192.size + 1) = False := eq_false (Nat.not_lt.2 c21)
                      replace H := Option.bind_eq_some_iff.mp H
                      obtain ⟨t193, A220, H⟩ := H
                      replace H : (if t190.size + 1 + t191.size + 1 + t192.size + 1 + t193.size ≤ 9223372036854775807 then ((impl_IPv4.f kj6 ((((((t190 ++ (⟨#[46]⟩ : ByteArray)) ++ t191) ++ (⟨#[46]⟩ : ByteArray)) ++ t192) ++ (⟨#[46]⟩ : ByteArray)) ++ t193)).bind fun t194 => (if t194 = true then ((impl_IPv4.f kj6 a4).bind fun t195 => ((laws_four.f kj6 a4).bind fun t196 => (some (t195 == t196)))) else (some false))) else (none)) = some r := H
                      have A22 := Aside0.mk A220
                      clear A220
                      by_cases c23 : t190.size + 1 + t191.size + 1 + t192.size + 1 + t193.size ≤ 9223372036854775807
                      · rw [if_pos c23] at H
                        have c23b0 := eq_true c23
                        have c23b1 : decide (t190.size + 1 + t191.size + 1 + t192.size + 1 + t193.size ≤ 9223372036854775807) = true := decide_eq_true c23
                        try have c23b2 : (9223372036854775807 < t190.size + 1 + t191.size + 1 + t192.size + 1 + t193.size) = False := eq_false (Nat.not_lt.2 c23)
                        replace H := Option.bind_eq_some_iff.mp H
                        obtain ⟨t194, A240, H⟩ := H
                        replace H : (if t194 = true then ((impl_IPv4.f kj6 a4).bind fun t195 => ((laws_four.f kj6 a4).bind fun t196 => (some (t195 == t196)))) else (some false)) = some r := H
                        have A24 := Aside0.mk A240
                        clear A240
                        by_cases c25 : t194 = true
                        · subst c25
                          have H1 : ((impl_IPv4.f kj6 a4).bind fun t195 => ((laws_four.f kj6 a4).bind fun t196 => (some (t195 == t196)))) = some r := by rw [if_pos rfl] at H; exact H
                          clear H
                          have H := H1
                          clear H1
                          replace H := Option.bind_eq_some_iff.mp H
                          obtain ⟨t195, A260, H⟩ := H
                          replace H : ((laws_four.f kj6 a4).bind fun t196 => (some (t195 == t196))) = some r := H
                          have A26 := Aside0.mk A260
                          clear A260
                          replace H := Option.bind_eq_some_iff.mp H
                          obtain ⟨t196, A270, H⟩ := H
                          replace H : (some (t195 == t196)) = some r := H
                          have A27 := Aside0.mk A270
                          clear A270
                          obtain rfl := Option.some.inj H
                          go_wp2_with (first | ((with_reducible refine gate_dst (N := 20) rfl ?_); refine Kd.R_lit Kd.string _ 9 ?hg (N := 20) ?hd (xs := ([a4] : List ByteArray)) (inner := [.string a4]) (ok := fun _ => True) (okp := fun _ => True) ?hr ?hp (fun _ hk => hk) trivial (Below.refl _ _) (Nat.le_refl _) (by simp) ?_; (case hd => rfl); (case hg => rfl); (case hr => first | (go_simp; done) | (go_simp; rfl)); (case hp => exact (Reps.one (show Kd.M Kd.string _ _ _ a4 [.string a4] from rfl) (Reps.none _ _))); intro v187 w28 ho29 hb hg_ hnew_; clear hg_ hnew_; (first | rw [← Ny186.out] at ho29 | (simp only [Int.reduceToNat] at ho29; rw [← Ny186.out] at ho29)); have n0_ := Aside0.mk (Kd.R_lower ho29 (below_size (by repeat (first | (with_reducible first | exact HB.out | apply below_alloc | apply pw_below_drewN | apply below_drew1) | exact HB.out)))); have n1_ := Aside0.mk (below_step (by repeat (first | (with_reducible first | exact HB.out | apply below_alloc | apply pw_below_drewN | apply below_drew1) | exact HB.out)) hb); clear HB; have HO188 := n0_; have HB := n1_; clear n0_ n1_; clear hb ho29; obtain ⟨Ao30, co30, eo30⟩ := Kd.R_slice HO188.out; subst eo30) | ((with_reducible refine gate_callee (f := 23) rfl ?_); refine goesL_ (some 21) rfl rfl Try.func23 (by kernel_rfl) rfl #[.slice Ao30 y186.length co30] rfl (by (try simp only [List.map_toArray, List.map_cons, List.map_nil]); first | done | rfl | (simp only [List.length_drop, List.length_take]; rfl)) ?_; (with_reducible refine (laws_short.calls kj6 _ _ y186 true _ ?side1 ?side2 A12.out).mono ?_); (case side1 => repeat (first | exact (Kd.R_reads' HO188.out).2.2 | (with_reducible refine Kd.C_alloc ?_ _) | (with_reducible refine Kd.C_drewN ?_ _) | (with_reducible refine Kd.C_drew ?_))); (case side2 => exact (Kd.R_reads' HO188.out).2.1); rintro e w' ⟨rfl, ⟨nd, rfl⟩⟩; refine ⟨_, rfl, ?_⟩) | ((with_reducible refine gate_callee (f := 31) rfl ?_); refine goesL_ (some 25) rfl rfl Try.func31 (by kernel_rfl) rfl #[.int .i64 (wrap64 (a0))] rfl (by (try simp only [List.map_toArray, List.map_cons, List.map_nil]); first | done | rfl | (simp only [List.length_drop, List.length_take]; rfl)) ?_; (with_reducible refine (laws_digits.calls kj6 (wrap64 (a0)) t190 _ A14.out).mono ?_); rintro e w' ⟨rfl, ⟨nd, rfl⟩⟩; refine ⟨_, rfl, ?_⟩) | ((with_reducible refine gate_callee (f := 31) rfl ?_); refine goesL_ (some 29) rfl rfl Try.func31 (by kernel_rfl) rfl #[.int .i64 (wrap64 (a1))] rfl (by (try simp only [List.map_toArray, List.map_cons, List.map_nil]); first | done | rfl | (simp only [List.length_drop, List.length_take]; rfl)) ?_; (with_reducible refine (laws_digits.calls kj6 (wrap64 (a1)) t191 _ A16.out).mono ?_); rintro e w' ⟨rfl, ⟨nd, rfl⟩⟩; refine ⟨_, rfl, ?_⟩) | ((with_reducible refine gate_callee (f := 31) rfl ?_); refine goesL_ (some 34) rfl rfl Try.func31 (by kernel_rfl) rfl #[.int .i64 (wrap64 (a2))] rfl (by (try simp only [List.map_toArray, List.map_cons, List.map_nil]); first | done | rfl | (simp only [List.length_drop, List.length_take]; rfl)) ?_; (with_reducible refine (laws_digits.calls kj6 (wrap64 (a2)) t192 _ A19.out).mono ?_); rintro e w' ⟨rfl, ⟨nd, rfl⟩⟩; refine ⟨_, rfl, ?_⟩) | ((with_reducible refine gate_callee (f := 31) rfl ?_); refine goesL_ (some 39) rfl rfl Try.func31 (by kernel_rfl) rfl #[.int .i64 (wrap64 (a3))] rfl (by (try simp only [List.map_toArray, List.map_cons, List.map_nil]); first | done | rfl | (simp only [List.length_drop, List.length_take]; rfl)) ?_; (with_reducible refine (laws_digits.calls kj6 (wrap64 (a3)) t193 _ A22.out).mono ?_); rintro e w' ⟨rfl, ⟨nd, rfl⟩⟩; refine ⟨_, rfl, ?_⟩) | ((with_reducible refine gate_callee (f := 30) rfl ?_); refine goesL_ (some 41) rfl rfl Try.func30 (by kernel_rfl) rfl #[.string ((((((t190 ++ (⟨#[46]⟩ : ByteArray)) ++ t191) ++ (⟨#[46]⟩ : ByteArray)) ++ t192) ++ (⟨#[46]⟩ : ByteArray)) ++ t193)] rfl (by (try simp only [List.map_toArray, List.map_cons, List.map_nil]); first | done | rfl | (simp only [List.length_drop, List.length_take]; rfl)) ?_; (with_reducible refine (impl_IPv4.calls kj6 ((((((t190 ++ (⟨#[46]⟩ : ByteArray)) ++ t191) ++ (⟨#[46]⟩ : ByteArray)) ++ t192) ++ (⟨#[46]⟩ : ByteArray)) ++ t193) true _ A24.out).mono ?_); rintro e w' ⟨rfl, ⟨nd, rfl⟩⟩; refine ⟨_, rfl, ?_⟩) | (go_at_call 30; (with_reducible refine (impl_IPv4.calls kj6 a4 t195 _ A26.out).mono ?_); rintro e w' ⟨rfl, ⟨nd, rfl⟩⟩) | (go_at_call 32; (with_reducible refine (laws_four.calls kj6 a4 t196 _ A27.out).mono ?_); rintro e w' ⟨rfl, ⟨nd, rfl⟩⟩))
                          any_goals (try (exfalso; have zc15b1 := of_decide_eq_true c15b1; have zc17b1 := of_decide_eq_true c17b1; have zc18b1 := of_decide_eq_true c18b1; have zc20b1 := of_decide_eq_true c20b1; have zc21b1 := of_decide_eq_true c21b1; have zc23b1 := of_decide_eq_true c23b1; omega))
                          go_ret
                          exact ⟨by first | rfl | (simp [errW_none, errW_some] <;> rfl) | (simp [*, errW_none, errW_some] <;> rfl), by repeat (first | (with_reducible first | exact HB.out | apply below_alloc | apply pw_below_drewN | apply below_drew1) | exact HB.out)⟩
                        · replace c25 := Bool.eq_false_iff.mpr c25
                          subst c25
                          have H1 : (some false) = some r := by rw [if_neg (show ¬ (false = true) by decide)] at H; exact H
                          clear H
                          have H := H1
                          clear H1
                          obtain rfl := Option.some.inj H
                          go_wp2_with (first | ((with_reducible refine gate_dst (N := 20) rfl ?_); refine Kd.R_lit Kd.string _ 9 ?hg (N := 20) ?hd (xs := ([a4] : List ByteArray)) (inner := [.string a4]) (ok := fun _ => True) (okp := fun _ => True) ?hr ?hp (fun _ hk => hk) trivial (Below.refl _ _) (Nat.le_refl _) (by simp) ?_; (case hd => rfl); (case hg => rfl); (case hr => first | (go_simp; done) | (go_simp; rfl)); (case hp => exact (Reps.one (show Kd.M Kd.string _ _ _ a4 [.string a4] from rfl) (Reps.none _ _))); intro v187 w31 ho32 hb hg_ hnew_; clear hg_ hnew_; (first | rw [← Ny186.out] at ho32 | (simp only [Int.reduceToNat] at ho32; rw [← Ny186.out] at ho32)); have n0_ := Aside0.mk (Kd.R_lower ho32 (below_size (by repeat (first | (with_reducible first | exact HB.out | apply below_alloc | apply pw_below_drewN | apply below_drew1) | exact HB.out)))); have n1_ := Aside0.mk (below_step (by repeat (first | (with_reducible first | exact HB.out | apply below_alloc | apply pw_below_drewN | apply below_drew1) | exact HB.out)) hb); clear HB; have HO188 := n0_; have HB := n1_; clear n0_ n1_; clear hb ho32; obtain ⟨Ao33, co33, eo33⟩ := Kd.R_slice HO188.out; subst eo33) | ((with_reducible refine gate_callee (f := 23) rfl ?_); refine goesL_ (some 21) rfl rfl Try.func23 (by kernel_rfl) rfl #[.slice Ao33 y186.length co33] rfl (by (try simp only [List.map_toArray, List.map_cons, List.map_nil]); first | done | rfl | (simp only [List.length_drop, List.length_take]; rfl)) ?_; (with_reducible refine (laws_short.calls kj6 _ _ y186 true _ ?side1 ?side2 A12.out).mono ?_); (case side1 => repeat (first | exact (Kd.R_reads' HO188.out).2.2 | (with_reducible refine Kd.C_alloc ?_ _) | (with_reducible refine Kd.C_drewN ?_ _) | (with_reducible refine Kd.C_drew ?_))); (case side2 => exact (Kd.R_reads' HO188.out).2.1); rintro e w' ⟨rfl, ⟨nd, rfl⟩⟩; refine ⟨_, rfl, ?_⟩) | ((with_reducible refine gate_callee (f := 31) rfl ?_); refine goesL_ (some 25) rfl rfl Try.func31 (by kernel_rfl) rfl #[.int .i64 (wrap64 (a0))] rfl (by (try simp only [List.map_toArray, List.map_cons, List.map_nil]); first | done | rfl | (simp only [List.length_drop, List.length_take]; rfl)) ?_; (with_reducible refine (laws_digits.calls kj6 (wrap64 (a0)) t190 _ A14.out).mono ?_); rintro e w' ⟨rfl, ⟨nd, rfl⟩⟩; refine ⟨_, rfl, ?_⟩) | ((with_reducible refine gate_callee (f := 31) rfl ?_); refine goesL_ (some 29) rfl rfl Try.func31 (by kernel_rfl) rfl #[.int .i64 (wrap64 (a1))] rfl (by (try simp only [List.map_toArray, List.map_cons, List.map_nil]); first | done | rfl | (simp only [List.length_drop, List.length_take]; rfl)) ?_; (with_reducible refine (laws_digits.calls kj6 (wrap64 (a1)) t191 _ A16.out).mono ?_); rintro e w' ⟨rfl, ⟨nd, rfl⟩⟩; refine ⟨_, rfl, ?_⟩) | ((with_reducible refine gate_callee (f := 31) rfl ?_); refine goesL_ (some 34) rfl rfl Try.func31 (by kernel_rfl) rfl #[.int .i64 (wrap64 (a2))] rfl (by (try simp only [List.map_toArray, List.map_cons, List.map_nil]); first | done | rfl | (simp only [List.length_drop, List.length_take]; rfl)) ?_; (with_reducible refine (laws_digits.calls kj6 (wrap64 (a2)) t192 _ A19.out).mono ?_); rintro e w' ⟨rfl, ⟨nd, rfl⟩⟩; refine ⟨_, rfl, ?_⟩) | ((with_reducible refine gate_callee (f := 31) rfl ?_); refine goesL_ (some 39) rfl rfl Try.func31 (by kernel_rfl) rfl #[.int .i64 (wrap64 (a3))] rfl (by (try simp only [List.map_toArray, List.map_cons, List.map_nil]); first | done | rfl | (simp only [List.length_drop, List.length_take]; rfl)) ?_; (with_reducible refine (laws_digits.calls kj6 (wrap64 (a3)) t193 _ A22.out).mono ?_); rintro e w' ⟨rfl, ⟨nd, rfl⟩⟩; refine ⟨_, rfl, ?_⟩) | ((with_reducible refine gate_callee (f := 30) rfl ?_); refine goesL_ (some 41) rfl rfl Try.func30 (by kernel_rfl) rfl #[.string ((((((t190 ++ (⟨#[46]⟩ : ByteArray)) ++ t191) ++ (⟨#[46]⟩ : ByteArray)) ++ t192) ++ (⟨#[46]⟩ : ByteArray)) ++ t193)] rfl (by (try simp only [List.map_toArray, List.map_cons, List.map_nil]); first | done | rfl | (simp only [List.length_drop, List.length_take]; rfl)) ?_; (with_reducible refine (impl_IPv4.calls kj6 ((((((t190 ++ (⟨#[46]⟩ : ByteArray)) ++ t191) ++ (⟨#[46]⟩ : ByteArray)) ++ t192) ++ (⟨#[46]⟩ : ByteArray)) ++ t193) false _ A24.out).mono ?_); rintro e w' ⟨rfl, ⟨nd, rfl⟩⟩; refine ⟨_, rfl, ?_⟩))
                          any_goals (try (exfalso; have zc15b1 := of_decide_eq_true c15b1; have zc17b1 := of_decide_eq_true c17b1; have zc18b1 := of_decide_eq_true c18b1; have zc20b1 := of_decide_eq_true c20b1; have zc21b1 := of_decide_eq_true c21b1; have zc23b1 := of_decide_eq_true c23b1; omega))
                          go_ret
                          exact ⟨by first | rfl | (simp [errW_none, errW_some] <;> rfl) | (simp [*, errW_none, errW_some] <;> rfl), by repeat (first | (with_reducible first | exact HB.out | apply below_alloc | apply pw_below_drewN | apply below_drew1) | exact HB.out)⟩
                      · rw [if_neg c23] at H
                        exact absurd H (by simp)
                    · rw [if_neg c21] at H
                      exact absurd H (by simp)
                  · rw [if_neg c20] at H
                    exact absurd H (by simp)
                · rw [if_neg c18] at H
                  exact absurd H (by simp)
              · rw [if_neg c17] at H
                exact absurd H (by simp)
            · rw [if_neg c15] at H
              exact absurd H (by simp)
          · replace c13 := Bool.eq_false_iff.mpr c13
            subst c13
            have H1 : (some true) = some r := by rw [if_neg (show ¬ (false = true) by decide)] at H; exact H
            clear H
            have H := H1
            clear H1
            obtain rfl := Option.some.inj H
            go_wp2_with (first | ((with_reducible refine gate_dst (N := 20) rfl ?_); refine Kd.R_lit Kd.string _ 9 ?hg (N := 20) ?hd (xs := ([a4] : List ByteArray)) (inner := [.string a4]) (ok := fun _ => True) (okp := fun _ => True) ?hr ?hp (fun _ hk => hk) trivial (Below.refl _ _) (Nat.le_refl _) (by simp) ?_; (case hd => rfl); (case hg => rfl); (case hr => first | (go_simp; done) | (go_simp; rfl)); (case hp => exact (Reps.one (show Kd.M Kd.string _ _ _ a4 [.string a4] from rfl) (Reps.none _ _))); intro v187 w34 ho35 hb hg_ hnew_; clear hg_ hnew_; (first | rw [← Ny186.out] at ho35 | (simp only [Int.reduceToNat] at ho35; rw [← Ny186.out] at ho35)); have n0_ := Aside0.mk (Kd.R_lower ho35 (below_size (by repeat (first | (with_reducible first | exact HB.out | apply below_alloc | apply pw_below_drewN | apply below_drew1) | exact HB.out)))); have n1_ := Aside0.mk (below_step (by repeat (first | (with_reducible first | exact HB.out | apply below_alloc | apply pw_below_drewN | apply below_drew1) | exact HB.out)) hb); clear HB; have HO188 := n0_; have HB := n1_; clear n0_ n1_; clear hb ho35; obtain ⟨Ao36, co36, eo36⟩ := Kd.R_slice HO188.out; subst eo36) | ((with_reducible refine gate_callee (f := 23) rfl ?_); refine goesL_ (some 21) rfl rfl Try.func23 (by kernel_rfl) rfl #[.slice Ao36 y186.length co36] rfl (by (try simp only [List.map_toArray, List.map_cons, List.map_nil]); first | done | rfl | (simp only [List.length_drop, List.length_take]; rfl)) ?_; (with_reducible refine (laws_short.calls kj6 _ _ y186 false _ ?side1 ?side2 A12.out).mono ?_); (case side1 => repeat (first | exact (Kd.R_reads' HO188.out).2.2 | (with_reducible refine Kd.C_alloc ?_ _) | (with_reducible refine Kd.C_drewN ?_ _) | (with_reducible refine Kd.C_drew ?_))); (case side2 => exact (Kd.R_reads' HO188.out).2.1); rintro e w' ⟨rfl, ⟨nd, rfl⟩⟩; refine ⟨_, rfl, ?_⟩))
            go_ret
            exact ⟨by first | rfl | (simp [errW_none, errW_some] <;> rfl) | (simp [*, errW_none, errW_some] <;> rfl), by repeat (first | (with_reducible first | exact HB.out | apply below_alloc | apply pw_below_drewN | apply below_drew1) | exact HB.out)⟩

/-- THE ONE PURE STATEMENT of laws_FnIPv4: yours. -/
def laws_FnIPv4.Pure : Prop := ∀ (a0 : Int) (a1 : Int) (a2 : Int) (a3 : Int) (a4 : ByteArray), (Lit.int .u8 a0).wf = true → (Lit.int .u8 a1).wf = true → (Lit.int .u8 a2).wf = true → (Lit.int .u8 a3).wf = true → a4.size ≤ 140737488351232 → ∃ k, laws_FnIPv4.f k a0 a1 a2 a3 a4 = some true
theorem laws_FnIPv4.walk (P : laws_FnIPv4.Pure) (a0 : Int) (a1 : Int) (a2 : Int) (a3 : Int) (a4 : ByteArray) (w : World) (w0 : (Lit.int .u8 a0).wf = true) (w1 : (Lit.int .u8 a1).wf = true) (w2 : (Lit.int .u8 a2).wf = true) (w3 : (Lit.int .u8 a3).wf = true) (w4 : a4.size ≤ 140737488351232) :
    Calls Try.prog 10 #[.int .u8 a0, .int .u8 a1, .int .u8 a2, .int .u8 a3, .string a4] w fun e w' => e = .returned (.bool true) ∧ Below w.heap.size w w' := by
  obtain ⟨k, h⟩ := P a0 a1 a2 a3 a4 w0 w1 w2 w3 w4
  refine (laws_FnIPv4.calls k a0 a1 a2 a3 a4 true w h).mono ?_
  rintro e w' ⟨rfl, hd⟩
  exact ⟨rfl, hd⟩

end Go.Proofs.Ytjmcndbkmknemaa.Q
