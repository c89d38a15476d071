-- Written by a program of this session out of the translation, with the kit's printer. Not trusted: Lean checks it.
import Derived.Test.YtjmcndbkmknemaaQ0
import Derived.Test.YtjmcndbkmknemaaQ15
namespace Go.Proofs.Ytjmcndbkmknemaa.Q
open Go.RowKit Go.Proofs.YtjmcndbkmknemaaW.PrintWords Go.Proofs.YtjmcndbkmknemaaW.PrintLast Go.Proofs.YtjmcndbkmknemaaW.PrintMore
attribute [local go_sem] max2_int min2_int max_two min_two max_three min_three max_four min_four   -- for this text's walks alone
set_option linter.unusedVariables false
set_option linter.unusedSimpArgs false

/-! ### impl_IPv4: function 30 -/
def impl_IPv4.f (k : Nat) (a0 : ByteArray) : Option (Bool) := (fiberutils_IsIPv4.f k a0).bind fun t181 => (some t181)
theorem impl_IPv4.mono : ∀ a0 k, LeO (impl_IPv4.f k a0) (impl_IPv4.f (k + 1) a0) := by
  intro a0 k
  unfold impl_IPv4.f
  repeat' first
      | (with_reducible exact fiberutils_IsIPv4.mono _ _)
      | (with_reducible exact LeO.refl _)
      | (with_reducible exact LeO.none _)
      | (with_reducible refine LeO.ite ?_ ?_)
      | (with_reducible refine LeO.bind ?_ (fun _ => ?_))
      | exact fiberutils_IsIPv4.mono _ _
      | exact LeO.none _
      | refine LeO.ite ?_ ?_
      | refine LeO.bind ?_ (fun _ => ?_)
set_option maxHeartbeats 8000000 in
set_option maxRecDepth 100000 in
theorem impl_IPv4.calls (k : Nat) (a0 : ByteArray) (r : Bool) (w : World) (h : impl_IPv4.f k a0 = some r) :
    Calls Try.prog 30 #[.string a0] w fun e w' => e = .returned (.bool r) ∧ Drawn0 w w' := by
  have H : ((fiberutils_IsIPv4.f k a0).bind fun t181 => (some t181)) = some r := h
  clear h
  replace H := Option.bind_eq_some_iff.mp H
  obtain ⟨t181, A20, H⟩ := H
  replace H : (some t181) = some r := H
  have A2 := Aside0.mk A20
  clear A20
  obtain rfl := Option.some.inj H
  go_enter Try.func30, Try.ntmps30
  go_wp2_with (first | ((with_reducible refine gate_callee (f := 52) rfl ?_); refine goesL_ (some 4) rfl rfl Try.func52 (by kernel_rfl) rfl #[.string a0] rfl (by (try simp only [List.map_toArray, List.map_cons, List.map_nil]); first | done | rfl | (simp only [List.length_drop, List.length_take]; rfl)) ?_; (with_reducible refine (fiberutils_IsIPv4.calls k a0 t181 _ A2.out).mono ?_); rintro e w' ⟨rfl, ⟨nd, rfl⟩⟩; refine ⟨_, rfl, ?_⟩))
  go_ret
  exact ⟨by first | rfl | (simp; done) | (simp [*]; done) | (simp [Go.Proofs.YtjmcndbkmknemaaX.isEmpty_ne]; done), by repeat (first | exact Drawn0.refl _ | apply Drawn0.step)⟩

/-! ### laws_digits: function 31 -/
def laws_digits.f : Nat → Int → Option (ByteArray)
  | 0, _ => none
  | k + 1, a0 => if a0 < 10 then (some (Utf8.encode (wrap32 (wrap64 (48 + a0))))) else ((laws_digits.f k (wrap64 (Int.tdiv a0 10))).bind fun t182 => (if t182.size + ((Utf8.encode (wrap32 (wrap64 (48 + (Int.tmod a0 10))))).size) ≤ 9223372036854775807 then (some (t182 ++ (Utf8.encode (wrap32 (wrap64 (48 + (Int.tmod a0 10))))))) else (none)))
theorem laws_digits.mono_l : ∀ k, (∀ y0, LeO (laws_digits.f k y0) (laws_digits.f (k + 1) y0))
  | 0 => fun _ r h => by simp [laws_digits.f] at h
  | k + 1 => by
    have ih0 := laws_digits.mono_l k
    · intro y0
      unfold laws_digits.f
      repeat' first
      | (with_reducible exact ih0 _)
      | (with_reducible exact LeO.refl _)
      | (with_reducible exact LeO.none _)
      | (with_reducible refine LeO.ite ?_ ?_)
      | (with_reducible refine LeO.bind ?_ (fun _ => ?_))
      | exact ih0 _
      | exact LeO.none _
      | refine LeO.ite ?_ ?_
      | refine LeO.bind ?_ (fun _ => ?_)
theorem laws_digits.mono : ∀ a0 k, LeO (laws_digits.f k a0) (laws_digits.f (k + 1) a0) := by
  intro a0 k
  have ih0 := laws_digits.mono_l k
  exact ih0 a0
set_option maxHeartbeats 8000000 in
set_option maxRecDepth 100000 in
theorem laws_digits.calls (k : Nat) : ∀ (a0 : Int) (r : ByteArray) (w : World) (h : laws_digits.f k a0 = some r),
    Calls Try.prog 31 #[.int .i64 a0] w fun e w' => e = .returned (.string r) ∧ Drawn0 w w' := by
  induction k using Nat.strongRecOn with
  | _ k ih =>
  intro a0 r w h
  cases k with
  | zero => exact absurd h (by simp [laws_digits.f])
  | succ k =>
  simp only [laws_digits.f] at h
  have H : (if a0 < 10 then (some (Utf8.encode (wrap32 (wrap64 (48 + a0))))) else ((laws_digits.f k (wrap64 (Int.tdiv a0 10))).bind fun t182 => (if t182.size + ((Utf8.encode (wrap32 (wrap64 (48 + (Int.tmod a0 10))))).size) ≤ 9223372036854775807 then (some (t182 ++ (Utf8.encode (wrap32 (wrap64 (48 + (Int.tmod a0 10))))))) else (none)))) = some r := h
  clear h
  by_cases c2 : a0 < 10
  · rw [if_pos c2] at H
    have c2b0 : decide (a0 < 10) = true := decide_eq_true c2
    clear c2
    obtain rfl := Option.some.inj H
    go_enter Try.func31, Try.ntmps31
    go_wp2
    go_ret
    exact ⟨by first | rfl | (simp; done) | (simp [*]; done) | (simp [Go.Proofs.YtjmcndbkmknemaaX.isEmpty_ne]; done), by repeat (first | exact Drawn0.refl _ | apply Drawn0.step)⟩
  · rw [if_neg c2] at H
    have c2b0 : decide (a0 < 10) = false := decide_eq_false c2
    clear c2
    replace H := Option.bind_eq_some_iff.mp H
    obtain ⟨t182, A30, H⟩ := H
    replace H : (if t182.size + ((Utf8.encode (wrap32 (wrap64 (48 + (Int.tmod a0 10))))).size) ≤ 9223372036854775807 then (some (t182 ++ (Utf8.encode (wrap32 (wrap64 (48 + (Int.tmod a0 10))))))) else (none)) = some r := H
    have A3 := Aside0.mk A30
    clear A30
    by_cases c4 : t182.size + ((Utf8.encode (wrap32 (wrap64 (48 + (Int.tmod a0 10))))).size) ≤ 9223372036854775807
    · rw [if_pos c4] at H
      have c4b0 := eq_true c4
      have c4b1 : decide (t182.size + ((Utf8.encode (wrap32 (wrap64 (48 + (Int.tmod a0 10))))).size) ≤ 9223372036854775807) = true := decide_eq_true c4
      try have c4b2 : (9223372036854775807 < t182.size + ((Utf8.encode (wrap32 (wrap64 (48 + (Int.tmod a0 10))))).size)) = False := eq_false (Nat.not_lt.2 c4)
      obtain rfl := Option.some.inj H
      go_enter Try.func31, Try.ntmps31
      go_wp2_with (first | ((with_reducible refine gate_callee (f := 31) rfl ?_); refine goesL_ (some 11) rfl rfl Try.func31 (by kernel_rfl) rfl #[.int .i64 (wrap64 (Int.tdiv a0 10))] rfl (by (try simp only [List.map_toArray, List.map_cons, List.map_nil]); first | done | rfl | (simp only [List.length_drop, List.length_take]; rfl)) ?_; (with_reducible refine (ih k (by omega) (wrap64 (Int.tdiv a0 10)) t182 _ A3.out).mono ?_); rintro e w' ⟨rfl, ⟨nd, rfl⟩⟩; refine ⟨_, rfl, ?_⟩))
      any_goals (try (exfalso; have zc4b1 := of_decide_eq_true c4b1; omega))
      go_ret
      exact ⟨by first | rfl | (simp; done) | (simp [*]; done) | (simp [Go.Proofs.YtjmcndbkmknemaaX.isEmpty_ne]; done), by repeat (first | exact Drawn0.refl _ | apply Drawn0.step)⟩
    · rw [if_neg c4] at H
      exact absurd H (by simp)

/-! ### laws_until: function 53 -/
def laws_until.l0 : Nat → ByteArray → Int → Int → Option (Int)
  | 0, _, _, _ => none
  | k + 1, x0, x2, x7 => if x7 < (x0.size : Int) then (if 0 ≤ x7 then (if (bt x0 x7) = x2 then (some x7) else (laws_until.l0 k x0 x2 (wrap64 (x7 + 1)))) else (none)) else (some x7)
def laws_until.f (k : Nat) (a0 : ByteArray) (a1 : Int) (a2 : Int) : Option (Int) := laws_until.l0 k a0 a2 a1
theorem laws_until.mono_l : ∀ k, (∀ y0 y1 y2, LeO (laws_until.l0 k y0 y1 y2) (laws_until.l0 (k + 1) y0 y1 y2))
  | 0 => fun _ _ _ r h => by simp [laws_until.l0] at h
  | k + 1 => by
    have ih0 := laws_until.mono_l k
    · intro y0 y1 y2
      unfold laws_until.l0
      repeat' first
      | (with_reducible exact ih0 _ _ _)
      | (with_reducible exact LeO.refl _)
      | (with_reducible exact LeO.none _)
      | (with_reducible refine LeO.ite ?_ ?_)
      | (with_reducible refine LeO.bind ?_ (fun _ => ?_))
      | exact ih0 _ _ _
      | exact LeO.none _
      | refine LeO.ite ?_ ?_
      | refine LeO.bind ?_ (fun _ => ?_)
theorem laws_until.mono : ∀ a0 a1 a2 k, LeO (laws_until.f k a0 a1 a2) (laws_until.f (k + 1) a0 a1 a2) := by
  intro a0 a1 a2 k
  have ih0 := laws_until.mono_l k
  unfold laws_until.f
  repeat' first
      | (with_reducible exact ih0 _ _ _)
      | (with_reducible exact LeO.refl _)
      | (with_reducible exact LeO.none _)
      | (with_reducible refine LeO.ite ?_ ?_)
      | (with_reducible refine LeO.bind ?_ (fun _ => ?_))
      | exact ih0 _ _ _
      | exact LeO.none _
      | refine LeO.ite ?_ ?_
      | refine LeO.bind ?_ (fun _ => ?_)
set_option maxHeartbeats 8000000 in
set_option maxRecDepth 100000 in
theorem laws_until.calls (k : Nat) (a0 : ByteArray) (a1 : Int) (a2 : Int) (r : Int) (w : World) (h : laws_until.f k a0 a1 a2 = some r) :
    Calls Try.prog 53 #[.string a0, .int .i64 a1, .int .u8 a2] w fun e w' => e = .returned (.int .i64 r) ∧ Drawn0 w w' := by
  have H : (laws_until.l0 k a0 a2 a1) = some r := h
  clear h
  have H' := Aside0.mk H
  clear H
  go_enter Try.func53, Try.ntmps53
  go_wp2
  go_loopg [7] k (fun kq v7 w' => ∃ (x7_1 : Int), v7 = .int .i64 x7_1 ∧ Aside0 (laws_until.l0 kq a0 a2 x7_1 = some r) ∧ Aside0 (kq ≤ k) ∧ Drawn0 w w')
  case atStart => exact ⟨(a1), (by first | rfl | (simp; done) | (simp [*]; done) | (simp [Go.Proofs.YtjmcndbkmknemaaX.isEmpty_ne]; done)), H', ⟨Nat.le_refl _⟩, by repeat (first | exact Drawn0.refl _ | apply Drawn0.step)⟩
  case round =>
    clear H'
    try clear p2
    obtain ⟨x7_1, rfl, HA, HK1, ⟨m1, rfl⟩⟩ := hrel
    cases gk with
    | zero => exact absurd HA.out (by simp [laws_until.l0])
    | succ k1 =>
      have H := HA.out
      clear HA
      simp only [laws_until.l0] at H
      by_cases c4 : x7_1 < (a0.size : Int)
      · rw [if_pos c4] at H
        have c4b0 : decide (x7_1 < (a0.size : Int)) = true := decide_eq_true c4
        clear c4
        by_cases c5 : 0 ≤ x7_1
        · rw [if_pos c5] at H
          have c5b0 : decide (0 ≤ x7_1) = true := decide_eq_true c5
          clear c5
          by_cases c7 : (bt a0 x7_1) = a2
          · rw [if_pos c7] at H
            have c7b0 : ((bt a0 x7_1) == a2) = true := beq_iff_eq.mpr c7
            have c7b1 : ((bt a0 x7_1) != a2) = false := bne_eq_false_iff_eq.mpr c7
            clear c7
            obtain rfl := Option.some.inj H
            have p6 : 0 ≤ (x7_1 : Int) := of_decide_eq_true (by first | (with_reducible assumption) | assumption)
            have q6 : x7_1 < (a0.size : Int) := of_decide_eq_true (by first | (with_reducible assumption) | assumption)
            have hx6 := bt_at a0 x7_1
            replace p6 := eq_true p6
            replace q6 := eq_true q6
            go_wp2
            go_ret
            exact ⟨by first | rfl | (simp; done) | (simp [*]; done) | (simp [Go.Proofs.YtjmcndbkmknemaaX.isEmpty_ne]; done), by repeat (first | exact Drawn0.refl _ | apply Drawn0.step)⟩
          · rw [if_neg c7] at H
            have c7b0 : ((bt a0 x7_1) == a2) = false := beq_eq_false_iff_ne.mpr c7
            have c7b1 : ((bt a0 x7_1) != a2) = true := bne_iff_ne.mpr c7
            have H' := Aside0.mk H
            clear H
            have p6 : 0 ≤ (x7_1 : Int) := of_decide_eq_true (by first | (with_reducible assumption) | assumption)
            have q6 : x7_1 < (a0.size : Int) := of_decide_eq_true (by first | (with_reducible assumption) | assumption)
            have hx6 := bt_at a0 x7_1
            replace p6 := eq_true p6
            replace q6 := eq_true q6
            go_wp2
            go_roundg k1
            case measure => have := HK1.out; omega
            case rel => exact ⟨(wrap64 (x7_1 + 1)), (by first | rfl | (simp; done) | (simp [*]; done) | (simp [Go.Proofs.YtjmcndbkmknemaaX.isEmpty_ne]; done)), H', ⟨by have := HK1.out; omega⟩, by repeat (first | exact Drawn0.refl _ | apply Drawn0.step)⟩
        · rw [if_neg c5] at H
          exact absurd H (by simp)
      · rw [if_neg c4] at H
        have c4b0 : decide (x7_1 < (a0.size : Int)) = false := decide_eq_false c4
        clear c4
        obtain rfl := Option.some.inj H
        go_wp2
        go_ret
        exact ⟨by first | rfl | (simp; done) | (simp [*]; done) | (simp [Go.Proofs.YtjmcndbkmknemaaX.isEmpty_ne]; done), by repeat (first | exact Drawn0.refl _ | apply Drawn0.step)⟩

end Go.Proofs.Ytjmcndbkmknemaa.Q
