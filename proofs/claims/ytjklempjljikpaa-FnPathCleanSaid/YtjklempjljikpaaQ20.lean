-- Written by a program of this session out of the translation, with the kit's printer. Not trusted: Lean checks it.
import Derived.Test.YtjklempjljikpaaQ0
namespace Go.Proofs.Ytjklempjljikpaa.Q
open Go.RowKit Go.Proofs.YtjklempjljikpaaW.PrintWords Go.Proofs.YtjklempjljikpaaW.PrintLast Go.Proofs.YtjklempjljikpaaW.PrintMore
attribute [local go_sem] max2_int min2_int max_two min_two max_three min_three max_four min_four   -- for this text's walks alone
set_option linter.unusedVariables false
set_option linter.unusedSimpArgs false

/-! ### laws_begins: function 17 -/
def laws_begins.f (a0 : ByteArray) (a1 : ByteArray) : Option (Bool) := if (a1.size : Int) ≤ (a0.size : Int) then (if 0 ≤ (a1.size : Int) then (some ((a0.extract 0 ((a1.size : Int) : Int).toNat).toList == a1.toList)) else (none)) else (some false)
set_option maxHeartbeats 8000000 in
set_option maxRecDepth 100000 in
theorem laws_begins.calls (a0 : ByteArray) (a1 : ByteArray) (r : Bool) (w : World) (h : laws_begins.f a0 a1 = some r) :
    Calls Try.prog 17 #[.string a0, .string a1] w fun e w' => e = .returned (.bool r) ∧ Drawn0 w w' := by
  have H : (if (a1.size : Int) ≤ (a0.size : Int) then (if 0 ≤ (a1.size : Int) then (some ((a0.extract 0 ((a1.size : Int) : Int).toNat).toList == a1.toList)) else (none)) else (some false)) = some r := h
  clear h
  by_cases c3 : (a1.size : Int) ≤ (a0.size : Int)
  · rw [if_pos c3] at H
    have c3b0 : decide ((a1.size : Int) ≤ (a0.size : Int)) = true := decide_eq_true c3
    have c3b1 : decide (a1.size ≤ a0.size) = true := decide_eq_true (Int.ofNat_le.mp c3)
    clear c3
    by_cases c4 : 0 ≤ (a1.size : Int)
    · rw [if_pos c4] at H
      have c4b0 := eq_true c4
      have c4b1 : decide (0 ≤ (a1.size : Int)) = true := decide_eq_true c4
      clear c4
      have c5b0 := eq_true (of_decide_eq_true (by first | (with_reducible assumption) | assumption) : (a1.size : Int) ≤ (a0.size : Int))
      obtain rfl := Option.some.inj H
      go_enter Try.func17, Try.ntmps17
      go_wp2
      go_ret
      exact ⟨by first | rfl | (simp; done) | (simp [*]; done) | (simp [Go.Proofs.YtjklempjljikpaaX.isEmpty_ne]; done), by repeat (first | exact Drawn0.refl _ | apply Drawn0.step)⟩
    · rw [if_neg c4] at H
      exact absurd H (by simp)
  · rw [if_neg c3] at H
    have c3b0 : decide ((a1.size : Int) ≤ (a0.size : Int)) = false := decide_eq_false c3
    have c3b1 : decide (a1.size ≤ a0.size) = false := decide_eq_false (fun h => c3 (Int.ofNat_le.mpr h))
    clear c3
    obtain rfl := Option.some.inj H
    go_enter Try.func17, Try.ntmps17
    go_wp2
    go_ret
    exact ⟨by first | rfl | (simp; done) | (simp [*]; done) | (simp [Go.Proofs.YtjklempjljikpaaX.isEmpty_ne]; done), by repeat (first | exact Drawn0.refl _ | apply Drawn0.step)⟩

/-! ### laws_stands: function 18 -/
def laws_stands.l0 : Nat → ByteArray → ByteArray → Int → Int → Option (Bool)
  | 0, _, _, _, _ => none
  | k + 1, x0, x1, x8, x9 => if x9 < x8 then (if 0 ≤ x9 then (if x9 ≤ (x0.size : Int) then ((laws_begins.f (x0.extract (x9 : Int).toNat x0.size) x1).bind fun t225 => (if t225 = true then (some true) else (laws_stands.l0 k x0 x1 x8 (wrap64 (x9 + 1))))) else (none)) else (none)) else (some false)
def laws_stands.f (k : Nat) (a0 : ByteArray) (a1 : ByteArray) : Option (Bool) := laws_stands.l0 k a0 a1 (wrap64 ((a0.size : Int) + 1)) 0
theorem laws_stands.mono_l : ∀ k, (∀ y0 y1 y2 y3, LeO (laws_stands.l0 k y0 y1 y2 y3) (laws_stands.l0 (k + 1) y0 y1 y2 y3))
  | 0 => fun _ _ _ _ r h => by simp [laws_stands.l0] at h
  | k + 1 => by
    have ih0 := laws_stands.mono_l k
    · intro y0 y1 y2 y3
      unfold laws_stands.l0
      repeat' first
      | (with_reducible exact ih0 _ _ _ _)
      | (with_reducible exact LeO.refl _)
      | (with_reducible exact LeO.none _)
      | (with_reducible refine LeO.ite ?_ ?_)
      | (with_reducible refine LeO.bind ?_ (fun _ => ?_))
      | exact ih0 _ _ _ _
      | exact LeO.none _
      | refine LeO.ite ?_ ?_
      | refine LeO.bind ?_ (fun _ => ?_)
theorem laws_stands.mono : ∀ a0 a1 k, LeO (laws_stands.f k a0 a1) (laws_stands.f (k + 1) a0 a1) := by
  intro a0 a1 k
  have ih0 := laws_stands.mono_l k
  unfold laws_stands.f
  repeat' first
      | (with_reducible exact ih0 _ _ _ _)
      | (with_reducible exact LeO.refl _)
      | (with_reducible exact LeO.none _)
      | (with_reducible refine LeO.ite ?_ ?_)
      | (with_reducible refine LeO.bind ?_ (fun _ => ?_))
      | exact ih0 _ _ _ _
      | exact LeO.none _
      | refine LeO.ite ?_ ?_
      | refine LeO.bind ?_ (fun _ => ?_)
set_option maxHeartbeats 8000000 in
set_option maxRecDepth 100000 in
theorem laws_stands.calls (k : Nat) (a0 : ByteArray) (a1 : ByteArray) (r : Bool) (w : World) (h : laws_stands.f k a0 a1 = some r) :
    Calls Try.prog 18 #[.string a0, .string a1] w fun e w' => e = .returned (.bool r) ∧ Drawn0 w w' := by
  have H : (laws_stands.l0 k a0 a1 (wrap64 ((a0.size : Int) + 1)) 0) = some r := h
  clear h
  have H' := Aside0.mk H
  clear H
  go_enter Try.func18, Try.ntmps18
  go_wp2
  go_loopg [9] k (fun kq v9 w' => ∃ (x9_1 : Int), v9 = .int .i64 x9_1 ∧ Aside0 (laws_stands.l0 kq a0 a1 (wrap64 ((a0.size : Int) + 1)) x9_1 = some r) ∧ Aside0 (kq ≤ k) ∧ Drawn0 w w')
  case atStart => exact ⟨(0), (by first | rfl | (simp; done) | (simp [*]; done) | (simp [Go.Proofs.YtjklempjljikpaaX.isEmpty_ne]; done)), H', ⟨Nat.le_refl _⟩, by repeat (first | exact Drawn0.refl _ | apply Drawn0.step)⟩
  case round =>
    clear H'
    try clear c1
    try clear p2
    obtain ⟨x9_1, rfl, HA, HK1, ⟨m1, rfl⟩⟩ := hrel
    cases gk with
    | zero => exact absurd HA.out (by simp [laws_stands.l0])
    | succ k1 =>
      have H := HA.out
      clear HA
      simp only [laws_stands.l0] at H
      by_cases c3 : x9_1 < (wrap64 ((a0.size : Int) + 1))
      · rw [if_pos c3] at H
        have c3b0 : decide (x9_1 < (wrap64 ((a0.size : Int) + 1))) = true := decide_eq_true c3
        clear c3
        by_cases c4 : 0 ≤ x9_1
        · rw [if_pos c4] at H
          have c4b0 := eq_true c4
          have c4b1 : decide (0 ≤ x9_1) = true := decide_eq_true c4
          clear c4
          by_cases c5 : x9_1 ≤ (a0.size : Int)
          · rw [if_pos c5] at H
            have c5b0 := eq_true c5
            have c5b1 : decide (x9_1 ≤ (a0.size : Int)) = true := decide_eq_true c5
            clear c5
            replace H := Option.bind_eq_some_iff.mp H
            obtain ⟨t225, A60, H⟩ := H
            replace H : (if t225 = true then (some true) else (laws_stands.l0 k1 a0 a1 (wrap64 ((a0.size : Int) + 1)) (wrap64 (x9_1 + 1)))) = some r := H
            have A6 := Aside0.mk A60
            clear A60
            by_cases c7 : t225 = true
            · subst c7
              have H1 : (some true) = some r := by rw [if_pos rfl] at H; exact H
              clear H
              have H := H1
              clear H1
              obtain rfl := Option.some.inj H
              go_wp2_with (first | ((with_reducible refine gate_callee (f := 17) rfl ?_); refine goesL_ (some 16) rfl rfl Try.func17 (by kernel_rfl) rfl #[.string (a0.extract (x9_1 : Int).toNat a0.size), .string a1] rfl (by (try simp only [List.map_toArray, List.map_cons, List.map_nil]); first | done | rfl | (simp only [List.length_drop, List.length_take]; rfl)) ?_; (with_reducible refine (laws_begins.calls (a0.extract (x9_1 : Int).toNat a0.size) a1 true _ A6.out).mono ?_); rintro e w' ⟨rfl, ⟨nd, rfl⟩⟩; refine ⟨_, rfl, ?_⟩))
              go_ret
              exact ⟨by first | rfl | (simp; done) | (simp [*]; done) | (simp [Go.Proofs.YtjklempjljikpaaX.isEmpty_ne]; done), by repeat (first | exact Drawn0.refl _ | apply Drawn0.step)⟩
            · replace c7 := Bool.eq_false_iff.mpr c7
              subst c7
              have H1 : (laws_stands.l0 k1 a0 a1 (wrap64 ((a0.size : Int) + 1)) (wrap64 (x9_1 + 1))) = some r := by rw [if_neg (show ¬ (false = true) by decide)] at H; exact H
              clear H
              have H := H1
              clear H1
              have H' := Aside0.mk H
              clear H
              go_wp2_with (first | ((with_reducible refine gate_callee (f := 17) rfl ?_); refine goesL_ (some 16) rfl rfl Try.func17 (by kernel_rfl) rfl #[.string (a0.extract (x9_1 : Int).toNat a0.size), .string a1] rfl (by (try simp only [List.map_toArray, List.map_cons, List.map_nil]); first | done | rfl | (simp only [List.length_drop, List.length_take]; rfl)) ?_; (with_reducible refine (laws_begins.calls (a0.extract (x9_1 : Int).toNat a0.size) a1 false _ A6.out).mono ?_); rintro e w' ⟨rfl, ⟨nd, rfl⟩⟩; refine ⟨_, rfl, ?_⟩))
              go_roundg k1
              case measure => have := HK1.out; omega
              case rel => exact ⟨(wrap64 (x9_1 + 1)), (by first | rfl | (simp; done) | (simp [*]; done) | (simp [Go.Proofs.YtjklempjljikpaaX.isEmpty_ne]; done)), H', ⟨by have := HK1.out; omega⟩, by repeat (first | exact Drawn0.refl _ | apply Drawn0.step)⟩
          · rw [if_neg c5] at H
            exact absurd H (by simp)
        · rw [if_neg c4] at H
          exact absurd H (by simp)
      · rw [if_neg c3] at H
        have c3b0 : decide (x9_1 < (wrap64 ((a0.size : Int) + 1))) = false := decide_eq_false c3
        clear c3
        obtain rfl := Option.some.inj H
        go_wp2
        go_ret
        exact ⟨by first | rfl | (simp; done) | (simp [*]; done) | (simp [Go.Proofs.YtjklempjljikpaaX.isEmpty_ne]; done), by repeat (first | exact Drawn0.refl _ | apply Drawn0.step)⟩

end Go.Proofs.Ytjklempjljikpaa.Q
