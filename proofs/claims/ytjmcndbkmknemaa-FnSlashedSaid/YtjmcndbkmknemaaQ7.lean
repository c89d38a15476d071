-- Written by a program of this session out of the translation, with the kit's printer. Not trusted: Lean checks it.
import Derived.Test.YtjmcndbkmknemaaQ0
import Derived.Test.YtjmcndbkmknemaaQ6
namespace Go.Proofs.Ytjmcndbkmknemaa.Q
open Go.RowKit Go.Proofs.YtjmcndbkmknemaaW.PrintWords Go.Proofs.YtjmcndbkmknemaaW.PrintLast Go.Proofs.YtjmcndbkmknemaaW.PrintMore
attribute [local go_sem] max2_int min2_int max_two min_two max_three min_three max_four min_four   -- for this text's walks alone
set_option linter.unusedVariables false
set_option linter.unusedSimpArgs false

/-! ### laws_FnSlashed: function 5 -/
def laws_FnSlashed.f (a0 : ByteArray) : Option (Bool) := if (a0.size : Int) > 2147483647 then (some true) else ((impl_Slashed.f (⟨#[97]⟩ : ByteArray)).bind fun t147 => (if t147.toList = ([97, 47] : List UInt8) then ((impl_Slashed.f a0).bind fun t148 => ((laws_ends.f t148 (⟨#[47]⟩ : ByteArray)).bind fun t149 => (if t149 = true then (if t148.toList = a0.toList then ((impl_Slashed.f t148).bind fun t150 => (some (t150.toList == t148.toList))) else (if a0.size + 1 ≤ 9223372036854775807 then (if t148.toList = (a0 ++ (⟨#[47]⟩ : ByteArray)).toList then ((laws_ends.f a0 (⟨#[47]⟩ : ByteArray)).bind fun t151 => (if t151 = true then (some false) else ((impl_Slashed.f t148).bind fun t152 => (some (t152.toList == t148.toList))))) else (some false)) else (none))) else (some false)))) else (some false)))
set_option maxHeartbeats 8000000 in
set_option maxRecDepth 100000 in
theorem laws_FnSlashed.calls (a0 : ByteArray) (r : Bool) (w : World) (h : laws_FnSlashed.f a0 = some r) :
    Calls Try.prog 5 #[.string a0] w fun e w' => e = .returned (.bool r) ∧ Drawn0 w w' := by
  have H : (if (a0.size : Int) > 2147483647 then (some true) else ((impl_Slashed.f (⟨#[97]⟩ : ByteArray)).bind fun t147 => (if t147.toList = ([97, 47] : List UInt8) then ((impl_Slashed.f a0).bind fun t148 => ((laws_ends.f t148 (⟨#[47]⟩ : ByteArray)).bind fun t149 => (if t149 = true then (if t148.toList = a0.toList then ((impl_Slashed.f t148).bind fun t150 => (some (t150.toList == t148.toList))) else (if a0.size + 1 ≤ 9223372036854775807 then (if t148.toList = (a0 ++ (⟨#[47]⟩ : ByteArray)).toList then ((laws_ends.f a0 (⟨#[47]⟩ : ByteArray)).bind fun t151 => (if t151 = true then (some false) else ((impl_Slashed.f t148).bind fun t152 => (some (t152.toList == t148.toList))))) else (some false)) else (none))) else (some false)))) else (some false)))) = some r := h
  clear h
  by_cases c2 : (a0.size : Int) > 2147483647
  · rw [if_pos c2] at H
    have c2b0 : decide (2147483647 < (a0.size : Int)) = true := decide_eq_true c2
    have c2b1 : decide (2147483647 < a0.size) = true := decide_eq_true (by omega)
    clear c2
    obtain rfl := Option.some.inj H
    go_enter Try.func5, Try.ntmps5
    go_wp2
    go_ret
    exact ⟨by first | rfl | (simp; done) | (simp [*]; done) | (simp [Go.Proofs.YtjmcndbkmknemaaX.isEmpty_ne]; done), by repeat (first | exact Drawn0.refl _ | apply Drawn0.step)⟩
  · rw [if_neg c2] at H
    have c2b0 : decide (2147483647 < (a0.size : Int)) = false := decide_eq_false c2
    have c2b1 : decide (2147483647 < a0.size) = false := decide_eq_false (by omega)
    clear c2
    replace H := Option.bind_eq_some_iff.mp H
    obtain ⟨t147, A30, H⟩ := H
    replace H : (if t147.toList = ([97, 47] : List UInt8) then ((impl_Slashed.f a0).bind fun t148 => ((laws_ends.f t148 (⟨#[47]⟩ : ByteArray)).bind fun t149 => (if t149 = true then (if t148.toList = a0.toList then ((impl_Slashed.f t148).bind fun t150 => (some (t150.toList == t148.toList))) else (if a0.size + 1 ≤ 9223372036854775807 then (if t148.toList = (a0 ++ (⟨#[47]⟩ : ByteArray)).toList then ((laws_ends.f a0 (⟨#[47]⟩ : ByteArray)).bind fun t151 => (if t151 = true then (some false) else ((impl_Slashed.f t148).bind fun t152 => (some (t152.toList == t148.toList))))) else (some false)) else (none))) else (some false)))) else (some false)) = some r := H
    have A3 := Aside0.mk A30
    clear A30
    by_cases c4 : t147.toList = ([97, 47] : List UInt8)
    · rw [if_pos c4] at H
      have c4b0 : (t147.toList == ([97, 47] : List UInt8)) = true := beq_iff_eq.mpr c4
      have c4b1 : (t147.toList != ([97, 47] : List UInt8)) = false := bne_eq_false_iff_eq.mpr c4
      clear c4
      replace H := Option.bind_eq_some_iff.mp H
      obtain ⟨t148, A50, H⟩ := H
      replace H : ((laws_ends.f t148 (⟨#[47]⟩ : ByteArray)).bind fun t149 => (if t149 = true then (if t148.toList = a0.toList then ((impl_Slashed.f t148).bind fun t150 => (some (t150.toList == t148.toList))) else (if a0.size + 1 ≤ 9223372036854775807 then (if t148.toList = (a0 ++ (⟨#[47]⟩ : ByteArray)).toList then ((laws_ends.f a0 (⟨#[47]⟩ : ByteArray)).bind fun t151 => (if t151 = true then (some false) else ((impl_Slashed.f t148).bind fun t152 => (some (t152.toList == t148.toList))))) else (some false)) else (none))) else (some false))) = some r := H
      have A5 := Aside0.mk A50
      clear A50
      replace H := Option.bind_eq_some_iff.mp H
      obtain ⟨t149, A60, H⟩ := H
      replace H : (if t149 = true then (if t148.toList = a0.toList then ((impl_Slashed.f t148).bind fun t150 => (some (t150.toList == t148.toList))) else (if a0.size + 1 ≤ 9223372036854775807 then (if t148.toList = (a0 ++ (⟨#[47]⟩ : ByteArray)).toList then ((laws_ends.f a0 (⟨#[47]⟩ : ByteArray)).bind fun t151 => (if t151 = true then (some false) else ((impl_Slashed.f t148).bind fun t152 => (some (t152.toList == t148.toList))))) else (some false)) else (none))) else (some false)) = some r := H
      have A6 := Aside0.mk A60
      clear A60
      by_cases c7 : t149 = true
      · subst c7
        have H1 : (if t148.toList = a0.toList then ((impl_Slashed.f t148).bind fun t150 => (some (t150.toList == t148.toList))) else (if a0.size + 1 ≤ 9223372036854775807 then (if t148.toList = (a0 ++ (⟨#[47]⟩ : ByteArray)).toList then ((laws_ends.f a0 (⟨#[47]⟩ : ByteArray)).bind fun t151 => (if t151 = true then (some false) else ((impl_Slashed.f t148).bind fun t152 => (some (t152.toList == t148.toList))))) else (some false)) else (none))) = some r := by rw [if_pos rfl] at H; exact H
        clear H
        have H := H1
        clear H1
        by_cases c8 : t148.toList = a0.toList
        · rw [if_pos c8] at H
          have c8b0 : (t148.toList == a0.toList) = true := beq_iff_eq.mpr c8
          have c8b1 : (t148.toList != a0.toList) = false := bne_eq_false_iff_eq.mpr c8
          clear c8
          replace H := Option.bind_eq_some_iff.mp H
          obtain ⟨t150, A90, H⟩ := H
          replace H : (some (t150.toList == t148.toList)) = some r := H
          have A9 := Aside0.mk A90
          clear A90
          obtain rfl := Option.some.inj H
          go_enter Try.func5, Try.ntmps5
          go_wp2_with (first | ((with_reducible refine gate_callee (f := 19) rfl ?_); refine goesL_ (some 7) rfl rfl Try.func19 (by kernel_rfl) rfl #[.string (⟨#[97]⟩ : ByteArray)] rfl (by (try simp only [List.map_toArray, List.map_cons, List.map_nil]); first | done | rfl | (simp only [List.length_drop, List.length_take]; rfl)) ?_; (with_reducible refine (impl_Slashed.calls (⟨#[97]⟩ : ByteArray) t147 _ A3.out).mono ?_); rintro e w' ⟨rfl, ⟨nd, rfl⟩⟩; refine ⟨_, rfl, ?_⟩) | ((with_reducible refine gate_callee (f := 19) rfl ?_); refine goesL_ (some 10) rfl rfl Try.func19 (by kernel_rfl) rfl #[.string a0] rfl (by (try simp only [List.map_toArray, List.map_cons, List.map_nil]); first | done | rfl | (simp only [List.length_drop, List.length_take]; rfl)) ?_; (with_reducible refine (impl_Slashed.calls a0 t148 _ A5.out).mono ?_); rintro e w' ⟨rfl, ⟨nd, rfl⟩⟩; refine ⟨_, rfl, ?_⟩) | ((with_reducible refine gate_callee (f := 20) rfl ?_); refine goesL_ (some 12) rfl rfl Try.func20 (by kernel_rfl) rfl #[.string t148, .string (⟨#[47]⟩ : ByteArray)] rfl (by (try simp only [List.map_toArray, List.map_cons, List.map_nil]); first | done | rfl | (simp only [List.length_drop, List.length_take]; rfl)) ?_; (with_reducible refine (laws_ends.calls t148 (⟨#[47]⟩ : ByteArray) true _ A6.out).mono ?_); rintro e w' ⟨rfl, ⟨nd, rfl⟩⟩; refine ⟨_, rfl, ?_⟩) | (go_at_call 19; (with_reducible refine (impl_Slashed.calls t148 t150 _ A9.out).mono ?_); rintro e w' ⟨rfl, ⟨nd, rfl⟩⟩))
          go_ret
          exact ⟨by first | rfl | (simp; done) | (simp [*]; done) | (simp [Go.Proofs.YtjmcndbkmknemaaX.isEmpty_ne]; done), by repeat (first | exact Drawn0.refl _ | apply Drawn0.step)⟩
        · rw [if_neg c8] at H
          have c8b0 : (t148.toList == a0.toList) = false := beq_eq_false_iff_ne.mpr c8
          have c8b1 : (t148.toList != a0.toList) = true := bne_iff_ne.mpr c8
          by_cases c10 : a0.size + 1 ≤ 9223372036854775807
          · rw [if_pos c10] at H
            have c10b0 := eq_true c10
            have c10b1 : decide (a0.size + 1 ≤ 9223372036854775807) = true := decide_eq_true c10
            try have c10b2 : (9223372036854775807 < a0.size + 1) = False := eq_false (Nat.not_lt.2 c10)
            by_cases c11 : t148.toList = (a0 ++ (⟨#[47]⟩ : ByteArray)).toList
            · rw [if_pos c11] at H
              have c11b0 : (t148.toList == (a0 ++ (⟨#[47]⟩ : ByteArray)).toList) = true := beq_iff_eq.mpr c11
              have c11b1 : (t148.toList != (a0 ++ (⟨#[47]⟩ : ByteArray)).toList) = false := bne_eq_false_iff_eq.mpr c11
              clear c11
              replace H := Option.bind_eq_some_iff.mp H
              obtain ⟨t151, A120, H⟩ := H
              replace H : (if t151 = true then (some false) else ((impl_Slashed.f t148).bind fun t152 => (some (t152.toList == t148.toList)))) = some r := H
              have A12 := Aside0.mk A120
              clear A120
              by_cases c13 : t151 = true
              · subst c13
                have H1 : (some false) = some r := by rw [if_pos rfl] at H; exact H
                clear H
                have H := H1
                clear H1
                obtain rfl := Option.some.inj H
                go_enter Try.func5, Try.ntmps5
                go_wp2_with (first | ((with_reducible refine gate_callee (f := 19) rfl ?_); refine goesL_ (some 7) rfl rfl Try.func19 (by kernel_rfl) rfl #[.string (⟨#[97]⟩ : ByteArray)] rfl (by (try simp only [List.map_toArray, List.map_cons, List.map_nil]); first | done | rfl | (simp only [List.length_drop, List.length_take]; rfl)) ?_; (with_reducible refine (impl_Slashed.calls (⟨#[97]⟩ : ByteArray) t147 _ A3.out).mono ?_); rintro e w' ⟨rfl, ⟨nd, rfl⟩⟩; refine ⟨_, rfl, ?_⟩) | ((with_reducible refine gate_callee (f := 19) rfl ?_); refine goesL_ (some 10) rfl rfl Try.func19 (by kernel_rfl) rfl #[.string a0] rfl (by (try simp only [List.map_toArray, List.map_cons, List.map_nil]); first | done | rfl | (simp only [List.length_drop, List.length_take]; rfl)) ?_; (with_reducible refine (impl_Slashed.calls a0 t148 _ A5.out).mono ?_); rintro e w' ⟨rfl, ⟨nd, rfl⟩⟩; refine ⟨_, rfl, ?_⟩) | ((with_reducible refine gate_callee (f := 20) rfl ?_); refine goesL_ (some 12) rfl rfl Try.func20 (by kernel_rfl) rfl #[.string t148, .string (⟨#[47]⟩ : ByteArray)] rfl (by (try simp only [List.map_toArray, List.map_cons, List.map_nil]); first | done | rfl | (simp only [List.length_drop, List.length_take]; rfl)) ?_; (with_reducible refine (laws_ends.calls t148 (⟨#[47]⟩ : ByteArray) true _ A6.out).mono ?_); rintro e w' ⟨rfl, ⟨nd, rfl⟩⟩; refine ⟨_, rfl, ?_⟩) | (go_at_call 20; (with_reducible refine (laws_ends.calls a0 (⟨#[47]⟩ : ByteArray) true _ A12.out).mono ?_); rintro e w' ⟨rfl, ⟨nd, rfl⟩⟩))
                any_goals (try (exfalso; have zc10b1 := of_decide_eq_true c10b1; omega))
                go_ret
                exact ⟨by first | rfl | (simp; done) | (simp [*]; done) | (simp [Go.Proofs.YtjmcndbkmknemaaX.isEmpty_ne]; done), by repeat (first | exact Drawn0.refl _ | apply Drawn0.step)⟩
              · replace c13 := Bool.eq_false_iff.mpr c13
                subst c13
                have H1 : ((impl_Slashed.f t148).bind fun t152 => (some (t152.toList == t148.toList))) = some r := by rw [if_neg (show ¬ (false = true) by decide)] at H; exact H
                clear H
                have H := H1
                clear H1
                replace H := Option.bind_eq_some_iff.mp H
                obtain ⟨t152, A140, H⟩ := H
                replace H : (some (t152.toList == t148.toList)) = some r := H
                have A14 := Aside0.mk A140
                clear A140
                obtain rfl := Option.some.inj H
                go_enter Try.func5, Try.ntmps5
                go_wp2_with (first | ((with_reducible refine gate_callee (f := 19) rfl ?_); refine goesL_ (some 7) rfl rfl Try.func19 (by kernel_rfl) rfl #[.string (⟨#[97]⟩ : ByteArray)] rfl (by (try simp only [List.map_toArray, List.map_cons, List.map_nil]); first | done | rfl | (simp only [List.length_drop, List.length_take]; rfl)) ?_; (with_reducible refine (impl_Slashed.calls (⟨#[97]⟩ : ByteArray) t147 _ A3.out).mono ?_); rintro e w' ⟨rfl, ⟨nd, rfl⟩⟩; refine ⟨_, rfl, ?_⟩) | ((with_reducible refine gate_callee (f := 19) rfl ?_); refine goesL_ (some 10) rfl rfl Try.func19 (by kernel_rfl) rfl #[.string a0] rfl (by (try simp only [List.map_toArray, List.map_cons, List.map_nil]); first | done | rfl | (simp only [List.length_drop, List.length_take]; rfl)) ?_; (with_reducible refine (impl_Slashed.calls a0 t148 _ A5.out).mono ?_); rintro e w' ⟨rfl, ⟨nd, rfl⟩⟩; refine ⟨_, rfl, ?_⟩) | ((with_reducible refine gate_callee (f := 20) rfl ?_); refine goesL_ (some 12) rfl rfl Try.func20 (by kernel_rfl) rfl #[.string t148, .string (⟨#[47]⟩ : ByteArray)] rfl (by (try simp only [List.map_toArray, List.map_cons, List.map_nil]); first | done | rfl | (simp only [List.length_drop, List.length_take]; rfl)) ?_; (with_reducible refine (laws_ends.calls t148 (⟨#[47]⟩ : ByteArray) true _ A6.out).mono ?_); rintro e w' ⟨rfl, ⟨nd, rfl⟩⟩; refine ⟨_, rfl, ?_⟩) | (go_at_call 20; (with_reducible refine (laws_ends.calls a0 (⟨#[47]⟩ : ByteArray) false _ A12.out).mono ?_); rintro e w' ⟨rfl, ⟨nd, rfl⟩⟩) | (go_at_call 19; (with_reducible refine (impl_Slashed.calls t148 t152 _ A14.out).mono ?_); rintro e w' ⟨rfl, ⟨nd, rfl⟩⟩))
                any_goals (try (exfalso; have zc10b1 := of_decide_eq_true c10b1; omega))
                go_ret
                exact ⟨by first | rfl | (simp; done) | (simp [*]; done) | (simp [Go.Proofs.YtjmcndbkmknemaaX.isEmpty_ne]; done), by repeat (first | exact Drawn0.refl _ | apply Drawn0.step)⟩
            · rw [if_neg c11] at H
              have c11b0 : (t148.toList == (a0 ++ (⟨#[47]⟩ : ByteArray)).toList) = false := beq_eq_false_iff_ne.mpr c11
              have c11b1 : (t148.toList != (a0 ++ (⟨#[47]⟩ : ByteArray)).toList) = true := bne_iff_ne.mpr c11
              obtain rfl := Option.some.inj H
              go_enter Try.func5, Try.ntmps5
              go_wp2_with (first | ((with_reducible refine gate_callee (f := 19) rfl ?_); refine goesL_ (some 7) rfl rfl Try.func19 (by kernel_rfl) rfl #[.string (⟨#[97]⟩ : ByteArray)] rfl (by (try simp only [List.map_toArray, List.map_cons, List.map_nil]); first | done | rfl | (simp only [List.length_drop, List.length_take]; rfl)) ?_; (with_reducible refine (impl_Slashed.calls (⟨#[97]⟩ : ByteArray) t147 _ A3.out).mono ?_); rintro e w' ⟨rfl, ⟨nd, rfl⟩⟩; refine ⟨_, rfl, ?_⟩) | ((with_reducible refine gate_callee (f := 19) rfl ?_); refine goesL_ (some 10) rfl rfl Try.func19 (by kernel_rfl) rfl #[.string a0] rfl (by (try simp only [List.map_toArray, List.map_cons, List.map_nil]); first | done | rfl | (simp only [List.length_drop, List.length_take]; rfl)) ?_; (with_reducible refine (impl_Slashed.calls a0 t148 _ A5.out).mono ?_); rintro e w' ⟨rfl, ⟨nd, rfl⟩⟩; refine ⟨_, rfl, ?_⟩) | ((with_reducible refine gate_callee (f := 20) rfl ?_); refine goesL_ (some 12) rfl rfl Try.func20 (by kernel_rfl) rfl #[.string t148, .string (⟨#[47]⟩ : ByteArray)] rfl (by (try simp only [List.map_toArray, List.map_cons, List.map_nil]); first | done | rfl | (simp only [List.length_drop, List.length_take]; rfl)) ?_; (with_reducible refine (laws_ends.calls t148 (⟨#[47]⟩ : ByteArray) true _ A6.out).mono ?_); rintro e w' ⟨rfl, ⟨nd, rfl⟩⟩; refine ⟨_, rfl, ?_⟩))
              any_goals (try (exfalso; have zc10b1 := of_decide_eq_true c10b1; omega))
              go_ret
              exact ⟨by first | rfl | (simp; done) | (simp [*]; done) | (simp [Go.Proofs.YtjmcndbkmknemaaX.isEmpty_ne]; done), by repeat (first | exact Drawn0.refl _ | apply Drawn0.step)⟩
          · rw [if_neg c10] at H
            exact absurd H (by simp)
      · replace c7 := Bool.eq_false_iff.mpr c7
        subst c7
        have H1 : (some false) = some r := by rw [if_neg (show ¬ (false = true) by decide)] at H; exact H
        clear H
        have H := H1
        clear H1
        obtain rfl := Option.some.inj H
        go_enter Try.func5, Try.ntmps5
        go_wp2_with (first | ((with_reducible refine gate_callee (f := 19) rfl ?_); refine goesL_ (some 7) rfl rfl Try.func19 (by kernel_rfl) rfl #[.string (⟨#[97]⟩ : ByteArray)] rfl (by (try simp only [List.map_toArray, List.map_cons, List.map_nil]); first | done | rfl | (simp only [List.length_drop, List.length_take]; rfl)) ?_; (with_reducible refine (impl_Slashed.calls (⟨#[97]⟩ : ByteArray) t147 _ A3.out).mono ?_); rintro e w' ⟨rfl, ⟨nd, rfl⟩⟩; refine ⟨_, rfl, ?_⟩) | ((with_reducible refine gate_callee (f := 19) rfl ?_); refine goesL_ (some 10) rfl rfl Try.func19 (by kernel_rfl) rfl #[.string a0] rfl (by (try simp only [List.map_toArray, List.map_cons, List.map_nil]); first | done | rfl | (simp only [List.length_drop, List.length_take]; rfl)) ?_; (with_reducible refine (impl_Slashed.calls a0 t148 _ A5.out).mono ?_); rintro e w' ⟨rfl, ⟨nd, rfl⟩⟩; refine ⟨_, rfl, ?_⟩) | ((with_reducible refine gate_callee (f := 20) rfl ?_); refine goesL_ (some 12) rfl rfl Try.func20 (by kernel_rfl) rfl #[.string t148, .string (⟨#[47]⟩ : ByteArray)] rfl (by (try simp only [List.map_toArray, List.map_cons, List.map_nil]); first | done | rfl | (simp only [List.length_drop, List.length_take]; rfl)) ?_; (with_reducible refine (laws_ends.calls t148 (⟨#[47]⟩ : ByteArray) false _ A6.out).mono ?_); rintro e w' ⟨rfl, ⟨nd, rfl⟩⟩; refine ⟨_, rfl, ?_⟩))
        go_ret
        exact ⟨by first | rfl | (simp; done) | (simp [*]; done) | (simp [Go.Proofs.YtjmcndbkmknemaaX.isEmpty_ne]; done), by repeat (first | exact Drawn0.refl _ | apply Drawn0.step)⟩
    · rw [if_neg c4] at H
      have c4b0 : (t147.toList == ([97, 47] : List UInt8)) = false := beq_eq_false_iff_ne.mpr c4
      have c4b1 : (t147.toList != ([97, 47] : List UInt8)) = true := bne_iff_ne.mpr c4
      obtain rfl := Option.some.inj H
      go_enter Try.func5, Try.ntmps5
      go_wp2_with (first | ((with_reducible refine gate_callee (f := 19) rfl ?_); refine goesL_ (some 7) rfl rfl Try.func19 (by kernel_rfl) rfl #[.string (⟨#[97]⟩ : ByteArray)] rfl (by (try simp only [List.map_toArray, List.map_cons, List.map_nil]); first | done | rfl | (simp only [List.length_drop, List.length_take]; rfl)) ?_; (with_reducible refine (impl_Slashed.calls (⟨#[97]⟩ : ByteArray) t147 _ A3.out).mono ?_); rintro e w' ⟨rfl, ⟨nd, rfl⟩⟩; refine ⟨_, rfl, ?_⟩))
      go_ret
      exact ⟨by first | rfl | (simp; done) | (simp [*]; done) | (simp [Go.Proofs.YtjmcndbkmknemaaX.isEmpty_ne]; done), by repeat (first | exact Drawn0.refl _ | apply Drawn0.step)⟩

/-- THE ONE PURE STATEMENT of laws_FnSlashed: yours. -/
def laws_FnSlashed.Pure : Prop := ∀ (a0 : ByteArray), a0.size ≤ 140737488351232 → laws_FnSlashed.f a0 = some true
theorem laws_FnSlashed.walk (P : laws_FnSlashed.Pure) (a0 : ByteArray) (w : World) (w0 : a0.size ≤ 140737488351232) :
    Calls Try.prog 5 #[.string a0] w fun e w' => e = .returned (.bool true) ∧ Below w.heap.size w w' := by
  have h := P a0 w0
  refine (laws_FnSlashed.calls a0 true w h).mono ?_
  rintro e w' ⟨rfl, hd⟩
  exact ⟨rfl, hd.below⟩

end Go.Proofs.Ytjmcndbkmknemaa.Q
