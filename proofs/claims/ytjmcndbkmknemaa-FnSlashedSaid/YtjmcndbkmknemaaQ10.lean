-- Written by a program of this session out of the translation, with the kit's printer. Not trusted: Lean checks it.
import Derived.Test.YtjmcndbkmknemaaQ0
import Derived.Test.YtjmcndbkmknemaaQ3
import Derived.Test.YtjmcndbkmknemaaQ9
namespace Go.Proofs.Ytjmcndbkmknemaa.Q
open Go.RowKit Go.Proofs.YtjmcndbkmknemaaW.PrintWords Go.Proofs.YtjmcndbkmknemaaW.PrintLast Go.Proofs.YtjmcndbkmknemaaW.PrintMore
attribute [local go_sem] max2_int min2_int max_two min_two max_three min_three max_four min_four   -- for this text's walks alone
set_option linter.unusedVariables false
set_option linter.unusedSimpArgs false

/-! ### fiberutils_ParseVendorSpecificContentType: function 57 -/
def fiberutils_ParseVendorSpecificContentType.f (k : Nat) (a0 : ByteArray) : Option (ByteArray) := (fiberutils_zzIndex.f k a0 (⟨#[43]⟩ : ByteArray)).bind fun t250 => (if t250 = (-1) then (some a0) else ((fiberutils_zzIndex.f k a0 (⟨#[59]⟩ : ByteArray)).bind fun t251 => (if t251 = (-1) then (if 0 ≤ (wrap64 (t250 + 1)) then (if (wrap64 (t250 + 1)) ≤ (a0.size : Int) then ((fiberutils_zzIndex.f k a0 (⟨#[47]⟩ : ByteArray)).bind fun t252 => (if t252 = (-1) then (some a0) else (if 0 ≤ (wrap64 (t252 + 1)) then (if (wrap64 (t252 + 1)) ≤ (a0.size : Int) then (if (min ((wrap64 (t252 + 1)) : Int).toNat a0.size) + ((a0.size - ((wrap64 (t250 + 1)) : Int).toNat)) ≤ 9223372036854775807 then (some ((a0.extract 0 ((wrap64 (t252 + 1)) : Int).toNat) ++ (a0.extract ((wrap64 (t250 + 1)) : Int).toNat a0.size))) else (none)) else (none)) else (none)))) else (none)) else (none)) else (if t250 < t251 then (if 0 ≤ (wrap64 (t250 + 1)) then (if (wrap64 (t250 + 1)) ≤ t251 then (if t251 ≤ (a0.size : Int) then ((fiberutils_zzIndex.f k a0 (⟨#[47]⟩ : ByteArray)).bind fun t253 => (if t253 = (-1) then (some a0) else (if 0 ≤ (wrap64 (t253 + 1)) then (if (wrap64 (t253 + 1)) ≤ (a0.size : Int) then (if (min ((wrap64 (t253 + 1)) : Int).toNat a0.size) + ((min (t251 : Int).toNat a0.size - ((wrap64 (t250 + 1)) : Int).toNat)) ≤ 9223372036854775807 then (some ((a0.extract 0 ((wrap64 (t253 + 1)) : Int).toNat) ++ (a0.extract ((wrap64 (t250 + 1)) : Int).toNat (t251 : Int).toNat))) else (none)) else (none)) else (none)))) else (none)) else (none)) else (none)) else (if 0 ≤ t251 then (if t251 ≤ (a0.size : Int) then (some (a0.extract 0 (t251 : Int).toNat)) else (none)) else (none))))))
theorem fiberutils_ParseVendorSpecificContentType.mono : ∀ a0 k, LeO (fiberutils_ParseVendorSpecificContentType.f k a0) (fiberutils_ParseVendorSpecificContentType.f (k + 1) a0) := by
  intro a0 k
  unfold fiberutils_ParseVendorSpecificContentType.f
  repeat' first
      | (with_reducible exact fiberutils_zzIndex.mono _ _ _)
      | (with_reducible exact LeO.refl _)
      | (with_reducible exact LeO.none _)
      | (with_reducible refine LeO.ite ?_ ?_)
      | (with_reducible refine LeO.bind ?_ (fun _ => ?_))
      | exact fiberutils_zzIndex.mono _ _ _
      | exact LeO.none _
      | refine LeO.ite ?_ ?_
      | refine LeO.bind ?_ (fun _ => ?_)
set_option maxHeartbeats 8000000 in
set_option maxRecDepth 100000 in
theorem fiberutils_ParseVendorSpecificContentType.calls (k : Nat) (a0 : ByteArray) (r : ByteArray) (w : World) (h : fiberutils_ParseVendorSpecificContentType.f k a0 = some r) :
    Calls Try.prog 57 #[.string a0] w fun e w' => e = .returned (.string r) ∧ Drawn0 w w' := by
  have H : ((fiberutils_zzIndex.f k a0 (⟨#[43]⟩ : ByteArray)).bind fun t250 => (if t250 = (-1) then (some a0) else ((fiberutils_zzIndex.f k a0 (⟨#[59]⟩ : ByteArray)).bind fun t251 => (if t251 = (-1) then (if 0 ≤ (wrap64 (t250 + 1)) then (if (wrap64 (t250 + 1)) ≤ (a0.size : Int) then ((fiberutils_zzIndex.f k a0 (⟨#[47]⟩ : ByteArray)).bind fun t252 => (if t252 = (-1) then (some a0) else (if 0 ≤ (wrap64 (t252 + 1)) then (if (wrap64 (t252 + 1)) ≤ (a0.size : Int) then (if (min ((wrap64 (t252 + 1)) : Int).toNat a0.size) + ((a0.size - ((wrap64 (t250 + 1)) : Int).toNat)) ≤ 9223372036854775807 then (some ((a0.extract 0 ((wrap64 (t252 + 1)) : Int).toNat) ++ (a0.extract ((wrap64 (t250 + 1)) : Int).toNat a0.size))) else (none)) else (none)) else (none)))) else (none)) else (none)) else (if t250 < t251 then (if 0 ≤ (wrap64 (t250 + 1)) then (if (wrap64 (t250 + 1)) ≤ t251 then (if t251 ≤ (a0.size : Int) then ((fiberutils_zzIndex.f k a0 (⟨#[47]⟩ : ByteArray)).bind fun t253 => (if t253 = (-1) then (some a0) else (if 0 ≤ (wrap64 (t253 + 1)) then (if (wrap64 (t253 + 1)) ≤ (a0.size : Int) then (if (min ((wrap64 (t253 + 1)) : Int).toNat a0.size) + ((min (t251 : Int).toNat a0.size - ((wrap64 (t250 + 1)) : Int).toNat)) ≤ 9223372036854775807 then (some ((a0.extract 0 ((wrap64 (t253 + 1)) : Int).toNat) ++ (a0.extract ((wrap64 (t250 + 1)) : Int).toNat (t251 : Int).toNat))) else (none)) else (none)) else (none)))) else (none)) else (none)) else (none)) else (if 0 ≤ t251 then (if t251 ≤ (a0.size : Int) then (some (a0.extract 0 (t251 : Int).toNat)) else (none)) else (none))))))) = some r := h
  clear h
  replace H := Option.bind_eq_some_iff.mp H
  obtain ⟨t250, A20, H⟩ := H
  replace H : (if t250 = (-1) then (some a0) else ((fiberutils_zzIndex.f k a0 (⟨#[59]⟩ : ByteArray)).bind fun t251 => (if t251 = (-1) then (if 0 ≤ (wrap64 (t250 + 1)) then (if (wrap64 (t250 + 1)) ≤ (a0.size : Int) then ((fiberutils_zzIndex.f k a0 (⟨#[47]⟩ : ByteArray)).bind fun t252 => (if t252 = (-1) then (some a0) else (if 0 ≤ (wrap64 (t252 + 1)) then (if (wrap64 (t252 + 1)) ≤ (a0.size : Int) then (if (min ((wrap64 (t252 + 1)) : Int).toNat a0.size) + ((a0.size - ((wrap64 (t250 + 1)) : Int).toNat)) ≤ 9223372036854775807 then (some ((a0.extract 0 ((wrap64 (t252 + 1)) : Int).toNat) ++ (a0.extract ((wrap64 (t250 + 1)) : Int).toNat a0.size))) else (none)) else (none)) else (none)))) else (none)) else (none)) else (if t250 < t251 then (if 0 ≤ (wrap64 (t250 + 1)) then (if (wrap64 (t250 + 1)) ≤ t251 then (if t251 ≤ (a0.size : Int) then ((fiberutils_zzIndex.f k a0 (⟨#[47]⟩ : ByteArray)).bind fun t253 => (if t253 = (-1) then (some a0) else (if 0 ≤ (wrap64 (t253 + 1)) then (if (wrap64 (t253 + 1)) ≤ (a0.size : Int) then (if (min ((wrap64 (t253 + 1)) : Int).toNat a0.size) + ((min (t251 : Int).toNat a0.size - ((wrap64 (t250 + 1)) : Int).toNat)) ≤ 9223372036854775807 then (some ((a0.extract 0 ((wrap64 (t253 + 1)) : Int).toNat) ++ (a0.extract ((wrap64 (t250 + 1)) : Int).toNat (t251 : Int).toNat))) else (none)) else (none)) else (none)))) else (none)) else (none)) else (none)) else (if 0 ≤ t251 then (if t251 ≤ (a0.size : Int) then (some (a0.extract 0 (t251 : Int).toNat)) else (none)) else (none)))))) = some r := H
  have A2 := Aside0.mk A20
  clear A20
  by_cases c3 : t250 = (-1)
  · rw [if_pos c3] at H
    have c3b0 : (t250 == (-1)) = true := beq_iff_eq.mpr c3
    have c3b1 : (t250 != (-1)) = false := bne_eq_false_iff_eq.mpr c3
    clear c3
    obtain rfl := Option.some.inj H
    go_enter Try.func57, Try.ntmps57
    go_wp2_with (first | ((with_reducible refine gate_callee (f := 65) rfl ?_); refine goesL_ (some 8) rfl rfl Try.func65 (by kernel_rfl) rfl #[.string a0, .string (⟨#[43]⟩ : ByteArray)] rfl (by (try simp only [List.map_toArray, List.map_cons, List.map_nil]); first | done | rfl | (simp only [List.length_drop, List.length_take]; rfl)) ?_; (with_reducible refine (fiberutils_zzIndex.calls k a0 (⟨#[43]⟩ : ByteArray) t250 _ A2.out).mono ?_); rintro e w' ⟨rfl, ⟨nd, rfl⟩⟩; refine ⟨_, rfl, ?_⟩))
    go_ret
    exact ⟨by first | rfl | (simp; done) | (simp [*]; done) | (simp [Go.Proofs.YtjmcndbkmknemaaX.isEmpty_ne]; done), by repeat (first | exact Drawn0.refl _ | apply Drawn0.step)⟩
  · rw [if_neg c3] at H
    have c3b0 : (t250 == (-1)) = false := beq_eq_false_iff_ne.mpr c3
    have c3b1 : (t250 != (-1)) = true := bne_iff_ne.mpr c3
    replace H := Option.bind_eq_some_iff.mp H
    obtain ⟨t251, A40, H⟩ := H
    replace H : (if t251 = (-1) then (if 0 ≤ (wrap64 (t250 + 1)) then (if (wrap64 (t250 + 1)) ≤ (a0.size : Int) then ((fiberutils_zzIndex.f k a0 (⟨#[47]⟩ : ByteArray)).bind fun t252 => (if t252 = (-1) then (some a0) else (if 0 ≤ (wrap64 (t252 + 1)) then (if (wrap64 (t252 + 1)) ≤ (a0.size : Int) then (if (min ((wrap64 (t252 + 1)) : Int).toNat a0.size) + ((a0.size - ((wrap64 (t250 + 1)) : Int).toNat)) ≤ 9223372036854775807 then (some ((a0.extract 0 ((wrap64 (t252 + 1)) : Int).toNat) ++ (a0.extract ((wrap64 (t250 + 1)) : Int).toNat a0.size))) else (none)) else (none)) else (none)))) else (none)) else (none)) else (if t250 < t251 then (if 0 ≤ (wrap64 (t250 + 1)) then (if (wrap64 (t250 + 1)) ≤ t251 then (if t251 ≤ (a0.size : Int) then ((fiberutils_zzIndex.f k a0 (⟨#[47]⟩ : ByteArray)).bind fun t253 => (if t253 = (-1) then (some a0) else (if 0 ≤ (wrap64 (t253 + 1)) then (if (wrap64 (t253 + 1)) ≤ (a0.size : Int) then (if (min ((wrap64 (t253 + 1)) : Int).toNat a0.size) + ((min (t251 : Int).toNat a0.size - ((wrap64 (t250 + 1)) : Int).toNat)) ≤ 9223372036854775807 then (some ((a0.extract 0 ((wrap64 (t253 + 1)) : Int).toNat) ++ (a0.extract ((wrap64 (t250 + 1)) : Int).toNat (t251 : Int).toNat))) else (none)) else (none)) else (none)))) else (none)) else (none)) else (none)) else (if 0 ≤ t251 then (if t251 ≤ (a0.size : Int) then (some (a0.extract 0 (t251 : Int).toNat)) else (none)) else (none)))) = some r := H
    have A4 := Aside0.mk A40
    clear A40
    by_cases c5 : t251 = (-1)
    · rw [if_pos c5] at H
      have c5b0 : (t251 == (-1)) = true := beq_iff_eq.mpr c5
      have c5b1 : (t251 != (-1)) = false := bne_eq_false_iff_eq.mpr c5
      clear c5
      obtain ⟨ji6, hji6⟩ : ∃ j_ : Int, (wrap64 (t250 + 1)) = j_ := ⟨_, rfl⟩
      replace H : (if 0 ≤ (ji6) then (if (ji6) ≤ (a0.size : Int) then ((fiberutils_zzIndex.f k a0 (⟨#[47]⟩ : ByteArray)).bind fun t252 => (if t252 = (-1) then (some a0) else (if 0 ≤ (wrap64 (t252 + 1)) then (if (wrap64 (t252 + 1)) ≤ (a0.size : Int) then (if (min ((wrap64 (t252 + 1)) : Int).toNat a0.size) + ((a0.size - ((ji6) : Int).toNat)) ≤ 9223372036854775807 then (some ((a0.extract 0 ((wrap64 (t252 + 1)) : Int).toNat) ++ (a0.extract ((ji6) : Int).toNat a0.size))) else (none)) else (none)) else (none)))) else (none)) else (none)) = some r := by first | (rw [hji6] at H; exact H) | (simp only [hji6] at H ⊢; exact H)
      (try rw [hji6] at A2)
      (try rw [hji6] at A4)
      have hji6w : (IntKind.i64.wrap (t250 + 1)) = ji6 := (i64_w _).trans hji6
      by_cases c7 : 0 ≤ (ji6)
      · rw [if_pos c7] at H
        have c7b0 := eq_true c7
        have c7b1 : decide (0 ≤ (ji6)) = true := decide_eq_true c7
        clear c7
        by_cases c8 : (ji6) ≤ (a0.size : Int)
        · rw [if_pos c8] at H
          have c8b0 := eq_true c8
          have c8b1 : decide ((ji6) ≤ (a0.size : Int)) = true := decide_eq_true c8
          clear c8
          replace H := Option.bind_eq_some_iff.mp H
          obtain ⟨t252, A90, H⟩ := H
          replace H : (if t252 = (-1) then (some a0) else (if 0 ≤ (wrap64 (t252 + 1)) then (if (wrap64 (t252 + 1)) ≤ (a0.size : Int) then (if (min ((wrap64 (t252 + 1)) : Int).toNat a0.size) + ((a0.size - ((ji6) : Int).toNat)) ≤ 9223372036854775807 then (some ((a0.extract 0 ((wrap64 (t252 + 1)) : Int).toNat) ++ (a0.extract ((ji6) : Int).toNat a0.size))) else (none)) else (none)) else (none))) = some r := H
          have A9 := Aside0.mk A90
          clear A90
          by_cases c10 : t252 = (-1)
          · rw [if_pos c10] at H
            have c10b0 : (t252 == (-1)) = true := beq_iff_eq.mpr c10
            have c10b1 : (t252 != (-1)) = false := bne_eq_false_iff_eq.mpr c10
            clear c10
            obtain rfl := Option.some.inj H
            go_enter Try.func57, Try.ntmps57
            go_wp2_with (first | ((with_reducible refine gate_callee (f := 65) rfl ?_); refine goesL_ (some 8) rfl rfl Try.func65 (by kernel_rfl) rfl #[.string a0, .string (⟨#[43]⟩ : ByteArray)] rfl (by (try simp only [List.map_toArray, List.map_cons, List.map_nil]); first | done | rfl | (simp only [List.length_drop, List.length_take]; rfl)) ?_; (with_reducible refine (fiberutils_zzIndex.calls k a0 (⟨#[43]⟩ : ByteArray) t250 _ A2.out).mono ?_); rintro e w' ⟨rfl, ⟨nd, rfl⟩⟩; refine ⟨_, rfl, ?_⟩) | ((with_reducible refine gate_callee (f := 65) rfl ?_); refine goesL_ (some 13) rfl rfl Try.func65 (by kernel_rfl) rfl #[.string a0, .string (⟨#[59]⟩ : ByteArray)] rfl (by (try simp only [List.map_toArray, List.map_cons, List.map_nil]); first | done | rfl | (simp only [List.length_drop, List.length_take]; rfl)) ?_; (with_reducible refine (fiberutils_zzIndex.calls k a0 (⟨#[59]⟩ : ByteArray) t251 _ A4.out).mono ?_); rintro e w' ⟨rfl, ⟨nd, rfl⟩⟩; refine ⟨_, rfl, ?_⟩) | ((with_reducible refine gate_callee (f := 65) rfl ?_); refine goesL_ (some 32) rfl rfl Try.func65 (by kernel_rfl) rfl #[.string a0, .string (⟨#[47]⟩ : ByteArray)] rfl (by (try simp only [List.map_toArray, List.map_cons, List.map_nil]); first | done | rfl | (simp only [List.length_drop, List.length_take]; rfl)) ?_; (with_reducible refine (fiberutils_zzIndex.calls k a0 (⟨#[47]⟩ : ByteArray) t252 _ A9.out).mono ?_); rintro e w' ⟨rfl, ⟨nd, rfl⟩⟩; refine ⟨_, rfl, ?_⟩))
            go_ret
            exact ⟨by first | rfl | (simp; done) | (simp only [← hji6] <;> (first | rfl | simp)) | (simp [*]; done) | (simp [Go.Proofs.YtjmcndbkmknemaaX.isEmpty_ne]; done), by repeat (first | exact Drawn0.refl _ | apply Drawn0.step)⟩
          · rw [if_neg c10] at H
            have c10b0 : (t252 == (-1)) = false := beq_eq_false_iff_ne.mpr c10
            have c10b1 : (t252 != (-1)) = true := bne_iff_ne.mpr c10
            obtain ⟨ji11, hji11⟩ : ∃ j_ : Int, (wrap64 (t252 + 1)) = j_ := ⟨_, rfl⟩
            replace H : (if 0 ≤ (ji11) then (if (ji11) ≤ (a0.size : Int) then (if (min ((ji11) : Int).toNat a0.size) + ((a0.size - ((ji6) : Int).toNat)) ≤ 9223372036854775807 then (some ((a0.extract 0 ((ji11) : Int).toNat) ++ (a0.extract ((ji6) : Int).toNat a0.size))) else (none)) else (none)) else (none)) = some r := by first | (rw [hji11] at H; exact H) | (simp only [hji11] at H ⊢; exact H)
            (try rw [hji11] at A2)
            (try rw [hji11] at A4)
            (try rw [hji11] at A9)
            have hji11w : (IntKind.i64.wrap (t252 + 1)) = ji11 := (i64_w _).trans hji11
            by_cases c12 : 0 ≤ (ji11)
            · rw [if_pos c12] at H
              have c12b0 := eq_true c12
              have c12b1 : decide (0 ≤ (ji11)) = true := decide_eq_true c12
              clear c12
              by_cases c13 : (ji11) ≤ (a0.size : Int)
              · rw [if_pos c13] at H
                have c13b0 := eq_true c13
                have c13b1 : decide ((ji11) ≤ (a0.size : Int)) = true := decide_eq_true c13
                clear c13
                by_cases c14 : (min ((ji11) : Int).toNat a0.size) + ((a0.size - ((ji6) : Int).toNat)) ≤ 9223372036854775807
                · rw [if_pos c14] at H
                  have c14b0 := eq_true c14
                  have c14b1 : decide ((min ((ji11) : Int).toNat a0.size) + ((a0.size - ((ji6) : Int).toNat)) ≤ 9223372036854775807) = true := decide_eq_true c14
                  try have c14b2 : (9223372036854775807 < (min ((ji11) : Int).toNat a0.size) + ((a0.size - ((ji6) : Int).toNat))) = False := eq_false (Nat.not_lt.2 c14)
                  obtain rfl := Option.some.inj H
                  go_enter Try.func57, Try.ntmps57
                  go_wp2_with (first | ((with_reducible refine gate_callee (f := 65) rfl ?_); refine goesL_ (some 8) rfl rfl Try.func65 (by kernel_rfl) rfl #[.string a0, .string (⟨#[43]⟩ : ByteArray)] rfl (by (try simp only [List.map_toArray, List.map_cons, List.map_nil]); first | done | rfl | (simp only [List.length_drop, List.length_take]; rfl)) ?_; (with_reducible refine (fiberutils_zzIndex.calls k a0 (⟨#[43]⟩ : ByteArray) t250 _ A2.out).mono ?_); rintro e w' ⟨rfl, ⟨nd, rfl⟩⟩; refine ⟨_, rfl, ?_⟩) | ((with_reducible refine gate_callee (f := 65) rfl ?_); refine goesL_ (some 13) rfl rfl Try.func65 (by kernel_rfl) rfl #[.string a0, .string (⟨#[59]⟩ : ByteArray)] rfl (by (try simp only [List.map_toArray, List.map_cons, List.map_nil]); first | done | rfl | (simp only [List.length_drop, List.length_take]; rfl)) ?_; (with_reducible refine (fiberutils_zzIndex.calls k a0 (⟨#[59]⟩ : ByteArray) t251 _ A4.out).mono ?_); rintro e w' ⟨rfl, ⟨nd, rfl⟩⟩; refine ⟨_, rfl, ?_⟩) | ((with_reducible refine gate_callee (f := 65) rfl ?_); refine goesL_ (some 32) rfl rfl Try.func65 (by kernel_rfl) rfl #[.string a0, .string (⟨#[47]⟩ : ByteArray)] rfl (by (try simp only [List.map_toArray, List.map_cons, List.map_nil]); first | done | rfl | (simp only [List.length_drop, List.length_take]; rfl)) ?_; (with_reducible refine (fiberutils_zzIndex.calls k a0 (⟨#[47]⟩ : ByteArray) t252 _ A9.out).mono ?_); rintro e w' ⟨rfl, ⟨nd, rfl⟩⟩; refine ⟨_, rfl, ?_⟩))
                  any_goals (try (exfalso; have zc7b1 := of_decide_eq_true c7b1; have zc8b1 := of_decide_eq_true c8b1; have zc12b1 := of_decide_eq_true c12b1; have zc13b1 := of_decide_eq_true c13b1; have zc14b1 := of_decide_eq_true c14b1; omega))
                  go_ret
                  exact ⟨by first | rfl | (simp; done) | (simp only [← hji6, ← hji11] <;> (first | rfl | simp)) | (simp [*]; done) | (simp [Go.Proofs.YtjmcndbkmknemaaX.isEmpty_ne]; done), by repeat (first | exact Drawn0.refl _ | apply Drawn0.step)⟩
                · rw [if_neg c14] at H
                  exact absurd H (by simp)
              · rw [if_neg c13] at H
                exact absurd H (by simp)
            · rw [if_neg c12] at H
              exact absurd H (by simp)
        · rw [if_neg c8] at H
          exact absurd H (by simp)
      · rw [if_neg c7] at H
        exact absurd H (by simp)
    · rw [if_neg c5] at H
      have c5b0 : (t251 == (-1)) = false := beq_eq_false_iff_ne.mpr c5
      have c5b1 : (t251 != (-1)) = true := bne_iff_ne.mpr c5
      by_cases c15 : t250 < t251
      · rw [if_pos c15] at H
        have c15b0 : decide (t250 < t251) = true := decide_eq_true c15
        clear c15
        obtain ⟨ji16, hji16⟩ : ∃ j_ : Int, (wrap64 (t250 + 1)) = j_ := ⟨_, rfl⟩
        replace H : (if 0 ≤ (ji16) then (if (ji16) ≤ t251 then (if t251 ≤ (a0.size : Int) then ((fiberutils_zzIndex.f k a0 (⟨#[47]⟩ : ByteArray)).bind fun t253 => (if t253 = (-1) then (some a0) else (if 0 ≤ (wrap64 (t253 + 1)) then (if (wrap64 (t253 + 1)) ≤ (a0.size : Int) then (if (min ((wrap64 (t253 + 1)) : Int).toNat a0.size) + ((min (t251 : Int).toNat a0.size - ((ji16) : Int).toNat)) ≤ 9223372036854775807 then (some ((a0.extract 0 ((wrap64 (t253 + 1)) : Int).toNat) ++ (a0.extract ((ji16) : Int).toNat (t251 : Int).toNat))) else (none)) else (none)) else (none)))) else (none)) else (none)) else (none)) = some r := by first | (rw [hji16] at H; exact H) | (simp only [hji16] at H ⊢; exact H)
        (try rw [hji16] at A2)
        (try rw [hji16] at A4)
        have hji16w : (IntKind.i64.wrap (t250 + 1)) = ji16 := (i64_w _).trans hji16
        by_cases c17 : 0 ≤ (ji16)
        · rw [if_pos c17] at H
          have c17b0 := eq_true c17
          have c17b1 : decide (0 ≤ (ji16)) = true := decide_eq_true c17
          clear c17
          by_cases c18 : (ji16) ≤ t251
          · rw [if_pos c18] at H
            have c18b0 := eq_true c18
            have c18b1 : decide ((ji16) ≤ t251) = true := decide_eq_true c18
            clear c18
            by_cases c19 : t251 ≤ (a0.size : Int)
            · rw [if_pos c19] at H
              have c19b0 := eq_true c19
              have c19b1 : decide (t251 ≤ (a0.size : Int)) = true := decide_eq_true c19
              clear c19
              replace H := Option.bind_eq_some_iff.mp H
              obtain ⟨t253, A200, H⟩ := H
              replace H : (if t253 = (-1) then (some a0) else (if 0 ≤ (wrap64 (t253 + 1)) then (if (wrap64 (t253 + 1)) ≤ (a0.size : Int) then (if (min ((wrap64 (t253 + 1)) : Int).toNat a0.size) + ((min (t251 : Int).toNat a0.size - ((ji16) : Int).toNat)) ≤ 9223372036854775807 then (some ((a0.extract 0 ((wrap64 (t253 + 1)) : Int).toNat) ++ (a0.extract ((ji16) : Int).toNat (t251 : Int).toNat))) else (none)) else (none)) else (none))) = some r := H
              have A20 := Aside0.mk A200
              clear A200
              by_cases c21 : t253 = (-1)
              · rw [if_pos c21] at H
                have c21b0 : (t253 == (-1)) = true := beq_iff_eq.mpr c21
                have c21b1 : (t253 != (-1)) = false := bne_eq_false_iff_eq.mpr c21
                clear c21
                obtain rfl := Option.some.inj H
                go_enter Try.func57, Try.ntmps57
                go_wp2_with (first | ((with_reducible refine gate_callee (f := 65) rfl ?_); refine goesL_ (some 8) rfl rfl Try.func65 (by kernel_rfl) rfl #[.string a0, .string (⟨#[43]⟩ : ByteArray)] rfl (by (try simp only [List.map_toArray, List.map_cons, List.map_nil]); first | done | rfl | (simp only [List.length_drop, List.length_take]; rfl)) ?_; (with_reducible refine (fiberutils_zzIndex.calls k a0 (⟨#[43]⟩ : ByteArray) t250 _ A2.out).mono ?_); rintro e w' ⟨rfl, ⟨nd, rfl⟩⟩; refine ⟨_, rfl, ?_⟩) | ((with_reducible refine gate_callee (f := 65) rfl ?_); refine goesL_ (some 13) rfl rfl Try.func65 (by kernel_rfl) rfl #[.string a0, .string (⟨#[59]⟩ : ByteArray)] rfl (by (try simp only [List.map_toArray, List.map_cons, List.map_nil]); first | done | rfl | (simp only [List.length_drop, List.length_take]; rfl)) ?_; (with_reducible refine (fiberutils_zzIndex.calls k a0 (⟨#[59]⟩ : ByteArray) t251 _ A4.out).mono ?_); rintro e w' ⟨rfl, ⟨nd, rfl⟩⟩; refine ⟨_, rfl, ?_⟩) | ((with_reducible refine gate_callee (f := 65) rfl ?_); refine goesL_ (some 32) rfl rfl Try.func65 (by kernel_rfl) rfl #[.string a0, .string (⟨#[47]⟩ : ByteArray)] rfl (by (try simp only [List.map_toArray, List.map_cons, List.map_nil]); first | done | rfl | (simp only [List.length_drop, List.length_take]; rfl)) ?_; (with_reducible refine (fiberutils_zzIndex.calls k a0 (⟨#[47]⟩ : ByteArray) t253 _ A20.out).mono ?_); rintro e w' ⟨rfl, ⟨nd, rfl⟩⟩; refine ⟨_, rfl, ?_⟩))
                go_ret
                exact ⟨by first | rfl | (simp; done) | (simp only [← hji16] <;> (first | rfl | simp)) | (simp [*]; done) | (simp [Go.Proofs.YtjmcndbkmknemaaX.isEmpty_ne]; done), by repeat (first | exact Drawn0.refl _ | apply Drawn0.step)⟩
              · rw [if_neg c21] at H
                have c21b0 : (t253 == (-1)) = false := beq_eq_false_iff_ne.mpr c21
                have c21b1 : (t253 != (-1)) = true := bne_iff_ne.mpr c21
                obtain ⟨ji22, hji22⟩ : ∃ j_ : Int, (wrap64 (t253 + 1)) = j_ := ⟨_, rfl⟩
                replace H : (if 0 ≤ (ji22) then (if (ji22) ≤ (a0.size : Int) then (if (min ((ji22) : Int).toNat a0.size) + ((min (t251 : Int).toNat a0.size - ((ji16) : Int).toNat)) ≤ 9223372036854775807 then (some ((a0.extract 0 ((ji22) : Int).toNat) ++ (a0.extract ((ji16) : Int).toNat (t251 : Int).toNat))) else (none)) else (none)) else (none)) = some r := by first | (rw [hji22] at H; exact H) | (simp only [hji22] at H ⊢; exact H)
                (try rw [hji22] at A2)
                (try rw [hji22] at A4)
                (try rw [hji22] at A20)
                have hji22w : (IntKind.i64.wrap (t253 + 1)) = ji22 := (i64_w _).trans hji22
                by_cases c23 : 0 ≤ (ji22)
                · rw [if_pos c23] at H
                  have c23b0 := eq_true c23
                  have c23b1 : decide (0 ≤ (ji22)) = true := decide_eq_true c23
                  clear c23
                  by_cases c24 : (ji22) ≤ (a0.size : Int)
                  · rw [if_pos c24] at H
                    have c24b0 := eq_true c24
                    have c24b1 : decide ((ji22) ≤ (a0.size : Int)) = true := decide_eq_true c24
                    clear c24
                    by_cases c25 : (min ((ji22) : Int).toNat a0.size) + ((min (t251 : Int).toNat a0.size - ((ji16) : Int).toNat)) ≤ 9223372036854775807
                    · rw [if_pos c25] at H
                      have c25b0 := eq_true c25
                      have c25b1 : decide ((min ((ji22) : Int).toNat a0.size) + ((min (t251 : Int).toNat a0.size - ((ji16) : Int).toNat)) ≤ 9223372036854775807) = true := decide_eq_true c25
                      try have c25b2 : (9223372036854775807 < (min ((ji22) : Int).toNat a0.size) + ((min (t251 : Int).toNat a0.size - ((ji16) : Int).toNat))) = False := eq_false (Nat.not_lt.2 c25)
                      obtain rfl := Option.some.inj H
                      go_enter Try.func57, Try.ntmps57
                      go_wp2_with (first | ((with_reducible refine gate_callee (f := 65) rfl ?_); refine goesL_ (some 8) rfl rfl Try.func65 (by kernel_rfl) rfl #[.string a0, .string (⟨#[43]⟩ : ByteArray)] rfl (by (try simp only [List.map_toArray, List.map_cons, List.map_nil]); first | done | rfl | (simp only [List.length_drop, List.length_take]; rfl)) ?_; (with_reducible refine (fiberutils_zzIndex.calls k a0 (⟨#[43]⟩ : ByteArray) t250 _ A2.out).mono ?_); rintro e w' ⟨rfl, ⟨nd, rfl⟩⟩; refine ⟨_, rfl, ?_⟩) | ((with_reducible refine gate_callee (f := 65) rfl ?_); refine goesL_ (some 13) rfl rfl Try.func65 (by kernel_rfl) rfl #[.string a0, .string (⟨#[59]⟩ : ByteArray)] rfl (by (try simp only [List.map_toArray, List.map_cons, List.map_nil]); first | done | rfl | (simp only [List.length_drop, List.length_take]; rfl)) ?_; (with_reducible refine (fiberutils_zzIndex.calls k a0 (⟨#[59]⟩ : ByteArray) t251 _ A4.out).mono ?_); rintro e w' ⟨rfl, ⟨nd, rfl⟩⟩; refine ⟨_, rfl, ?_⟩) | ((with_reducible refine gate_callee (f := 65) rfl ?_); refine goesL_ (some 32) rfl rfl Try.func65 (by kernel_rfl) rfl #[.string a0, .string (⟨#[47]⟩ : ByteArray)] rfl (by (try simp only [List.map_toArray, List.map_cons, List.map_nil]); first | done | rfl | (simp only [List.length_drop, List.length_take]; rfl)) ?_; (with_reducible refine (fiberutils_zzIndex.calls k a0 (⟨#[47]⟩ : ByteArray) t253 _ A20.out).mono ?_); rintro e w' ⟨rfl, ⟨nd, rfl⟩⟩; refine ⟨_, rfl, ?_⟩))
                      any_goals (try (exfalso; have zc15b0 := of_decide_eq_true c15b0; have zc17b1 := of_decide_eq_true c17b1; have zc18b1 := of_decide_eq_true c18b1; have zc19b1 := of_decide_eq_true c19b1; have zc23b1 := of_decide_eq_true c23b1; have zc24b1 := of_decide_eq_true c24b1; have zc25b1 := of_decide_eq_true c25b1; omega))
                      go_ret
                      exact ⟨by first | rfl | (simp; done) | (simp only [← hji16, ← hji22] <;> (first | rfl | simp)) | (simp [*]; done) | (simp [Go.Proofs.YtjmcndbkmknemaaX.isEmpty_ne]; done), by repeat (first | exact Drawn0.refl _ | apply Drawn0.step)⟩
                    · rw [if_neg c25] at H
                      exact absurd H (by simp)
                  · rw [if_neg c24] at H
                    exact absurd H (by simp)
                · rw [if_neg c23] at H
                  exact absurd H (by simp)
            · rw [if_neg c19] at H
              exact absurd H (by simp)
          · rw [if_neg c18] at H
            exact absurd H (by simp)
        · rw [if_neg c17] at H
          exact absurd H (by simp)
      · rw [if_neg c15] at H
        have c15b0 : decide (t250 < t251) = false := decide_eq_false c15
        clear c15
        by_cases c26 : 0 ≤ t251
        · rw [if_pos c26] at H
          have c26b0 := eq_true c26
          have c26b1 : decide (0 ≤ t251) = true := decide_eq_true c26
          clear c26
          by_cases c27 : t251 ≤ (a0.size : Int)
          · rw [if_pos c27] at H
            have c27b0 := eq_true c27
            have c27b1 : decide (t251 ≤ (a0.size : Int)) = true := decide_eq_true c27
            clear c27
            obtain rfl := Option.some.inj H
            go_enter Try.func57, Try.ntmps57
            go_wp2_with (first | ((with_reducible refine gate_callee (f := 65) rfl ?_); refine goesL_ (some 8) rfl rfl Try.func65 (by kernel_rfl) rfl #[.string a0, .string (⟨#[43]⟩ : ByteArray)] rfl (by (try simp only [List.map_toArray, List.map_cons, List.map_nil]); first | done | rfl | (simp only [List.length_drop, List.length_take]; rfl)) ?_; (with_reducible refine (fiberutils_zzIndex.calls k a0 (⟨#[43]⟩ : ByteArray) t250 _ A2.out).mono ?_); rintro e w' ⟨rfl, ⟨nd, rfl⟩⟩; refine ⟨_, rfl, ?_⟩) | ((with_reducible refine gate_callee (f := 65) rfl ?_); refine goesL_ (some 13) rfl rfl Try.func65 (by kernel_rfl) rfl #[.string a0, .string (⟨#[59]⟩ : ByteArray)] rfl (by (try simp only [List.map_toArray, List.map_cons, List.map_nil]); first | done | rfl | (simp only [List.length_drop, List.length_take]; rfl)) ?_; (with_reducible refine (fiberutils_zzIndex.calls k a0 (⟨#[59]⟩ : ByteArray) t251 _ A4.out).mono ?_); rintro e w' ⟨rfl, ⟨nd, rfl⟩⟩; refine ⟨_, rfl, ?_⟩))
            go_ret
            exact ⟨by first | rfl | (simp; done) | (simp [*]; done) | (simp [Go.Proofs.YtjmcndbkmknemaaX.isEmpty_ne]; done), by repeat (first | exact Drawn0.refl _ | apply Drawn0.step)⟩
          · rw [if_neg c27] at H
            exact absurd H (by simp)
        · rw [if_neg c26] at H
          exact absurd H (by simp)

/-! ### impl_ContentType: function 37 -/
def impl_ContentType.f (k : Nat) (a0 : ByteArray) : Option (ByteArray) := (fiberutils_ParseVendorSpecificContentType.f k a0).bind fun t254 => (some t254)
theorem impl_ContentType.mono : ∀ a0 k, LeO (impl_ContentType.f k a0) (impl_ContentType.f (k + 1) a0) := by
  intro a0 k
  unfold impl_ContentType.f
  repeat' first
      | (with_reducible exact fiberutils_ParseVendorSpecificContentType.mono _ _)
      | (with_reducible exact LeO.refl _)
      | (with_reducible exact LeO.none _)
      | (with_reducible refine LeO.ite ?_ ?_)
      | (with_reducible refine LeO.bind ?_ (fun _ => ?_))
      | exact fiberutils_ParseVendorSpecificContentType.mono _ _
      | exact LeO.none _
      | refine LeO.ite ?_ ?_
      | refine LeO.bind ?_ (fun _ => ?_)
set_option maxHeartbeats 8000000 in
set_option maxRecDepth 100000 in
theorem impl_ContentType.calls (k : Nat) (a0 : ByteArray) (r : ByteArray) (w : World) (h : impl_ContentType.f k a0 = some r) :
    Calls Try.prog 37 #[.string a0] w fun e w' => e = .returned (.string r) ∧ Drawn0 w w' := by
  have H : ((fiberutils_ParseVendorSpecificContentType.f k a0).bind fun t254 => (some t254)) = some r := h
  clear h
  replace H := Option.bind_eq_some_iff.mp H
  obtain ⟨t254, A20, H⟩ := H
  replace H : (some t254) = some r := H
  have A2 := Aside0.mk A20
  clear A20
  obtain rfl := Option.some.inj H
  go_enter Try.func37, Try.ntmps37
  go_wp2_with (first | ((with_reducible refine gate_callee (f := 57) rfl ?_); refine goesL_ (some 4) rfl rfl Try.func57 (by kernel_rfl) rfl #[.string a0] rfl (by (try simp only [List.map_toArray, List.map_cons, List.map_nil]); first | done | rfl | (simp only [List.length_drop, List.length_take]; rfl)) ?_; (with_reducible refine (fiberutils_ParseVendorSpecificContentType.calls k a0 t254 _ A2.out).mono ?_); rintro e w' ⟨rfl, ⟨nd, rfl⟩⟩; refine ⟨_, rfl, ?_⟩))
  go_ret
  exact ⟨by first | rfl | (simp; done) | (simp [*]; done) | (simp [Go.Proofs.YtjmcndbkmknemaaX.isEmpty_ne]; done), by repeat (first | exact Drawn0.refl _ | apply Drawn0.step)⟩

/-! ### laws_holds: function 38 -/
def laws_holds.l0 : Nat → ByteArray → Int → Int → Int → Option (Bool)
  | 0, _, _, _, _ => none
  | k + 1, x0, x1, x7, x8 => if x8 < x7 then (if 0 ≤ x8 then (if x8 < (x0.size : Int) then (if (bt x0 x8) = x1 then (some true) else (laws_holds.l0 k x0 x1 x7 (wrap64 (x8 + 1)))) else (none)) else (none)) else (some false)
def laws_holds.f (k : Nat) (a0 : ByteArray) (a1 : Int) : Option (Bool) := laws_holds.l0 k a0 a1 (a0.size : Int) 0
theorem laws_holds.mono_l : ∀ k, (∀ y0 y1 y2 y3, LeO (laws_holds.l0 k y0 y1 y2 y3) (laws_holds.l0 (k + 1) y0 y1 y2 y3))
  | 0 => fun _ _ _ _ r h => by simp [laws_holds.l0] at h
  | k + 1 => by
    have ih0 := laws_holds.mono_l k
    · intro y0 y1 y2 y3
      unfold laws_holds.l0
      repeat' first
      | (with_reducible exact ih0 _ _ _ _)
      | (with_reducible exact LeO.refl _)
      | (with_reducible exact LeO.none _)
      | (with_reducible refine LeO.ite ?_ ?_)
      | (with_reducible refine LeO.bind ?_ (fun _ => ?_))
      | exact ih0 _ _ _ _
      | exact LeO.none _
      | refine LeO.ite ?_ ?_
      | refine LeO.bind ?_ (fun _ => ?_)
theorem laws_holds.mono : ∀ a0 a1 k, LeO (laws_holds.f k a0 a1) (laws_holds.f (k + 1) a0 a1) := by
  intro a0 a1 k
  have ih0 := laws_holds.mono_l k
  unfold laws_holds.f
  repeat' first
      | (with_reducible exact ih0 _ _ _ _)
      | (with_reducible exact LeO.refl _)
      | (with_reducible exact LeO.none _)
      | (with_reducible refine LeO.ite ?_ ?_)
      | (with_reducible refine LeO.bind ?_ (fun _ => ?_))
      | exact ih0 _ _ _ _
      | exact LeO.none _
      | refine LeO.ite ?_ ?_
      | refine LeO.bind ?_ (fun _ => ?_)
set_option maxHeartbeats 8000000 in
set_option maxRecDepth 100000 in
theorem laws_holds.calls (k : Nat) (a0 : ByteArray) (a1 : Int) (r : Bool) (w : World) (h : laws_holds.f k a0 a1 = some r) :
    Calls Try.prog 38 #[.string a0, .int .u8 a1] w fun e w' => e = .returned (.bool r) ∧ Drawn0 w w' := by
  have H : (laws_holds.l0 k a0 a1 (a0.size : Int) 0) = some r := h
  clear h
  have H' := Aside0.mk H
  clear H
  go_enter Try.func38, Try.ntmps38
  go_wp2
  go_loopg [8] k (fun kq v8 w' => ∃ (x8_1 : Int), v8 = .int .i64 x8_1 ∧ Aside0 (laws_holds.l0 kq a0 a1 (a0.size : Int) x8_1 = some r) ∧ Aside0 (kq ≤ k) ∧ Drawn0 w w')
  case atStart => exact ⟨(0), (by first | rfl | (simp; done) | (simp [*]; done) | (simp [Go.Proofs.YtjmcndbkmknemaaX.isEmpty_ne]; done)), H', ⟨Nat.le_refl _⟩, by repeat (first | exact Drawn0.refl _ | apply Drawn0.step)⟩
  case round =>
    clear H'
    try clear p2
    obtain ⟨x8_1, rfl, HA, HK1, ⟨m1, rfl⟩⟩ := hrel
    cases gk with
    | zero => exact absurd HA.out (by simp [laws_holds.l0])
    | succ k1 =>
      have H := HA.out
      clear HA
      simp only [laws_holds.l0] at H
      by_cases c3 : x8_1 < (a0.size : Int)
      · rw [if_pos c3] at H
        have c3b0 : decide (x8_1 < (a0.size : Int)) = true := decide_eq_true c3
        clear c3
        by_cases c4 : 0 ≤ x8_1
        · rw [if_pos c4] at H
          have c4b0 : decide (0 ≤ x8_1) = true := decide_eq_true c4
          clear c4
          by_cases c5 : x8_1 < (a0.size : Int)
          · rw [if_pos c5] at H
            have c5b0 : decide (x8_1 < (a0.size : Int)) = true := decide_eq_true c5
            clear c5
            by_cases c7 : (bt a0 x8_1) = a1
            · rw [if_pos c7] at H
              have c7b0 : ((bt a0 x8_1) == a1) = true := beq_iff_eq.mpr c7
              have c7b1 : ((bt a0 x8_1) != a1) = false := bne_eq_false_iff_eq.mpr c7
              clear c7
              obtain rfl := Option.some.inj H
              have p6 : 0 ≤ (x8_1 : Int) := of_decide_eq_true (by first | (with_reducible assumption) | assumption)
              have q6 : x8_1 < (a0.size : Int) := of_decide_eq_true (by first | (with_reducible assumption) | assumption)
              have hx6 := bt_at a0 x8_1
              replace p6 := eq_true p6
              replace q6 := eq_true q6
              go_wp2
              go_ret
              exact ⟨by first | rfl | (simp; done) | (simp [*]; done) | (simp [Go.Proofs.YtjmcndbkmknemaaX.isEmpty_ne]; done), by repeat (first | exact Drawn0.refl _ | apply Drawn0.step)⟩
            · rw [if_neg c7] at H
              have c7b0 : ((bt a0 x8_1) == a1) = false := beq_eq_false_iff_ne.mpr c7
              have c7b1 : ((bt a0 x8_1) != a1) = true := bne_iff_ne.mpr c7
              have H' := Aside0.mk H
              clear H
              have p6 : 0 ≤ (x8_1 : Int) := of_decide_eq_true (by first | (with_reducible assumption) | assumption)
              have q6 : x8_1 < (a0.size : Int) := of_decide_eq_true (by first | (with_reducible assumption) | assumption)
              have hx6 := bt_at a0 x8_1
              replace p6 := eq_true p6
              replace q6 := eq_true q6
              go_wp2
              go_roundg k1
              case measure => have := HK1.out; omega
              case rel => exact ⟨(wrap64 (x8_1 + 1)), (by first | rfl | (simp; done) | (simp [*]; done) | (simp [Go.Proofs.YtjmcndbkmknemaaX.isEmpty_ne]; done)), H', ⟨by have := HK1.out; omega⟩, by repeat (first | exact Drawn0.refl _ | apply Drawn0.step)⟩
          · rw [if_neg c5] at H
            exact absurd H (by simp)
        · rw [if_neg c4] at H
          exact absurd H (by simp)
      · rw [if_neg c3] at H
        have c3b0 : decide (x8_1 < (a0.size : Int)) = false := decide_eq_false c3
        clear c3
        obtain rfl := Option.some.inj H
        go_wp2
        go_ret
        exact ⟨by first | rfl | (simp; done) | (simp [*]; done) | (simp [Go.Proofs.YtjmcndbkmknemaaX.isEmpty_ne]; done), by repeat (first | exact Drawn0.refl _ | apply Drawn0.step)⟩

/-! ### laws_FnContentPlain: function 12 -/
def laws_FnContentPlain.f (k : Nat) (a0 : ByteArray) : Option (Bool) := if (a0.size : Int) > 2147483647 then (some true) else ((impl_ContentType.f k (⟨#[97, 47, 98]⟩ : ByteArray)).bind fun t255 => (if t255.toList = ([97, 47, 98] : List UInt8) then ((laws_holds.f k a0 43).bind fun t256 => (if t256 = true then (some true) else ((laws_short.f k (([a0] : List ByteArray))).bind fun t260 => (if t260 = true then ((impl_ContentType.f k a0).bind fun t261 => (some (t261.toList == a0.toList))) else (some true))))) else (some false)))
theorem laws_FnContentPlain.mono : ∀ a0 k, LeO (laws_FnContentPlain.f k a0) (laws_FnContentPlain.f (k + 1) a0) := by
  intro a0 k
  unfold laws_FnContentPlain.f
  repeat' first
      | (with_reducible exact impl_ContentType.mono _ _)
      | (with_reducible exact laws_holds.mono _ _ _)
      | (with_reducible exact laws_short.mono _ _)
      | (with_reducible exact LeO.refl _)
      | (with_reducible exact LeO.none _)
      | (with_reducible refine LeO.ite ?_ ?_)
      | (with_reducible refine LeO.bind ?_ (fun _ => ?_))
      | exact impl_ContentType.mono _ _
      | exact laws_holds.mono _ _ _
      | exact laws_short.mono _ _
      | exact LeO.none _
      | refine LeO.ite ?_ ?_
      | refine LeO.bind ?_ (fun _ => ?_)
set_option maxHeartbeats 8000000 in
set_option maxRecDepth 100000 in
theorem laws_FnContentPlain.calls (k : Nat) (a0 : ByteArray) (r : Bool) (w : World) (h : laws_FnContentPlain.f k a0 = some r) :
    Calls Try.prog 12 #[.string a0] w fun e w' => e = .returned (.bool r) ∧ Below w.heap.size w w' := by
  have HB := Aside0.mk (Below.refl w.heap.size w)
  have H : (if (a0.size : Int) > 2147483647 then (some true) else ((impl_ContentType.f k (⟨#[97, 47, 98]⟩ : ByteArray)).bind fun t255 => (if t255.toList = ([97, 47, 98] : List UInt8) then ((laws_holds.f k a0 43).bind fun t256 => (if t256 = true then (some true) else ((laws_short.f k (([a0] : List ByteArray))).bind fun t260 => (if t260 = true then ((impl_ContentType.f k a0).bind fun t261 => (some (t261.toList == a0.toList))) else (some true))))) else (some false)))) = some r := h
  clear h
  by_cases c2 : (a0.size : Int) > 2147483647
  · rw [if_pos c2] at H
    have c2b0 : decide (2147483647 < (a0.size : Int)) = true := decide_eq_true c2
    have c2b1 : decide (2147483647 < a0.size) = true := decide_eq_true (by omega)
    clear c2
    obtain rfl := Option.some.inj H
    go_enter Try.func12, Try.ntmps12
    go_wp2
    go_ret
    exact ⟨by first | rfl | (simp [errW_none, errW_some] <;> rfl) | (simp [*, errW_none, errW_some] <;> rfl), by repeat (first | (with_reducible first | exact HB.out | apply below_alloc | apply pw_below_drewN | apply below_drew1) | exact HB.out)⟩
  · rw [if_neg c2] at H
    have c2b0 : decide (2147483647 < (a0.size : Int)) = false := decide_eq_false c2
    have c2b1 : decide (2147483647 < a0.size) = false := decide_eq_false (by omega)
    clear c2
    replace H := Option.bind_eq_some_iff.mp H
    obtain ⟨t255, A30, H⟩ := H
    replace H : (if t255.toList = ([97, 47, 98] : List UInt8) then ((laws_holds.f k a0 43).bind fun t256 => (if t256 = true then (some true) else ((laws_short.f k (([a0] : List ByteArray))).bind fun t260 => (if t260 = true then ((impl_ContentType.f k a0).bind fun t261 => (some (t261.toList == a0.toList))) else (some true))))) else (some false)) = some r := H
    have A3 := Aside0.mk A30
    clear A30
    by_cases c4 : t255.toList = ([97, 47, 98] : List UInt8)
    · rw [if_pos c4] at H
      have c4b0 : (t255.toList == ([97, 47, 98] : List UInt8)) = true := beq_iff_eq.mpr c4
      have c4b1 : (t255.toList != ([97, 47, 98] : List UInt8)) = false := bne_eq_false_iff_eq.mpr c4
      clear c4
      replace H := Option.bind_eq_some_iff.mp H
      obtain ⟨t256, A50, H⟩ := H
      replace H : (if t256 = true then (some true) else ((laws_short.f k (([a0] : List ByteArray))).bind fun t260 => (if t260 = true then ((impl_ContentType.f k a0).bind fun t261 => (some (t261.toList == a0.toList))) else (some true)))) = some r := H
      have A5 := Aside0.mk A50
      clear A50
      by_cases c6 : t256 = true
      · subst c6
        have H1 : (some true) = some r := by rw [if_pos rfl] at H; exact H
        clear H
        have H := H1
        clear H1
        obtain rfl := Option.some.inj H
        go_enter Try.func12, Try.ntmps12
        go_wp2_with (first | ((with_reducible refine gate_callee (f := 37) rfl ?_); refine goesL_ (some 6) rfl rfl Try.func37 (by kernel_rfl) rfl #[.string (⟨#[97, 47, 98]⟩ : ByteArray)] rfl (by (try simp only [List.map_toArray, List.map_cons, List.map_nil]); first | done | rfl | (simp only [List.length_drop, List.length_take]; rfl)) ?_; (with_reducible refine (impl_ContentType.calls k (⟨#[97, 47, 98]⟩ : ByteArray) t255 _ A3.out).mono ?_); rintro e w' ⟨rfl, ⟨nd, rfl⟩⟩; refine ⟨_, rfl, ?_⟩) | ((with_reducible refine gate_callee (f := 38) rfl ?_); refine goesL_ (some 9) rfl rfl Try.func38 (by kernel_rfl) rfl #[.string a0, .int .u8 43] rfl (by (try simp only [List.map_toArray, List.map_cons, List.map_nil]); first | done | rfl | (simp only [List.length_drop, List.length_take]; rfl)) ?_; (with_reducible refine (laws_holds.calls k a0 43 true _ A5.out).mono ?_); rintro e w' ⟨rfl, ⟨nd, rfl⟩⟩; refine ⟨_, rfl, ?_⟩))
        go_ret
        exact ⟨by first | rfl | (simp [errW_none, errW_some] <;> rfl) | (simp [*, errW_none, errW_some] <;> rfl), by repeat (first | (with_reducible first | exact HB.out | apply below_alloc | apply pw_below_drewN | apply below_drew1) | exact HB.out)⟩
      · replace c6 := Bool.eq_false_iff.mpr c6
        subst c6
        have H1 : ((laws_short.f k (([a0] : List ByteArray))).bind fun t260 => (if t260 = true then ((impl_ContentType.f k a0).bind fun t261 => (some (t261.toList == a0.toList))) else (some true))) = some r := by rw [if_neg (show ¬ (false = true) by decide)] at H; exact H
        clear H
        have H := H1
        clear H1
        obtain ⟨y257, hy257⟩ : ∃ y_ : List ByteArray, y_ = (([a0] : List ByteArray)) := ⟨_, rfl⟩
        replace H : ((laws_short.f k y257).bind fun t260 => (if t260 = true then ((impl_ContentType.f k a0).bind fun t261 => (some (t261.toList == a0.toList))) else (some true))) = some r := by first | (rw [hy257]; with_reducible exact H) | (have H2_ := (Option.bind_some _ _).symm.trans H; rw [hy257]; with_reducible exact H2_) | (have H2_ := (Option.bind_some _ _).symm.trans H; with_reducible exact H2_) | with_reducible exact H | (rw [hy257]; exact H) | exact H
        have Ny257 := Aside0.mk hy257
        clear hy257
        replace H := Option.bind_eq_some_iff.mp H
        obtain ⟨t260, A70, H⟩ := H
        replace H : (if t260 = true then ((impl_ContentType.f k a0).bind fun t261 => (some (t261.toList == a0.toList))) else (some true)) = some r := H
        have A7 := Aside0.mk A70
        clear A70
        by_cases c8 : t260 = true
        · subst c8
          have H1 : ((impl_ContentType.f k a0).bind fun t261 => (some (t261.toList == a0.toList))) = some r := by rw [if_pos rfl] at H; exact H
          clear H
          have H := H1
          clear H1
          replace H := Option.bind_eq_some_iff.mp H
          obtain ⟨t261, A90, H⟩ := H
          replace H : (some (t261.toList == a0.toList)) = some r := H
          have A9 := Aside0.mk A90
          clear A90
          obtain rfl := Option.some.inj H
          go_enter Try.func12, Try.ntmps12
          go_wp2_with (first | ((with_reducible refine gate_callee (f := 37) rfl ?_); refine goesL_ (some 6) rfl rfl Try.func37 (by kernel_rfl) rfl #[.string (⟨#[97, 47, 98]⟩ : ByteArray)] rfl (by (try simp only [List.map_toArray, List.map_cons, List.map_nil]); first | done | rfl | (simp only [List.length_drop, List.length_take]; rfl)) ?_; (with_reducible refine (impl_ContentType.calls k (⟨#[97, 47, 98]⟩ : ByteArray) t255 _ A3.out).mono ?_); rintro e w' ⟨rfl, ⟨nd, rfl⟩⟩; refine ⟨_, rfl, ?_⟩) | ((with_reducible refine gate_callee (f := 38) rfl ?_); refine goesL_ (some 9) rfl rfl Try.func38 (by kernel_rfl) rfl #[.string a0, .int .u8 43] rfl (by (try simp only [List.map_toArray, List.map_cons, List.map_nil]); first | done | rfl | (simp only [List.length_drop, List.length_take]; rfl)) ?_; (with_reducible refine (laws_holds.calls k a0 43 false _ A5.out).mono ?_); rintro e w' ⟨rfl, ⟨nd, rfl⟩⟩; refine ⟨_, rfl, ?_⟩) | ((with_reducible refine gate_dst (N := 12) rfl ?_); (try (refine gate_guard (by rfl) ?_; dsimp only)); refine Kd.R_lit Kd.string _ 9 ?hg (N := 12) ?hd (xs := ([a0] : List ByteArray)) (inner := [.string a0]) (ok := fun _ => True) (okp := fun _ => True) ?hr ?hp (fun _ hk => hk) trivial (Below.refl _ _) (Nat.le_refl _) (by simp) ?_; (case hd => rfl); (case hg => rfl); (case hr => first | (go_simp; done) | (go_simp; rfl)); (case hp => exact (Reps.one (show Kd.M Kd.string _ _ _ a0 [.string a0] from rfl) (Reps.none _ _))); intro v258 w10 ho11 hb hg_ hnew_; clear hg_ hnew_; (first | rw [← Ny257.out] at ho11 | (simp only [Int.reduceToNat] at ho11; rw [← Ny257.out] at ho11)); have n0_ := Aside0.mk (Kd.R_lower ho11 (below_size (by repeat (first | (with_reducible first | exact HB.out | apply below_alloc | apply pw_below_drewN | apply below_drew1) | exact HB.out)))); have n1_ := Aside0.mk (below_step (by repeat (first | (with_reducible first | exact HB.out | apply below_alloc | apply pw_below_drewN | apply below_drew1) | exact HB.out)) hb); clear HB; have HO259 := n0_; have HB := n1_; clear n0_ n1_; clear hb ho11; obtain ⟨Ao12, co12, eo12⟩ := Kd.R_slice HO259.out; subst eo12) | (go_at_call 23; (with_reducible refine (laws_short.calls k _ _ y257 true _ ?side1 ?side2 A7.out).mono ?_); (case side1 => repeat (first | exact (Kd.R_reads' HO259.out).2.2 | (with_reducible refine Kd.C_alloc ?_ _) | (with_reducible refine Kd.C_drewN ?_ _) | (with_reducible refine Kd.C_drew ?_))); (case side2 => exact (Kd.R_reads' HO259.out).2.1); rintro e w' ⟨rfl, ⟨nd, rfl⟩⟩) | (go_at_call 37; (with_reducible refine (impl_ContentType.calls k a0 t261 _ A9.out).mono ?_); rintro e w' ⟨rfl, ⟨nd, rfl⟩⟩))
          go_ret
          exact ⟨by first | rfl | (simp [errW_none, errW_some] <;> rfl) | (simp [*, errW_none, errW_some] <;> rfl), by repeat (first | (with_reducible first | exact HB.out | apply below_alloc | apply pw_below_drewN | apply below_drew1) | exact HB.out)⟩
        · replace c8 := Bool.eq_false_iff.mpr c8
          subst c8
          have H1 : (some true) = some r := by rw [if_neg (show ¬ (false = true) by decide)] at H; exact H
          clear H
          have H := H1
          clear H1
          obtain rfl := Option.some.inj H
          go_enter Try.func12, Try.ntmps12
          go_wp2_with (first | ((with_reducible refine gate_callee (f := 37) rfl ?_); refine goesL_ (some 6) rfl rfl Try.func37 (by kernel_rfl) rfl #[.string (⟨#[97, 47, 98]⟩ : ByteArray)] rfl (by (try simp only [List.map_toArray, List.map_cons, List.map_nil]); first | done | rfl | (simp only [List.length_drop, List.length_take]; rfl)) ?_; (with_reducible refine (impl_ContentType.calls k (⟨#[97, 47, 98]⟩ : ByteArray) t255 _ A3.out).mono ?_); rintro e w' ⟨rfl, ⟨nd, rfl⟩⟩; refine ⟨_, rfl, ?_⟩) | ((with_reducible refine gate_callee (f := 38) rfl ?_); refine goesL_ (some 9) rfl rfl Try.func38 (by kernel_rfl) rfl #[.string a0, .int .u8 43] rfl (by (try simp only [List.map_toArray, List.map_cons, List.map_nil]); first | done | rfl | (simp only [List.length_drop, List.length_take]; rfl)) ?_; (with_reducible refine (laws_holds.calls k a0 43 false _ A5.out).mono ?_); rintro e w' ⟨rfl, ⟨nd, rfl⟩⟩; refine ⟨_, rfl, ?_⟩) | ((with_reducible refine gate_dst (N := 12) rfl ?_); (try (refine gate_guard (by rfl) ?_; dsimp only)); refine Kd.R_lit Kd.string _ 9 ?hg (N := 12) ?hd (xs := ([a0] : List ByteArray)) (inner := [.string a0]) (ok := fun _ => True) (okp := fun _ => True) ?hr ?hp (fun _ hk => hk) trivial (Below.refl _ _) (Nat.le_refl _) (by simp) ?_; (case hd => rfl); (case hg => rfl); (case hr => first | (go_simp; done) | (go_simp; rfl)); (case hp => exact (Reps.one (show Kd.M Kd.string _ _ _ a0 [.string a0] from rfl) (Reps.none _ _))); intro v258 w13 ho14 hb hg_ hnew_; clear hg_ hnew_; (first | rw [← Ny257.out] at ho14 | (simp only [Int.reduceToNat] at ho14; rw [← Ny257.out] at ho14)); have n0_ := Aside0.mk (Kd.R_lower ho14 (below_size (by repeat (first | (with_reducible first | exact HB.out | apply below_alloc | apply pw_below_drewN | apply below_drew1) | exact HB.out)))); have n1_ := Aside0.mk (below_step (by repeat (first | (with_reducible first | exact HB.out | apply below_alloc | apply pw_below_drewN | apply below_drew1) | exact HB.out)) hb); clear HB; have HO259 := n0_; have HB := n1_; clear n0_ n1_; clear hb ho14; obtain ⟨Ao15, co15, eo15⟩ := Kd.R_slice HO259.out; subst eo15) | (go_at_call 23; (with_reducible refine (laws_short.calls k _ _ y257 false _ ?side1 ?side2 A7.out).mono ?_); (case side1 => repeat (first | exact (Kd.R_reads' HO259.out).2.2 | (with_reducible refine Kd.C_alloc ?_ _) | (with_reducible refine Kd.C_drewN ?_ _) | (with_reducible refine Kd.C_drew ?_))); (case side2 => exact (Kd.R_reads' HO259.out).2.1); rintro e w' ⟨rfl, ⟨nd, rfl⟩⟩))
          go_ret
          exact ⟨by first | rfl | (simp [errW_none, errW_some] <;> rfl) | (simp [*, errW_none, errW_some] <;> rfl), by repeat (first | (with_reducible first | exact HB.out | apply below_alloc | apply pw_below_drewN | apply below_drew1) | exact HB.out)⟩
    · rw [if_neg c4] at H
      have c4b0 : (t255.toList == ([97, 47, 98] : List UInt8)) = false := beq_eq_false_iff_ne.mpr c4
      have c4b1 : (t255.toList != ([97, 47, 98] : List UInt8)) = true := bne_iff_ne.mpr c4
      obtain rfl := Option.some.inj H
      go_enter Try.func12, Try.ntmps12
      go_wp2_with (first | ((with_reducible refine gate_callee (f := 37) rfl ?_); refine goesL_ (some 6) rfl rfl Try.func37 (by kernel_rfl) rfl #[.string (⟨#[97, 47, 98]⟩ : ByteArray)] rfl (by (try simp only [List.map_toArray, List.map_cons, List.map_nil]); first | done | rfl | (simp only [List.length_drop, List.length_take]; rfl)) ?_; (with_reducible refine (impl_ContentType.calls k (⟨#[97, 47, 98]⟩ : ByteArray) t255 _ A3.out).mono ?_); rintro e w' ⟨rfl, ⟨nd, rfl⟩⟩; refine ⟨_, rfl, ?_⟩))
      go_ret
      exact ⟨by first | rfl | (simp [errW_none, errW_some] <;> rfl) | (simp [*, errW_none, errW_some] <;> rfl), by repeat (first | (with_reducible first | exact HB.out | apply below_alloc | apply pw_below_drewN | apply below_drew1) | exact HB.out)⟩

/-- THE ONE PURE STATEMENT of laws_FnContentPlain: yours. -/
def laws_FnContentPlain.Pure : Prop := ∀ (a0 : ByteArray), a0.size ≤ 140737488351232 → ∃ k, laws_FnContentPlain.f k a0 = some true
theorem laws_FnContentPlain.walk (P : laws_FnContentPlain.Pure) (a0 : ByteArray) (w : World) (w0 : a0.size ≤ 140737488351232) :
    Calls Try.prog 12 #[.string a0] w fun e w' => e = .returned (.bool true) ∧ Below w.heap.size w w' := by
  obtain ⟨k, h⟩ := P a0 w0
  refine (laws_FnContentPlain.calls k a0 true w h).mono ?_
  rintro e w' ⟨rfl, hd⟩
  exact ⟨rfl, hd⟩

-- NOT PRINTED: function 66 (irisast_HasAlias)

-- NOT PRINTED: function 58 (irisast_LookupParamType)

-- NOT PRINTED: function 39 (impl_TypeOf)

/-! ### spec_TypeOf: function 40 -/
def spec_TypeOf.l0 : Nat → ByteArray → List (S53) → Int → Int → Option (ByteArray × ByteArray × Bool × Bool × Bool)
  | 0, _, _, _, _ => none
  | k + 1, x0, x8, x9, x10 => if x10 < x9 then (if 0 ≤ x10 then (if x10 < (x8.length : Int) then (if ((rd_T53 x8 x10).f0).toList = x0.toList then (some ((rd_T53 x8 x10).f0, (rd_T53 x8 x10).f1, (rd_T53 x8 x10).f2, (rd_T53 x8 x10).f3, true)) else (if ((rd_T53 x8 x10).f1).toList = ([] : List UInt8) then (spec_TypeOf.l0 k x0 x8 x9 (wrap64 (x10 + 1))) else (if ((rd_T53 x8 x10).f1).toList = x0.toList then (some ((rd_T53 x8 x10).f0, (rd_T53 x8 x10).f1, (rd_T53 x8 x10).f2, (rd_T53 x8 x10).f3, true)) else (spec_TypeOf.l0 k x0 x8 x9 (wrap64 (x10 + 1)))))) else (none)) else (none)) else (some ((⟨#[]⟩ : ByteArray), (⟨#[]⟩ : ByteArray), false, false, false))
def spec_TypeOf.f (k : Nat) (a0 : ByteArray) (l1 : List (S53)) : Option (ByteArray × ByteArray × Bool × Bool × Bool) := spec_TypeOf.l0 k a0 l1 (l1.length : Int) 0
theorem spec_TypeOf.mono_l : ∀ k, (∀ y0 y1 y2 y3, LeO (spec_TypeOf.l0 k y0 y1 y2 y3) (spec_TypeOf.l0 (k + 1) y0 y1 y2 y3))
  | 0 => fun _ _ _ _ r h => by simp [spec_TypeOf.l0] at h
  | k + 1 => by
    have ih0 := spec_TypeOf.mono_l k
    · intro y0 y1 y2 y3
      unfold spec_TypeOf.l0
      repeat' first
      | (with_reducible exact ih0 _ _ _ _)
      | (with_reducible exact LeO.refl _)
      | (with_reducible exact LeO.none _)
      | (with_reducible refine LeO.ite ?_ ?_)
      | (with_reducible refine LeO.bind ?_ (fun _ => ?_))
      | exact ih0 _ _ _ _
      | exact LeO.none _
      | refine LeO.ite ?_ ?_
      | refine LeO.bind ?_ (fun _ => ?_)
theorem spec_TypeOf.mono : ∀ a0 a1 k, LeO (spec_TypeOf.f k a0 a1) (spec_TypeOf.f (k + 1) a0 a1) := by
  intro a0 a1 k
  have ih0 := spec_TypeOf.mono_l k
  unfold spec_TypeOf.f
  repeat' first
      | (with_reducible exact ih0 _ _ _ _)
      | (with_reducible exact LeO.refl _)
      | (with_reducible exact LeO.none _)
      | (with_reducible refine LeO.ite ?_ ?_)
      | (with_reducible refine LeO.bind ?_ (fun _ => ?_))
      | exact ih0 _ _ _ _
      | exact LeO.none _
      | refine LeO.ite ?_ ?_
      | refine LeO.bind ?_ (fun _ => ?_)
set_option maxHeartbeats 8000000 in
set_option maxRecDepth 100000 in
theorem spec_TypeOf.calls (k : Nat) (a0 : ByteArray) (A1 : Option Addr) (c1 : Nat) (l1 : List (S53)) (r1 : ByteArray) (r2 : ByteArray) (r3 : Bool) (r4 : Bool) (r5 : Bool) (w : World) (hr1 : Kd.C k53 w A1 l1.length l1) (hc1 : l1.length ≤ c1) (h : spec_TypeOf.f k a0 l1 = some (r1, r2, r3, r4, r5)) :
    Calls Try.prog 40 #[.string a0, .slice A1 l1.length c1] w fun e w' => e = .returned (.tuple #[.agg #[.string r1, .string r2, .bool r3, .bool r4], .bool r5]) ∧ Below w.heap.size w w' := by
  have hu53 := Try.underlying53
  have HR1 := Aside0.mk hr1
  have HC1 := Aside0.mk hc1
  clear hr1 hc1
  have HB := Aside0.mk (Below.refl w.heap.size w)
  have H : (spec_TypeOf.l0 k a0 l1 (l1.length : Int) 0) = some (r1, r2, r3, r4, r5) := h
  clear h
  have H' := Aside0.mk H
  clear H
  go_enter Try.func40, Try.ntmps40
  go_wp2_with (first | ((with_reducible refine gate_dst (N := 4) rfl ?_); refine box_event ?hg (N := 4) ?hd (cs := #[.string (⟨#[]⟩ : ByteArray), .string (⟨#[]⟩ : ByteArray), .bool false, .bool false]) (t := 53) ?hr ?_; (case hd => rfl); (case hg => rfl); (case hr => first | (go_simp; done) | (go_simp; rfl)); intro gb263 hg w3 hbox hb; have n0_ := Aside0.mk (below_step (by repeat (first | (with_reducible first | exact HB.out | apply below_alloc | apply pw_below_drewN | apply below_drew1) | exact HB.out)) hb); have n1_ := Aside0.mk (hbox); have n2_ := Aside0.mk ((by rw [hg]; exact (below_size (by repeat (first | (with_reducible first | exact HB.out | apply below_alloc | apply pw_below_drewN | apply below_drew1) | exact HB.out))) : w.heap.size ≤ gb263)); have n3_ := Aside0.mk ((by rw [hg]; exact (below_size (by repeat (first | (with_reducible first | exact HB.out | apply below_alloc | apply pw_below_drewN | apply below_drew1) | exact HB.out))) : w.heap.size ≤ gb263)); clear HB; have HB := n0_; have BK263 := n1_; have GW263 := n2_; have GE263 := n3_; clear n0_ n1_ n2_ n3_; clear hb hbox hg))
  go_loopg [10] k (fun kq v10 w' => ∃ (x10_1 : Int) (x264000_1 : ByteArray) (x264001_1 : ByteArray) (x264002_1 : Bool) (x264003_1 : Bool), v10 = .int .i64 x10_1 ∧ Aside0 (spec_TypeOf.l0 kq a0 l1 (l1.length : Int) x10_1 = some (r1, r2, r3, r4, r5)) ∧ Aside0 (kq ≤ k) ∧ Aside0 (w'.heap[gb263]? = some (.cells #[.string x264000_1, .string x264001_1, .bool x264002_1, .bool x264003_1] 53 (0, 0))) ∧ Aside0 (Below w.heap.size w w'))
  case atStart => exact ⟨(0), ((⟨#[]⟩ : ByteArray)), ((⟨#[]⟩ : ByteArray)), (false), (false), (by first | rfl | (simp; done) | (simp [*]; done) | (simp [Go.Proofs.YtjmcndbkmknemaaX.isEmpty_ne]; done)), H', ⟨Nat.le_refl _⟩, ⟨by (with_reducible repeat (first | refine blk_drewN ?_ _ | refine blk_drew ?_ | refine blk_alloc ?_ _)); exact BK263.out⟩, ⟨by repeat (first | (with_reducible first | exact HB.out | apply below_alloc | apply pw_below_drewN | apply below_drew1 | refine below_set ?_ GE263.out) | exact HB.out)⟩⟩
  case round =>
    clear H'
    try clear c1
    try clear p2
    obtain ⟨x10_1, x264000_1, x264001_1, x264002_1, x264003_1, rfl, HA, HK1, BK263, HB⟩ := hrel
    cases gk with
    | zero => exact absurd HA.out (by simp [spec_TypeOf.l0])
    | succ k1 =>
      have H := HA.out
      clear HA
      simp only [spec_TypeOf.l0] at H
      by_cases c4 : x10_1 < (l1.length : Int)
      · rw [if_pos c4] at H
        have c4b0 : decide (x10_1 < (l1.length : Int)) = true := decide_eq_true c4
        clear c4
        by_cases c5 : 0 ≤ x10_1
        · rw [if_pos c5] at H
          have c5b0 : decide (0 ≤ x10_1) = true := decide_eq_true c5
          clear c5
          by_cases c6 : x10_1 < (l1.length : Int)
          · rw [if_pos c6] at H
            have c6b0 : decide (x10_1 < (l1.length : Int)) = true := decide_eq_true c6
            clear c6
            by_cases c7 : ((rd_T53 l1 x10_1).f0).toList = a0.toList
            · rw [if_pos c7] at H
              have c7b0 : (((rd_T53 l1 x10_1).f0).toList == a0.toList) = true := beq_iff_eq.mpr c7
              have c7b1 : (((rd_T53 l1 x10_1).f0).toList != a0.toList) = false := bne_eq_false_iff_eq.mpr c7
              clear c7
              simp only [Option.some.injEq, Prod.mk.injEq] at H
              obtain ⟨rfl, rfl, rfl, rfl, rfl⟩ := H
              have p264 : 0 ≤ (x10_1 : Int) := of_decide_eq_true (by first | (with_reducible assumption) | assumption)
              have q264 : x10_1 < (l1.length : Int) := of_decide_eq_true (by first | (with_reducible assumption) | assumption)
              obtain ⟨ad264, e264, hx264_0, hx264_1, hx264_2, hx264_3⟩ := at_T53 HR1.out x10_1 p264 q264
              cases e264
              replace hx264_0 := (HB.out.cell (World.block_lt_of_cell? w _ hx264_0)).trans hx264_0
              replace hx264_1 := (HB.out.cell (World.block_lt_of_cell? w _ hx264_1)).trans hx264_1
              replace hx264_2 := (HB.out.cell (World.block_lt_of_cell? w _ hx264_2)).trans hx264_2
              replace hx264_3 := (HB.out.cell (World.block_lt_of_cell? w _ hx264_3)).trans hx264_3
              replace p264 := eq_true p264
              replace q264 := eq_true q264
              go_wp2_with (first | ((with_reducible refine gate_dst (N := 7) rfl ?_); refine box_event ?hg (N := 7) ?hd (cs := #[.string (⟨#[]⟩ : ByteArray), .string (⟨#[]⟩ : ByteArray), .bool false, .bool false]) (t := 53) ?hr ?_; (case hd => rfl); (case hg => rfl); (case hr => first | (go_simp; done) | (go_simp; rfl)); intro gb265 hg w8 hbox hb; have n0_ := Aside0.mk (blk_below (g := gb263) (o := .cells #[.string x264000_1, .string x264001_1, .bool x264002_1, .bool x264003_1] 53 (0, 0)) (by (with_reducible repeat (first | refine blk_drewN ?_ _ | refine blk_drew ?_ | refine blk_alloc ?_ _)); exact BK263.out) hb); have n1_ := Aside0.mk (below_step (by repeat (first | (with_reducible first | exact HB.out | apply below_alloc | apply pw_below_drewN | apply below_drew1 | refine below_set ?_ GE263.out) | exact HB.out)) hb); have n2_ := Aside0.mk (hbox); have n3_ := Aside0.mk ((by rw [hg]; exact (below_size (by repeat (first | (with_reducible first | exact HB.out | apply below_alloc | apply pw_below_drewN | apply below_drew1 | refine below_set ?_ GE263.out) | exact HB.out))) : w.heap.size ≤ gb265)); have n4_ := Aside0.mk ((by rw [hg]; exact (below_size (by repeat (first | (with_reducible first | exact HB.out | apply below_alloc | apply pw_below_drewN | apply below_drew1 | refine below_set ?_ GE263.out) | exact HB.out))) : w.heap.size ≤ gb265)); have n5_ := Aside0.mk ((by rw [hg]; exact Nat.ne_of_lt (blk_lt (g := gb263) (o := .cells #[.string x264000_1, .string x264001_1, .bool x264002_1, .bool x264003_1] 53 (0, 0)) (by (with_reducible repeat (first | refine blk_drewN ?_ _ | refine blk_drew ?_ | refine blk_alloc ?_ _)); exact BK263.out)) : gb263 ≠ gb265)); have n6_ := Aside0.mk ((by rw [hg]; exact Nat.ne_of_gt (blk_lt (g := gb263) (o := .cells #[.string x264000_1, .string x264001_1, .bool x264002_1, .bool x264003_1] 53 (0, 0)) (by (with_reducible repeat (first | refine blk_drewN ?_ _ | refine blk_drew ?_ | refine blk_alloc ?_ _)); exact BK263.out)) : gb265 ≠ gb263)); clear BK263; clear HB; have BK263 := n0_; have HB := n1_; have BK265 := n2_; have GW265 := n3_; have GE265 := n4_; have NB263_265 := n5_; have NB265_263 := n6_; clear n0_ n1_ n2_ n3_ n4_ n5_ n6_; clear hb hbox hg; have hnb9 := NB265_263.out; have hnc9 := NB263_265.out; have hcz10_0 : w8.cell? ⟨gb265, 0, none⟩ = some (.string (⟨#[]⟩ : ByteArray)) := (blk_cell BK265.out 0).trans rfl; have hcz10_1 : w8.cell? ⟨gb265, 1, none⟩ = some (.string (⟨#[]⟩ : ByteArray)) := (blk_cell BK265.out 1).trans rfl; have hcz10_2 : w8.cell? ⟨gb265, 2, none⟩ = some (.bool false) := (blk_cell BK265.out 2).trans rfl; have hcz10_3 : w8.cell? ⟨gb265, 3, none⟩ = some (.bool false) := (blk_cell BK265.out 3).trans rfl; have hfz10_0 := blk_frozen BK265.out 0; have hfz10_1 := blk_frozen BK265.out 1; have hfz10_2 := blk_frozen BK265.out 2; have hfz10_3 := blk_frozen BK265.out 3; have hcz11_0 : w8.cell? ⟨gb263, 0, none⟩ = some (.string x264000_1) := (blk_cell BK263.out 0).trans rfl; have hcz11_1 : w8.cell? ⟨gb263, 1, none⟩ = some (.string x264001_1) := (blk_cell BK263.out 1).trans rfl; have hcz11_2 : w8.cell? ⟨gb263, 2, none⟩ = some (.bool x264002_1) := (blk_cell BK263.out 2).trans rfl; have hcz11_3 : w8.cell? ⟨gb263, 3, none⟩ = some (.bool x264003_1) := (blk_cell BK263.out 3).trans rfl; have hfz11_0 := blk_frozen BK263.out 0; have hfz11_1 := blk_frozen BK263.out 1; have hfz11_2 := blk_frozen BK263.out 2; have hfz11_3 := blk_frozen BK263.out 3))
              refine bodyPost_ret (results_ct rfl _ _ gb263 53 #[.string ((rd_T53 l1 x10_1).f0), .string ((rd_T53 l1 x10_1).f1), .bool ((rd_T53 l1 x10_1).f2), .bool ((rd_T53 l1 x10_1).f3)] (0, 0) _ rfl (by (with_reducible repeat (first | refine blk_drewN ?_ _ | refine blk_drew ?_ | refine blk_alloc ?_ _)); refine blk_put (cs := #[.string ((rd_T53 l1 x10_1).f0), .string ((rd_T53 l1 x10_1).f1), .bool ((rd_T53 l1 x10_1).f2), .bool x264003_1]) ?_ 3 _ rfl; (with_reducible repeat (first | refine blk_drewN ?_ _ | refine blk_drew ?_ | refine blk_alloc ?_ _)); refine blk_put (cs := #[.string ((rd_T53 l1 x10_1).f0), .string ((rd_T53 l1 x10_1).f1), .bool x264002_1, .bool x264003_1]) ?_ 2 _ rfl; (with_reducible repeat (first | refine blk_drewN ?_ _ | refine blk_drew ?_ | refine blk_alloc ?_ _)); refine blk_put (cs := #[.string ((rd_T53 l1 x10_1).f0), .string x264001_1, .bool x264002_1, .bool x264003_1]) ?_ 1 _ rfl; (with_reducible repeat (first | refine blk_drewN ?_ _ | refine blk_drew ?_ | refine blk_alloc ?_ _)); refine blk_put (cs := #[.string x264000_1, .string x264001_1, .bool x264002_1, .bool x264003_1]) ?_ 0 _ rfl; (with_reducible repeat (first | refine blk_drewN ?_ _ | refine blk_drew ?_ | refine blk_alloc ?_ _)); refine blk_far ?_ NB263_265.out _; (with_reducible repeat (first | refine blk_drewN ?_ _ | refine blk_drew ?_ | refine blk_alloc ?_ _)); refine blk_far ?_ NB263_265.out _; (with_reducible repeat (first | refine blk_drewN ?_ _ | refine blk_drew ?_ | refine blk_alloc ?_ _)); refine blk_far ?_ NB263_265.out _; (with_reducible repeat (first | refine blk_drewN ?_ _ | refine blk_drew ?_ | refine blk_alloc ?_ _)); refine blk_far ?_ NB263_265.out _; (with_reducible repeat (first | refine blk_drewN ?_ _ | refine blk_drew ?_ | refine blk_alloc ?_ _)); exact BK263.out) Try.underlying53 rfl (by kernel_rfl)) rfl ?_
              exact ⟨by first | rfl | (simp [errW_none, errW_some] <;> rfl) | (simp [*, errW_none, errW_some] <;> rfl), by repeat (first | (with_reducible first | exact HB.out | apply below_alloc | apply pw_below_drewN | apply below_drew1 | refine below_set ?_ GE263.out | refine below_set ?_ GE265.out) | exact HB.out)⟩
            · rw [if_neg c7] at H
              have c7b0 : (((rd_T53 l1 x10_1).f0).toList == a0.toList) = false := beq_eq_false_iff_ne.mpr c7
              have c7b1 : (((rd_T53 l1 x10_1).f0).toList != a0.toList) = true := bne_iff_ne.mpr c7
              by_cases c12 : ((rd_T53 l1 x10_1).f1).toList = ([] : List UInt8)
              · rw [if_pos c12] at H
                have c12b0 : (((rd_T53 l1 x10_1).f1).toList == ([] : List UInt8)) = true := beq_iff_eq.mpr c12
                have c12b1 : (((rd_T53 l1 x10_1).f1).toList != ([] : List UInt8)) = false := bne_eq_false_iff_eq.mpr c12
                clear c12
                have H' := Aside0.mk H
                clear H
                have p264 : 0 ≤ (x10_1 : Int) := of_decide_eq_true (by first | (with_reducible assumption) | assumption)
                have q264 : x10_1 < (l1.length : Int) := of_decide_eq_true (by first | (with_reducible assumption) | assumption)
                obtain ⟨ad264, e264, hx264_0, hx264_1, hx264_2, hx264_3⟩ := at_T53 HR1.out x10_1 p264 q264
                cases e264
                replace hx264_0 := (HB.out.cell (World.block_lt_of_cell? w _ hx264_0)).trans hx264_0
                replace hx264_1 := (HB.out.cell (World.block_lt_of_cell? w _ hx264_1)).trans hx264_1
                replace hx264_2 := (HB.out.cell (World.block_lt_of_cell? w _ hx264_2)).trans hx264_2
                replace hx264_3 := (HB.out.cell (World.block_lt_of_cell? w _ hx264_3)).trans hx264_3
                replace p264 := eq_true p264
                replace q264 := eq_true q264
                go_wp2_with (first | ((with_reducible refine gate_dst (N := 7) rfl ?_); refine box_event ?hg (N := 7) ?hd (cs := #[.string (⟨#[]⟩ : ByteArray), .string (⟨#[]⟩ : ByteArray), .bool false, .bool false]) (t := 53) ?hr ?_; (case hd => rfl); (case hg => rfl); (case hr => first | (go_simp; done) | (go_simp; rfl)); intro gb265 hg w13 hbox hb; have n0_ := Aside0.mk (blk_below (g := gb263) (o := .cells #[.string x264000_1, .string x264001_1, .bool x264002_1, .bool x264003_1] 53 (0, 0)) (by (with_reducible repeat (first | refine blk_drewN ?_ _ | refine blk_drew ?_ | refine blk_alloc ?_ _)); exact BK263.out) hb); have n1_ := Aside0.mk (below_step (by repeat (first | (with_reducible first | exact HB.out | apply below_alloc | apply pw_below_drewN | apply below_drew1 | refine below_set ?_ GE263.out) | exact HB.out)) hb); have n2_ := Aside0.mk (hbox); have n3_ := Aside0.mk ((by rw [hg]; exact (below_size (by repeat (first | (with_reducible first | exact HB.out | apply below_alloc | apply pw_below_drewN | apply below_drew1 | refine below_set ?_ GE263.out) | exact HB.out))) : w.heap.size ≤ gb265)); have n4_ := Aside0.mk ((by rw [hg]; exact (below_size (by repeat (first | (with_reducible first | exact HB.out | apply below_alloc | apply pw_below_drewN | apply below_drew1 | refine below_set ?_ GE263.out) | exact HB.out))) : w.heap.size ≤ gb265)); have n5_ := Aside0.mk ((by rw [hg]; exact Nat.ne_of_lt (blk_lt (g := gb263) (o := .cells #[.string x264000_1, .string x264001_1, .bool x264002_1, .bool x264003_1] 53 (0, 0)) (by (with_reducible repeat (first | refine blk_drewN ?_ _ | refine blk_drew ?_ | refine blk_alloc ?_ _)); exact BK263.out)) : gb263 ≠ gb265)); have n6_ := Aside0.mk ((by rw [hg]; exact Nat.ne_of_gt (blk_lt (g := gb263) (o := .cells #[.string x264000_1, .string x264001_1, .bool x264002_1, .bool x264003_1] 53 (0, 0)) (by (with_reducible repeat (first | refine blk_drewN ?_ _ | refine blk_drew ?_ | refine blk_alloc ?_ _)); exact BK263.out)) : gb265 ≠ gb263)); clear BK263; clear HB; have BK263 := n0_; have HB := n1_; have BK265 := n2_; have GW265 := n3_; have GE265 := n4_; have NB263_265 := n5_; have NB265_263 := n6_; clear n0_ n1_ n2_ n3_ n4_ n5_ n6_; clear hb hbox hg; have hnb14 := NB265_263.out; have hnc14 := NB263_265.out; have hcz15_0 : w13.cell? ⟨gb265, 0, none⟩ = some (.string (⟨#[]⟩ : ByteArray)) := (blk_cell BK265.out 0).trans rfl; have hcz15_1 : w13.cell? ⟨gb265, 1, none⟩ = some (.string (⟨#[]⟩ : ByteArray)) := (blk_cell BK265.out 1).trans rfl; have hcz15_2 : w13.cell? ⟨gb265, 2, none⟩ = some (.bool false) := (blk_cell BK265.out 2).trans rfl; have hcz15_3 : w13.cell? ⟨gb265, 3, none⟩ = some (.bool false) := (blk_cell BK265.out 3).trans rfl; have hfz15_0 := blk_frozen BK265.out 0; have hfz15_1 := blk_frozen BK265.out 1; have hfz15_2 := blk_frozen BK265.out 2; have hfz15_3 := blk_frozen BK265.out 3))
                go_roundg k1
                case measure => have := HK1.out; omega
                case rel => exact ⟨(wrap64 (x10_1 + 1)), (x264000_1), (x264001_1), (x264002_1), (x264003_1), (by first | rfl | (simp; done) | (simp [*]; done) | (simp [Go.Proofs.YtjmcndbkmknemaaX.isEmpty_ne]; done)), H', ⟨by have := HK1.out; omega⟩, ⟨by (with_reducible repeat (first | refine blk_drewN ?_ _ | refine blk_drew ?_ | refine blk_alloc ?_ _)); refine blk_far ?_ NB263_265.out _; (with_reducible repeat (first | refine blk_drewN ?_ _ | refine blk_drew ?_ | refine blk_alloc ?_ _)); refine blk_far ?_ NB263_265.out _; (with_reducible repeat (first | refine blk_drewN ?_ _ | refine blk_drew ?_ | refine blk_alloc ?_ _)); refine blk_far ?_ NB263_265.out _; (with_reducible repeat (first | refine blk_drewN ?_ _ | refine blk_drew ?_ | refine blk_alloc ?_ _)); refine blk_far ?_ NB263_265.out _; (with_reducible repeat (first | refine blk_drewN ?_ _ | refine blk_drew ?_ | refine blk_alloc ?_ _)); exact BK263.out⟩, ⟨by repeat (first | (with_reducible first | exact HB.out | apply below_alloc | apply pw_below_drewN | apply below_drew1 | refine below_set ?_ GE263.out | refine below_set ?_ GE265.out) | exact HB.out)⟩⟩
              · rw [if_neg c12] at H
                have c12b0 : (((rd_T53 l1 x10_1).f1).toList == ([] : List UInt8)) = false := beq_eq_false_iff_ne.mpr c12
                have c12b1 : (((rd_T53 l1 x10_1).f1).toList != ([] : List UInt8)) = true := bne_iff_ne.mpr c12
                by_cases c16 : ((rd_T53 l1 x10_1).f1).toList = a0.toList
                · rw [if_pos c16] at H
                  have c16b0 : (((rd_T53 l1 x10_1).f1).toList == a0.toList) = true := beq_iff_eq.mpr c16
                  have c16b1 : (((rd_T53 l1 x10_1).f1).toList != a0.toList) = false := bne_eq_false_iff_eq.mpr c16
                  clear c16
                  simp only [Option.some.injEq, Prod.mk.injEq] at H
                  obtain ⟨rfl, rfl, rfl, rfl, rfl⟩ := H
                  have p264 : 0 ≤ (x10_1 : Int) := of_decide_eq_true (by first | (with_reducible assumption) | assumption)
                  have q264 : x10_1 < (l1.length : Int) := of_decide_eq_true (by first | (with_reducible assumption) | assumption)
                  obtain ⟨ad264, e264, hx264_0, hx264_1, hx264_2, hx264_3⟩ := at_T53 HR1.out x10_1 p264 q264
                  cases e264
                  replace hx264_0 := (HB.out.cell (World.block_lt_of_cell? w _ hx264_0)).trans hx264_0
                  replace hx264_1 := (HB.out.cell (World.block_lt_of_cell? w _ hx264_1)).trans hx264_1
                  replace hx264_2 := (HB.out.cell (World.block_lt_of_cell? w _ hx264_2)).trans hx264_2
                  replace hx264_3 := (HB.out.cell (World.block_lt_of_cell? w _ hx264_3)).trans hx264_3
                  replace p264 := eq_true p264
                  replace q264 := eq_true q264
                  go_wp2_with (first | ((with_reducible refine gate_dst (N := 7) rfl ?_); refine box_event ?hg (N := 7) ?hd (cs := #[.string (⟨#[]⟩ : ByteArray), .string (⟨#[]⟩ : ByteArray), .bool false, .bool false]) (t := 53) ?hr ?_; (case hd => rfl); (case hg => rfl); (case hr => first | (go_simp; done) | (go_simp; rfl)); intro gb265 hg w17 hbox hb; have n0_ := Aside0.mk (blk_below (g := gb263) (o := .cells #[.string x264000_1, .string x264001_1, .bool x264002_1, .bool x264003_1] 53 (0, 0)) (by (with_reducible repeat (first | refine blk_drewN ?_ _ | refine blk_drew ?_ | refine blk_alloc ?_ _)); exact BK263.out) hb); have n1_ := Aside0.mk (below_step (by repeat (first | (with_reducible first | exact HB.out | apply below_alloc | apply pw_below_drewN | apply below_drew1 | refine below_set ?_ GE263.out) | exact HB.out)) hb); have n2_ := Aside0.mk (hbox); have n3_ := Aside0.mk ((by rw [hg]; exact (below_size (by repeat (first | (with_reducible first | exact HB.out | apply below_alloc | apply pw_below_drewN | apply below_drew1 | refine below_set ?_ GE263.out) | exact HB.out))) : w.heap.size ≤ gb265)); have n4_ := Aside0.mk ((by rw [hg]; exact (below_size (by repeat (first | (with_reducible first | exact HB.out | apply below_alloc | apply pw_below_drewN | apply below_drew1 | refine below_set ?_ GE263.out) | exact HB.out))) : w.heap.size ≤ gb265)); have n5_ := Aside0.mk ((by rw [hg]; exact Nat.ne_of_lt (blk_lt (g := gb263) (o := .cells #[.string x264000_1, .string x264001_1, .bool x264002_1, .bool x264003_1] 53 (0, 0)) (by (with_reducible repeat (first | refine blk_drewN ?_ _ | refine blk_drew ?_ | refine blk_alloc ?_ _)); exact BK263.out)) : gb263 ≠ gb265)); have n6_ := Aside0.mk ((by rw [hg]; exact Nat.ne_of_gt (blk_lt (g := gb263) (o := .cells #[.string x264000_1, .string x264001_1, .bool x264002_1, .bool x264003_1] 53 (0, 0)) (by (with_reducible repeat (first | refine blk_drewN ?_ _ | refine blk_drew ?_ | refine blk_alloc ?_ _)); exact BK263.out)) : gb265 ≠ gb263)); clear BK263; clear HB; have BK263 := n0_; have HB := n1_; have BK265 := n2_; have GW265 := n3_; have GE265 := n4_; have NB263_265 := n5_; have NB265_263 := n6_; clear n0_ n1_ n2_ n3_ n4_ n5_ n6_; clear hb hbox hg; have hnb18 := NB265_263.out; have hnc18 := NB263_265.out; have hcz19_0 : w17.cell? ⟨gb265, 0, none⟩ = some (.string (⟨#[]⟩ : ByteArray)) := (blk_cell BK265.out 0).trans rfl; have hcz19_1 : w17.cell? ⟨gb265, 1, none⟩ = some (.string (⟨#[]⟩ : ByteArray)) := (blk_cell BK265.out 1).trans rfl; have hcz19_2 : w17.cell? ⟨gb265, 2, none⟩ = some (.bool false) := (blk_cell BK265.out 2).trans rfl; have hcz19_3 : w17.cell? ⟨gb265, 3, none⟩ = some (.bool false) := (blk_cell BK265.out 3).trans rfl; have hfz19_0 := blk_frozen BK265.out 0; have hfz19_1 := blk_frozen BK265.out 1; have hfz19_2 := blk_frozen BK265.out 2; have hfz19_3 := blk_frozen BK265.out 3; have hcz20_0 : w17.cell? ⟨gb263, 0, none⟩ = some (.string x264000_1) := (blk_cell BK263.out 0).trans rfl; have hcz20_1 : w17.cell? ⟨gb263, 1, none⟩ = some (.string x264001_1) := (blk_cell BK263.out 1).trans rfl; have hcz20_2 : w17.cell? ⟨gb263, 2, none⟩ = some (.bool x264002_1) := (blk_cell BK263.out 2).trans rfl; have hcz20_3 : w17.cell? ⟨gb263, 3, none⟩ = some (.bool x264003_1) := (blk_cell BK263.out 3).trans rfl; have hfz20_0 := blk_frozen BK263.out 0; have hfz20_1 := blk_frozen BK263.out 1; have hfz20_2 := blk_frozen BK263.out 2; have hfz20_3 := blk_frozen BK263.out 3))
                  refine bodyPost_ret (results_ct rfl _ _ gb263 53 #[.string ((rd_T53 l1 x10_1).f0), .string ((rd_T53 l1 x10_1).f1), .bool ((rd_T53 l1 x10_1).f2), .bool ((rd_T53 l1 x10_1).f3)] (0, 0) _ rfl (by (with_reducible repeat (first | refine blk_drewN ?_ _ | refine blk_drew ?_ | refine blk_alloc ?_ _)); refine blk_put (cs := #[.string ((rd_T53 l1 x10_1).f0), .string ((rd_T53 l1 x10_1).f1), .bool ((rd_T53 l1 x10_1).f2), .bool x264003_1]) ?_ 3 _ rfl; (with_reducible repeat (first | refine blk_drewN ?_ _ | refine blk_drew ?_ | refine blk_alloc ?_ _)); refine blk_put (cs := #[.string ((rd_T53 l1 x10_1).f0), .string ((rd_T53 l1 x10_1).f1), .bool x264002_1, .bool x264003_1]) ?_ 2 _ rfl; (with_reducible repeat (first | refine blk_drewN ?_ _ | refine blk_drew ?_ | refine blk_alloc ?_ _)); refine blk_put (cs := #[.string ((rd_T53 l1 x10_1).f0), .string x264001_1, .bool x264002_1, .bool x264003_1]) ?_ 1 _ rfl; (with_reducible repeat (first | refine blk_drewN ?_ _ | refine blk_drew ?_ | refine blk_alloc ?_ _)); refine blk_put (cs := #[.string x264000_1, .string x264001_1, .bool x264002_1, .bool x264003_1]) ?_ 0 _ rfl; (with_reducible repeat (first | refine blk_drewN ?_ _ | refine blk_drew ?_ | refine blk_alloc ?_ _)); refine blk_far ?_ NB263_265.out _; (with_reducible repeat (first | refine blk_drewN ?_ _ | refine blk_drew ?_ | refine blk_alloc ?_ _)); refine blk_far ?_ NB263_265.out _; (with_reducible repeat (first | refine blk_drewN ?_ _ | refine blk_drew ?_ | refine blk_alloc ?_ _)); refine blk_far ?_ NB263_265.out _; (with_reducible repeat (first | refine blk_drewN ?_ _ | refine blk_drew ?_ | refine blk_alloc ?_ _)); refine blk_far ?_ NB263_265.out _; (with_reducible repeat (first | refine blk_drewN ?_ _ | refine blk_drew ?_ | refine blk_alloc ?_ _)); exact BK263.out) Try.underlying53 rfl (by kernel_rfl)) rfl ?_
                  exact ⟨by first | rfl | (simp [errW_none, errW_some] <;> rfl) | (simp [*, errW_none, errW_some] <;> rfl), by repeat (first | (with_reducible first | exact HB.out | apply below_alloc | apply pw_below_drewN | apply below_drew1 | refine below_set ?_ GE263.out | refine below_set ?_ GE265.out) | exact HB.out)⟩
                · rw [if_neg c16] at H
                  have c16b0 : (((rd_T53 l1 x10_1).f1).toList == a0.toList) = false := beq_eq_false_iff_ne.mpr c16
                  have c16b1 : (((rd_T53 l1 x10_1).f1).toList != a0.toList) = true := bne_iff_ne.mpr c16
                  have H' := Aside0.mk H
                  clear H
                  have p264 : 0 ≤ (x10_1 : Int) := of_decide_eq_true (by first | (with_reducible assumption) | assumption)
                  have q264 : x10_1 < (l1.length : Int) := of_decide_eq_true (by first | (with_reducible assumption) | assumption)
                  obtain ⟨ad264, e264, hx264_0, hx264_1, hx264_2, hx264_3⟩ := at_T53 HR1.out x10_1 p264 q264
                  cases e264
                  replace hx264_0 := (HB.out.cell (World.block_lt_of_cell? w _ hx264_0)).trans hx264_0
                  replace hx264_1 := (HB.out.cell (World.block_lt_of_cell? w _ hx264_1)).trans hx264_1
                  replace hx264_2 := (HB.out.cell (World.block_lt_of_cell? w _ hx264_2)).trans hx264_2
                  replace hx264_3 := (HB.out.cell (World.block_lt_of_cell? w _ hx264_3)).trans hx264_3
                  replace p264 := eq_true p264
                  replace q264 := eq_true q264
                  go_wp2_with (first | ((with_reducible refine gate_dst (N := 7) rfl ?_); refine box_event ?hg (N := 7) ?hd (cs := #[.string (⟨#[]⟩ : ByteArray), .string (⟨#[]⟩ : ByteArray), .bool false, .bool false]) (t := 53) ?hr ?_; (case hd => rfl); (case hg => rfl); (case hr => first | (go_simp; done) | (go_simp; rfl)); intro gb265 hg w21 hbox hb; have n0_ := Aside0.mk (blk_below (g := gb263) (o := .cells #[.string x264000_1, .string x264001_1, .bool x264002_1, .bool x264003_1] 53 (0, 0)) (by (with_reducible repeat (first | refine blk_drewN ?_ _ | refine blk_drew ?_ | refine blk_alloc ?_ _)); exact BK263.out) hb); have n1_ := Aside0.mk (below_step (by repeat (first | (with_reducible first | exact HB.out | apply below_alloc | apply pw_below_drewN | apply below_drew1 | refine below_set ?_ GE263.out) | exact HB.out)) hb); have n2_ := Aside0.mk (hbox); have n3_ := Aside0.mk ((by rw [hg]; exact (below_size (by repeat (first | (with_reducible first | exact HB.out | apply below_alloc | apply pw_below_drewN | apply below_drew1 | refine below_set ?_ GE263.out) | exact HB.out))) : w.heap.size ≤ gb265)); have n4_ := Aside0.mk ((by rw [hg]; exact (below_size (by repeat (first | (with_reducible first | exact HB.out | apply below_alloc | apply pw_below_drewN | apply below_drew1 | refine below_set ?_ GE263.out) | exact HB.out))) : w.heap.size ≤ gb265)); have n5_ := Aside0.mk ((by rw [hg]; exact Nat.ne_of_lt (blk_lt (g := gb263) (o := .cells #[.string x264000_1, .string x264001_1, .bool x264002_1, .bool x264003_1] 53 (0, 0)) (by (with_reducible repeat (first | refine blk_drewN ?_ _ | refine blk_drew ?_ | refine blk_alloc ?_ _)); exact BK263.out)) : gb263 ≠ gb265)); have n6_ := Aside0.mk ((by rw [hg]; exact Nat.ne_of_gt (blk_lt (g := gb263) (o := .cells #[.string x264000_1, .string x264001_1, .bool x264002_1, .bool x264003_1] 53 (0, 0)) (by (with_reducible repeat (first | refine blk_drewN ?_ _ | refine blk_drew ?_ | refine blk_alloc ?_ _)); exact BK263.out)) : gb265 ≠ gb263)); clear BK263; clear HB; have BK263 := n0_; have HB := n1_; have BK265 := n2_; have GW265 := n3_; have GE265 := n4_; have NB263_265 := n5_; have NB265_263 := n6_; clear n0_ n1_ n2_ n3_ n4_ n5_ n6_; clear hb hbox hg; have hnb22 := NB265_263.out; have hnc22 := NB263_265.out; have hcz23_0 : w21.cell? ⟨gb265, 0, none⟩ = some (.string (⟨#[]⟩ : ByteArray)) := (blk_cell BK265.out 0).trans rfl; have hcz23_1 : w21.cell? ⟨gb265, 1, none⟩ = some (.string (⟨#[]⟩ : ByteArray)) := (blk_cell BK265.out 1).trans rfl; have hcz23_2 : w21.cell? ⟨gb265, 2, none⟩ = some (.bool false) := (blk_cell BK265.out 2).trans rfl; have hcz23_3 : w21.cell? ⟨gb265, 3, none⟩ = some (.bool false) := (blk_cell BK265.out 3).trans rfl; have hfz23_0 := blk_frozen BK265.out 0; have hfz23_1 := blk_frozen BK265.out 1; have hfz23_2 := blk_frozen BK265.out 2; have hfz23_3 := blk_frozen BK265.out 3))
                  go_roundg k1
                  case measure => have := HK1.out; omega
                  case rel => exact ⟨(wrap64 (x10_1 + 1)), (x264000_1), (x264001_1), (x264002_1), (x264003_1), (by first | rfl | (simp; done) | (simp [*]; done) | (simp [Go.Proofs.YtjmcndbkmknemaaX.isEmpty_ne]; done)), H', ⟨by have := HK1.out; omega⟩, ⟨by (with_reducible repeat (first | refine blk_drewN ?_ _ | refine blk_drew ?_ | refine blk_alloc ?_ _)); refine blk_far ?_ NB263_265.out _; (with_reducible repeat (first | refine blk_drewN ?_ _ | refine blk_drew ?_ | refine blk_alloc ?_ _)); refine blk_far ?_ NB263_265.out _; (with_reducible repeat (first | refine blk_drewN ?_ _ | refine blk_drew ?_ | refine blk_alloc ?_ _)); refine blk_far ?_ NB263_265.out _; (with_reducible repeat (first | refine blk_drewN ?_ _ | refine blk_drew ?_ | refine blk_alloc ?_ _)); refine blk_far ?_ NB263_265.out _; (with_reducible repeat (first | refine blk_drewN ?_ _ | refine blk_drew ?_ | refine blk_alloc ?_ _)); exact BK263.out⟩, ⟨by repeat (first | (with_reducible first | exact HB.out | apply below_alloc | apply pw_below_drewN | apply below_drew1 | refine below_set ?_ GE263.out | refine below_set ?_ GE265.out) | exact HB.out)⟩⟩
          · rw [if_neg c6] at H
            exact absurd H (by simp)
        · rw [if_neg c5] at H
          exact absurd H (by simp)
      · rw [if_neg c4] at H
        have c4b0 : decide (x10_1 < (l1.length : Int)) = false := decide_eq_false c4
        clear c4
        simp only [Option.some.injEq, Prod.mk.injEq] at H
        obtain ⟨rfl, rfl, rfl, rfl, rfl⟩ := H
        have hcz24_0 : wr.cell? ⟨gb263, 0, none⟩ = some (.string x264000_1) := (blk_cell BK263.out 0).trans rfl
        have hcz24_1 : wr.cell? ⟨gb263, 1, none⟩ = some (.string x264001_1) := (blk_cell BK263.out 1).trans rfl
        have hcz24_2 : wr.cell? ⟨gb263, 2, none⟩ = some (.bool x264002_1) := (blk_cell BK263.out 2).trans rfl
        have hcz24_3 : wr.cell? ⟨gb263, 3, none⟩ = some (.bool x264003_1) := (blk_cell BK263.out 3).trans rfl
        have hfz24_0 := blk_frozen BK263.out 0
        have hfz24_1 := blk_frozen BK263.out 1
        have hfz24_2 := blk_frozen BK263.out 2
        have hfz24_3 := blk_frozen BK263.out 3
        go_wp2
        refine bodyPost_ret (results_ct rfl _ _ gb263 53 #[.string (⟨#[]⟩ : ByteArray), .string (⟨#[]⟩ : ByteArray), .bool false, .bool false] (0, 0) _ rfl (by (with_reducible repeat (first | refine blk_drewN ?_ _ | refine blk_drew ?_ | refine blk_alloc ?_ _)); refine blk_put (cs := #[.string (⟨#[]⟩ : ByteArray), .string (⟨#[]⟩ : ByteArray), .bool false, .bool x264003_1]) ?_ 3 _ rfl; (with_reducible repeat (first | refine blk_drewN ?_ _ | refine blk_drew ?_ | refine blk_alloc ?_ _)); refine blk_put (cs := #[.string (⟨#[]⟩ : ByteArray), .string (⟨#[]⟩ : ByteArray), .bool x264002_1, .bool x264003_1]) ?_ 2 _ rfl; (with_reducible repeat (first | refine blk_drewN ?_ _ | refine blk_drew ?_ | refine blk_alloc ?_ _)); refine blk_put (cs := #[.string (⟨#[]⟩ : ByteArray), .string x264001_1, .bool x264002_1, .bool x264003_1]) ?_ 1 _ rfl; (with_reducible repeat (first | refine blk_drewN ?_ _ | refine blk_drew ?_ | refine blk_alloc ?_ _)); refine blk_put (cs := #[.string x264000_1, .string x264001_1, .bool x264002_1, .bool x264003_1]) ?_ 0 _ rfl; (with_reducible repeat (first | refine blk_drewN ?_ _ | refine blk_drew ?_ | refine blk_alloc ?_ _)); exact BK263.out) Try.underlying53 rfl (by kernel_rfl)) rfl ?_
        exact ⟨by first | rfl | (simp [errW_none, errW_some] <;> rfl) | (simp [*, errW_none, errW_some] <;> rfl), by repeat (first | (with_reducible first | exact HB.out | apply below_alloc | apply pw_below_drewN | apply below_drew1 | refine below_set ?_ GE263.out) | exact HB.out)⟩

/-! ### laws_typesOf: function 41 -/
def laws_typesOf.l0 : Nat → List (S53) → List (S45) → Int → Int → Option ((List (S53)))
  | 0, _, _, _, _ => none
  | k + 1, x3, x6, x7, x8 => if x8 < x7 then (if 0 ≤ x8 then (if x8 < (x6.length : Int) then (if x3.length < 3518437208883 then (laws_typesOf.l0 k (x3 ++ [(⟨(rd_T45 x6 x8).f0, (rd_T45 x6 x8).f1, (rd_T45 x6 x8).f2, (rd_T45 x6 x8).f3⟩ : S53)]) x6 x7 (wrap64 (x8 + 1))) else (none)) else (none)) else (none)) else (some x3)
def laws_typesOf.f (k : Nat) (l0 : List (S45)) : Option ((List (S53))) := laws_typesOf.l0 k ([] : List (S53)) l0 (l0.length : Int) 0
theorem laws_typesOf.mono_l : ∀ k, (∀ y0 y1 y2 y3, LeO (laws_typesOf.l0 k y0 y1 y2 y3) (laws_typesOf.l0 (k + 1) y0 y1 y2 y3))
  | 0 => fun _ _ _ _ r h => by simp [laws_typesOf.l0] at h
  | k + 1 => by
    have ih0 := laws_typesOf.mono_l k
    · intro y0 y1 y2 y3
      unfold laws_typesOf.l0
      repeat' first
      | (with_reducible exact ih0 _ _ _ _)
      | (with_reducible exact LeO.refl _)
      | (with_reducible exact LeO.none _)
      | (with_reducible refine LeO.ite ?_ ?_)
      | (with_reducible refine LeO.bind ?_ (fun _ => ?_))
      | exact ih0 _ _ _ _
      | exact LeO.none _
      | refine LeO.ite ?_ ?_
      | refine LeO.bind ?_ (fun _ => ?_)
theorem laws_typesOf.mono : ∀ a0 k, LeO (laws_typesOf.f k a0) (laws_typesOf.f (k + 1) a0) := by
  intro a0 k
  have ih0 := laws_typesOf.mono_l k
  unfold laws_typesOf.f
  repeat' first
      | (with_reducible exact ih0 _ _ _ _)
      | (with_reducible exact LeO.refl _)
      | (with_reducible exact LeO.none _)
      | (with_reducible refine LeO.ite ?_ ?_)
      | (with_reducible refine LeO.bind ?_ (fun _ => ?_))
      | exact ih0 _ _ _ _
      | exact LeO.none _
      | refine LeO.ite ?_ ?_
      | refine LeO.bind ?_ (fun _ => ?_)
set_option maxHeartbeats 8000000 in
set_option maxRecDepth 100000 in
theorem laws_typesOf.calls (k : Nat) (A0 : Option Addr) (c0 : Nat) (l0 : List (S45)) (r : List (S53)) (w : World) (hr0 : Kd.C k45 w A0 l0.length l0) (hc0 : l0.length ≤ c0) (h : laws_typesOf.f k l0 = some r) :
    Calls Try.prog 41 #[.slice A0 l0.length c0] w fun e w' => ∃ v0_ : Value, e = .returned (v0_) ∧ Kd.R k53 53 w' w.heap.size (fun _ => True) v0_ r ∧ Below w.heap.size w w' := by
  have hu45 := Try.underlying45
  have HR0 := Aside0.mk hr0
  have HC0 := Aside0.mk hc0
  clear hr0 hc0
  have HB := Aside0.mk (Below.refl w.heap.size w)
  have H : (laws_typesOf.l0 k ([] : List (S53)) l0 (l0.length : Int) 0) = some r := h
  clear h
  have H' := Aside0.mk H
  clear H
  go_enter Try.func41, Try.ntmps41
  go_wp2
  go_loopg [3, 8] k (fun kq v3 v8 w' => ∃ (x3_1 : List (S53)) (x8_1 : Int), v8 = .int .i64 x8_1 ∧ Aside0 (laws_typesOf.l0 kq x3_1 l0 (l0.length : Int) x8_1 = some r) ∧ Aside0 (kq ≤ k) ∧ Aside0 (Kd.R k53 53 w' w.heap.size (fun _ => True) v3 x3_1) ∧ Aside0 (Below w.heap.size w w'))
  case atStart => exact ⟨(([] : List (S53))), (0), (by first | rfl | (simp; done) | (simp [*]; done) | (simp [Go.Proofs.YtjmcndbkmknemaaX.isEmpty_ne]; done)), H', ⟨Nat.le_refl _⟩, ⟨by first | exact Kd.R_nil _ _ _ _ _ | exact Kd.N_nil _ _ _ _ _ | exact Kd.V_nil _ _ _ _ _ | exact Kd.Q_nil _ _ _ _ _ | exact Kd.S_nil _ _ _ _ _⟩, ⟨by repeat (first | (with_reducible first | exact HB.out | apply below_alloc | apply pw_below_drewN | apply below_drew1) | exact HB.out)⟩⟩
  case round =>
    clear H'
    obtain ⟨x3_1, x8_1, rfl, HA, HK1, HO_3, HB⟩ := hrel
    cases gk with
    | zero => exact absurd HA.out (by simp [laws_typesOf.l0])
    | succ k1 =>
      have H := HA.out
      clear HA
      simp only [laws_typesOf.l0] at H
      by_cases c2 : x8_1 < (l0.length : Int)
      · rw [if_pos c2] at H
        have c2b0 : decide (x8_1 < (l0.length : Int)) = true := decide_eq_true c2
        clear c2
        by_cases c3 : 0 ≤ x8_1
        · rw [if_pos c3] at H
          have c3b0 : decide (0 ≤ x8_1) = true := decide_eq_true c3
          clear c3
          by_cases c4 : x8_1 < (l0.length : Int)
          · rw [if_pos c4] at H
            have c4b0 : decide (x8_1 < (l0.length : Int)) = true := decide_eq_true c4
            clear c4
            by_cases c5 : x3_1.length < 3518437208883
            · rw [if_pos c5] at H
              have LMc5 := Aside0.mk c5
              clear c5
              obtain ⟨y268, hy268⟩ : ∃ y_ : List (S53), y_ = (x3_1 ++ [(⟨(rd_T45 l0 x8_1).f0, (rd_T45 l0 x8_1).f1, (rd_T45 l0 x8_1).f2, (rd_T45 l0 x8_1).f3⟩ : S53)]) := ⟨_, rfl⟩
              replace H : (laws_typesOf.l0 k1 y268 l0 (l0.length : Int) (wrap64 (x8_1 + 1))) = some r := by first | (rw [hy268]; with_reducible exact H) | (have H2_ := (Option.bind_some _ _).symm.trans H; rw [hy268]; with_reducible exact H2_) | (have H2_ := (Option.bind_some _ _).symm.trans H; with_reducible exact H2_) | with_reducible exact H | (rw [hy268]; exact H) | exact H
              have Ny268 := Aside0.mk hy268
              clear hy268
              have H' := Aside0.mk H
              clear H
              have p266 : 0 ≤ (x8_1 : Int) := of_decide_eq_true (by first | (with_reducible assumption) | assumption)
              have q266 : x8_1 < (l0.length : Int) := of_decide_eq_true (by first | (with_reducible assumption) | assumption)
              obtain ⟨ad266, e266, hx266_0, hx266_1, hx266_2, hx266_3⟩ := at_T45 HR0.out x8_1 p266 q266
              cases e266
              replace hx266_0 := (HB.out.cell (World.block_lt_of_cell? w _ hx266_0)).trans hx266_0
              replace hx266_1 := (HB.out.cell (World.block_lt_of_cell? w _ hx266_1)).trans hx266_1
              replace hx266_2 := (HB.out.cell (World.block_lt_of_cell? w _ hx266_2)).trans hx266_2
              replace hx266_3 := (HB.out.cell (World.block_lt_of_cell? w _ hx266_3)).trans hx266_3
              replace p266 := eq_true p266
              replace q266 := eq_true q266
              go_wp2_with (first | ((with_reducible refine gate_dst (N := 5) rfl ?_); refine box_event ?hg (N := 5) ?hd (cs := #[.string (⟨#[]⟩ : ByteArray), .string (⟨#[]⟩ : ByteArray), .bool false, .bool false]) (t := 45) ?hr ?_; (case hd => rfl); (case hg => rfl); (case hr => first | (go_simp; done) | (go_simp; rfl)); intro gb267 hg w6 hbox hb; have n0_ := Aside0.mk (Kd.R_below (by (with_reducible repeat (first | apply Kd.R_alloc | apply Kd.R_drewN | apply Kd.R_drew)); exact HO_3.out) hb); have n1_ := Aside0.mk (below_step (by repeat (first | (with_reducible first | exact HB.out | apply below_alloc | apply pw_below_drewN | apply below_drew1) | exact HB.out)) hb); have n2_ := Aside0.mk (hbox); have n3_ := Aside0.mk ((by rw [hg]; exact (below_size (by repeat (first | (with_reducible first | exact HB.out | apply below_alloc | apply pw_below_drewN | apply below_drew1) | exact HB.out))) : w.heap.size ≤ gb267)); have n4_ := Aside0.mk ((by rw [hg]; exact (below_size (by repeat (first | (with_reducible first | exact HB.out | apply below_alloc | apply pw_below_drewN | apply below_drew1) | exact HB.out))) : w.heap.size ≤ gb267)); clear HO_3; clear HB; have HO_3 := n0_; have HB := n1_; have BK267 := n2_; have GW267 := n3_; have GE267 := n4_; clear n0_ n1_ n2_ n3_ n4_; clear hb hbox hg; have hcz7_0 : w6.cell? ⟨gb267, 0, none⟩ = some (.string (⟨#[]⟩ : ByteArray)) := (blk_cell BK267.out 0).trans rfl; have hcz7_1 : w6.cell? ⟨gb267, 1, none⟩ = some (.string (⟨#[]⟩ : ByteArray)) := (blk_cell BK267.out 1).trans rfl; have hcz7_2 : w6.cell? ⟨gb267, 2, none⟩ = some (.bool false) := (blk_cell BK267.out 2).trans rfl; have hcz7_3 : w6.cell? ⟨gb267, 3, none⟩ = some (.bool false) := (blk_cell BK267.out 3).trans rfl; have hfz7_0 := blk_frozen BK267.out 0; have hfz7_1 := blk_frozen BK267.out 1; have hfz7_2 := blk_frozen BK267.out 2; have hfz7_3 := blk_frozen BK267.out 3) | ((with_reducible refine gate_builtin (b := .append) (xs := #[.tmp 12, .tmp 14]) rfl ?_); at_builtin; refine Kd.R_append k53 (w0 := w) w.heap.size rfl (.tmp 12) (.tmp 14) 56 53 (.agg #[(.string ⟨#[]⟩), (.string ⟨#[]⟩), (.bool false), (.bool false)]) 40 rfl Try.underlying56 info53 rfl (by decide) (by omega) u3 x3_1 (⟨(rd_T45 l0 x8_1).f0, (rd_T45 l0 x8_1).f1, (rd_T45 l0 x8_1).f2, (rd_T45 l0 x8_1).f3⟩ : S53) [.string ((rd_T45 l0 x8_1).f0), .string ((rd_T45 l0 x8_1).f1), .bool ((rd_T45 l0 x8_1).f2), .bool ((rd_T45 l0 x8_1).f3)] (fun _ => True) (fun _ => False) rfl (by first | (go_simp; done) | (go_simp; rfl)) ?aP (fun _ hk => hk.elim) ?aF ?aO ?aB ?aS ?aL ?_; (case aP => exact k53_mkM _ _ _ (⟨(rd_T45 l0 x8_1).f0, (rd_T45 l0 x8_1).f1, (rd_T45 l0 x8_1).f2, (rd_T45 l0 x8_1).f3⟩ : S53)); (case aB => exact (by repeat (first | (with_reducible first | exact HB.out | apply below_alloc | apply pw_below_drewN | apply below_drew1 | refine below_set ?_ GE267.out) | exact HB.out))); (case aF => exact (fun _ _ => trivial)); (case aO => exact (by (with_reducible repeat (first | apply Kd.R_alloc | apply Kd.R_drewN | apply Kd.R_drew)); exact Kd.R_mono (Kd.R_far (p := ⟨gb267, 3, none⟩) (Kd.R_far (p := ⟨gb267, 2, none⟩) (Kd.R_far (p := ⟨gb267, 1, none⟩) (Kd.R_far (p := ⟨gb267, 0, none⟩) (Kd.R_types HO_3.out BK267.out (by decide)) (fun _ hk => hk.2) (.string ((rd_T45 l0 x8_1).f0))) (fun _ hk => hk.2) (.string ((rd_T45 l0 x8_1).f1))) (fun _ hk => hk.2) (.bool ((rd_T45 l0 x8_1).f2))) (fun _ hk => hk.2) (.bool ((rd_T45 l0 x8_1).f3))) (fun _ hk => trivial))); (case aS => exact (below_size (by repeat (first | (with_reducible first | exact HB.out | apply below_alloc | apply pw_below_drewN | apply below_drew1 | refine below_set ?_ GE267.out) | exact HB.out)))); (case aL => have := LMc5.out; omega); intro v269 w8 ho hb hg hat; rw [← Ny268.out] at ho; have n0_ := Aside0.mk (blk_grown (g := gb267) (o := .cells #[.string ((rd_T45 l0 x8_1).f0), .string ((rd_T45 l0 x8_1).f1), .bool ((rd_T45 l0 x8_1).f2), .bool ((rd_T45 l0 x8_1).f3)] 45 (0, 0)) (by (with_reducible repeat (first | refine blk_drewN ?_ _ | refine blk_drew ?_ | refine blk_alloc ?_ _)); refine blk_put (cs := #[.string ((rd_T45 l0 x8_1).f0), .string ((rd_T45 l0 x8_1).f1), .bool ((rd_T45 l0 x8_1).f2), .bool false]) ?_ 3 _ rfl; (with_reducible repeat (first | refine blk_drewN ?_ _ | refine blk_drew ?_ | refine blk_alloc ?_ _)); refine blk_put (cs := #[.string ((rd_T45 l0 x8_1).f0), .string ((rd_T45 l0 x8_1).f1), .bool false, .bool false]) ?_ 2 _ rfl; (with_reducible repeat (first | refine blk_drewN ?_ _ | refine blk_drew ?_ | refine blk_alloc ?_ _)); refine blk_put (cs := #[.string ((rd_T45 l0 x8_1).f0), .string (⟨#[]⟩ : ByteArray), .bool false, .bool false]) ?_ 1 _ rfl; (with_reducible repeat (first | refine blk_drewN ?_ _ | refine blk_drew ?_ | refine blk_alloc ?_ _)); refine blk_put (cs := #[.string (⟨#[]⟩ : ByteArray), .string (⟨#[]⟩ : ByteArray), .bool false, .bool false]) ?_ 0 _ rfl; (with_reducible repeat (first | refine blk_drewN ?_ _ | refine blk_drew ?_ | refine blk_alloc ?_ _)); exact BK267.out) hg (Kd.R_ne HO_3.out BK267.out (by decide))); have n1_ := Aside0.mk (hb); have n2_ := Aside0.mk (ho); clear BK267; clear HB; clear HO_3; have BK267 := n0_; have HB := n1_; have HO270 := n2_; clear n0_ n1_ n2_; clear ho hb hg hat))
              go_roundg k1
              case measure => have := HK1.out; omega
              case rel => exact ⟨(y268), (wrap64 (x8_1 + 1)), (by first | rfl | (simp; done) | (simp [*]; done) | (simp [Go.Proofs.YtjmcndbkmknemaaX.isEmpty_ne]; done)), H', ⟨by have := HK1.out; omega⟩, ⟨by (with_reducible repeat (first | apply Kd.R_alloc | apply Kd.R_drewN | apply Kd.R_drew)); exact HO270.out⟩, ⟨by repeat (first | (with_reducible first | exact HB.out | apply below_alloc | apply pw_below_drewN | apply below_drew1 | refine below_set ?_ GE267.out) | exact HB.out)⟩⟩
            · rw [if_neg c5] at H
              exact absurd H (by simp)
          · rw [if_neg c4] at H
            exact absurd H (by simp)
        · rw [if_neg c3] at H
          exact absurd H (by simp)
      · rw [if_neg c2] at H
        have c2b0 : decide (x8_1 < (l0.length : Int)) = false := decide_eq_false c2
        clear c2
        obtain rfl := Option.some.inj H
        go_wp2
        go_ret
        exact ⟨_, by first | rfl | (simp [errW_none, errW_some] <;> rfl) | (simp [*, errW_none, errW_some] <;> rfl), by (with_reducible repeat (first | apply Kd.R_alloc | apply Kd.R_drewN | apply Kd.R_drew)); exact HO_3.out, by repeat (first | (with_reducible first | exact HB.out | apply below_alloc | apply pw_below_drewN | apply below_drew1) | exact HB.out)⟩

-- NOT PRINTED: function 13 (laws_FnTypeSays)

-- NOT PRINTED: function 14 (laws_FnTypes)

end Go.Proofs.Ytjmcndbkmknemaa.Q
