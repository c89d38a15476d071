-- Written by a program of this session out of the translation, with the kit's printer. Not trusted: Lean checks it.
import Derived.Test.YtjmcndbkmknemaaQ0
import Derived.Test.YtjmcndbkmknemaaQ34
namespace Go.Proofs.Ytjmcndbkmknemaa.Q
open Go.RowKit Go.Proofs.YtjmcndbkmknemaaW.PrintWords Go.Proofs.YtjmcndbkmknemaaW.PrintLast Go.Proofs.YtjmcndbkmknemaaW.PrintMore
attribute [local go_sem] max2_int min2_int max_two min_two max_three min_three max_four min_four   -- for this text's walks alone
set_option linter.unusedVariables false
set_option linter.unusedSimpArgs false

/-! ### fiberutils_ParseVendorSpecificContentType: function 57 -/
def fiberutils_ParseVendorSpecificContentType.f (k : Nat) (a0 : ByteArray) : Option (ByteArray) := (fiberutils_zzIndex.f k a0 (⟨#[43]⟩ : ByteArray)).bind fun t281 => (if t281 = (-1) then (some a0) else ((fiberutils_zzIndex.f k a0 (⟨#[59]⟩ : ByteArray)).bind fun t282 => (if t282 = (-1) then (if 0 ≤ (wrap64 (t281 + 1)) then (if (wrap64 (t281 + 1)) ≤ (a0.size : Int) then ((fiberutils_zzIndex.f k a0 (⟨#[47]⟩ : ByteArray)).bind fun t283 => (if t283 = (-1) then (some a0) else (if 0 ≤ (wrap64 (t283 + 1)) then (if (wrap64 (t283 + 1)) ≤ (a0.size : Int) then (if (min ((wrap64 (t283 + 1)) : Int).toNat a0.size) + ((a0.size - ((wrap64 (t281 + 1)) : Int).toNat)) ≤ 9223372036854775807 then (some ((a0.extract 0 ((wrap64 (t283 + 1)) : Int).toNat) ++ (a0.extract ((wrap64 (t281 + 1)) : Int).toNat a0.size))) else (none)) else (none)) else (none)))) else (none)) else (none)) else (if t281 < t282 then (if 0 ≤ (wrap64 (t281 + 1)) then (if (wrap64 (t281 + 1)) ≤ t282 then (if t282 ≤ (a0.size : Int) then ((fiberutils_zzIndex.f k a0 (⟨#[47]⟩ : ByteArray)).bind fun t284 => (if t284 = (-1) then (some a0) else (if 0 ≤ (wrap64 (t284 + 1)) then (if (wrap64 (t284 + 1)) ≤ (a0.size : Int) then (if (min ((wrap64 (t284 + 1)) : Int).toNat a0.size) + ((min (t282 : Int).toNat a0.size - ((wrap64 (t281 + 1)) : Int).toNat)) ≤ 9223372036854775807 then (some ((a0.extract 0 ((wrap64 (t284 + 1)) : Int).toNat) ++ (a0.extract ((wrap64 (t281 + 1)) : Int).toNat (t282 : Int).toNat))) else (none)) else (none)) else (none)))) else (none)) else (none)) else (none)) else (if 0 ≤ t282 then (if t282 ≤ (a0.size : Int) then (some (a0.extract 0 (t282 : Int).toNat)) else (none)) else (none))))))
theorem fiberutils_ParseVendorSpecificContentType.mono : ∀ a0 k, LeO (fiberutils_ParseVendorSpecificContentType.f k a0) (fiberutils_ParseVendorSpecificContentType.f (k + 1) a0) := by
  intro a0 k
  unfold fiberutils_ParseVendorSpecificContentType.f
  repeat' first
      | (with_reducible exact fiberutils_zzIndex.mono _ _ _)
      | (with_reducible exact LeO.refl _)
      | (with_reducible exact LeO.none _)
      | (with_reducible refine LeO.ite ?_ ?_)
      | (with_reducible refine LeO.bind ?_ (fun _ => ?_))
      | exact fiberutils_zzIndex.mono _ _ _
      | exact LeO.none _
      | refine LeO.ite ?_ ?_
      | refine LeO.bind ?_ (fun _ => ?_)
set_option maxHeartbeats 8000000 in
set_option maxRecDepth 100000 in
theorem fiberutils_ParseVendorSpecificContentType.calls (k : Nat) (a0 : ByteArray) (r : ByteArray) (w : World) (h : fiberutils_ParseVendorSpecificContentType.f k a0 = some r) :
    Calls Try.prog 57 #[.string a0] w fun e w' => e = .returned (.string r) ∧ Drawn0 w w' := by
  have H : ((fiberutils_zzIndex.f k a0 (⟨#[43]⟩ : ByteArray)).bind fun t281 => (if t281 = (-1) then (some a0) else ((fiberutils_zzIndex.f k a0 (⟨#[59]⟩ : ByteArray)).bind fun t282 => (if t282 = (-1) then (if 0 ≤ (wrap64 (t281 + 1)) then (if (wrap64 (t281 + 1)) ≤ (a0.size : Int) then ((fiberutils_zzIndex.f k a0 (⟨#[47]⟩ : ByteArray)).bind fun t283 => (if t283 = (-1) then (some a0) else (if 0 ≤ (wrap64 (t283 + 1)) then (if (wrap64 (t283 + 1)) ≤ (a0.size : Int) then (if (min ((wrap64 (t283 + 1)) : Int).toNat a0.size) + ((a0.size - ((wrap64 (t281 + 1)) : Int).toNat)) ≤ 9223372036854775807 then (some ((a0.extract 0 ((wrap64 (t283 + 1)) : Int).toNat) ++ (a0.extract ((wrap64 (t281 + 1)) : Int).toNat a0.size))) else (none)) else (none)) else (none)))) else (none)) else (none)) else (if t281 < t282 then (if 0 ≤ (wrap64 (t281 + 1)) then (if (wrap64 (t281 + 1)) ≤ t282 then (if t282 ≤ (a0.size : Int) then ((fiberutils_zzIndex.f k a0 (⟨#[47]⟩ : ByteArray)).bind fun t284 => (if t284 = (-1) then (some a0) else (if 0 ≤ (wrap64 (t284 + 1)) then (if (wrap64 (t284 + 1)) ≤ (a0.size : Int) then (if (min ((wrap64 (t284 + 1)) : Int).toNat a0.size) + ((min (t282 : Int).toNat a0.size - ((wrap64 (t281 + 1)) : Int).toNat)) ≤ 9223372036854775807 then (some ((a0.extract 0 ((wrap64 (t284 + 1)) : Int).toNat) ++ (a0.extract ((wrap64 (t281 + 1)) : Int).toNat (t282 : Int).toNat))) else (none)) else (none)) else (none)))) else (none)) else (none)) else (none)) else (if 0 ≤ t282 then (if t282 ≤ (a0.size : Int) then (some (a0.extract 0 (t282 : Int).toNat)) else (none)) else (none))))))) = some r := h
  clear h
  replace H := Option.bind_eq_some_iff.mp H
  obtain ⟨t281, A20, H⟩ := H
  replace H : (if t281 = (-1) then (some a0) else ((fiberutils_zzIndex.f k a0 (⟨#[59]⟩ : ByteArray)).bind fun t282 => (if t282 = (-1) then (if 0 ≤ (wrap64 (t281 + 1)) then (if (wrap64 (t281 + 1)) ≤ (a0.size : Int) then ((fiberutils_zzIndex.f k a0 (⟨#[47]⟩ : ByteArray)).bind fun t283 => (if t283 = (-1) then (some a0) else (if 0 ≤ (wrap64 (t283 + 1)) then (if (wrap64 (t283 + 1)) ≤ (a0.size : Int) then (if (min ((wrap64 (t283 + 1)) : Int).toNat a0.size) + ((a0.size - ((wrap64 (t281 + 1)) : Int).toNat)) ≤ 9223372036854775807 then (some ((a0.extract 0 ((wrap64 (t283 + 1)) : Int).toNat) ++ (a0.extract ((wrap64 (t281 + 1)) : Int).toNat a0.size))) else (none)) else (none)) else (none)))) else (none)) else (none)) else (if t281 < t282 then (if 0 ≤ (wrap64 (t281 + 1)) then (if (wrap64 (t281 + 1)) ≤ t282 then (if t282 ≤ (a0.size : Int) then ((fiberutils_zzIndex.f k a0 (⟨#[47]⟩ : ByteArray)).bind fun t284 => (if t284 = (-1) then (some a0) else (if 0 ≤ (wrap64 (t284 + 1)) then (if (wrap64 (t284 + 1)) ≤ (a0.size : Int) then (if (min ((wrap64 (t284 + 1)) : Int).toNat a0.size) + ((min (t282 : Int).toNat a0.size - ((wrap64 (t281 + 1)) : Int).toNat)) ≤ 9223372036854775807 then (some ((a0.extract 0 ((wrap64 (t284 + 1)) : Int).toNat) ++ (a0.extract ((wrap64 (t281 + 1)) : Int).toNat (t282 : Int).toNat))) else (none)) else (none)) else (none)))) else (none)) else (none)) else (none)) else (if 0 ≤ t282 then (if t282 ≤ (a0.size : Int) then (some (a0.extract 0 (t282 : Int).toNat)) else (none)) else (none)))))) = some r := H
  have A2 := Aside0.mk A20
  clear A20
  by_cases c3 : t281 = (-1)
  · rw [if_pos c3] at H
    have c3b0 : (t281 == (-1)) = true := beq_iff_eq.mpr c3
    have c3b1 : (t281 != (-1)) = false := bne_eq_false_iff_eq.mpr c3
    clear c3
    obtain rfl := Option.some.inj H
    go_enter Try.func57, Try.ntmps57
    go_wp2_with (first | ((with_reducible refine gate_callee (f := 65) rfl ?_); refine goesL_ (some 8) rfl rfl Try.func65 (by kernel_rfl) rfl #[.string a0, .string (⟨#[43]⟩ : ByteArray)] rfl (by (try simp only [List.map_toArray, List.map_cons, List.map_nil]); first | done | rfl | (simp only [List.length_drop, List.length_take]; rfl)) ?_; (with_reducible refine (fiberutils_zzIndex.calls k a0 (⟨#[43]⟩ : ByteArray) t281 _ A2.out).mono ?_); rintro e w' ⟨rfl, ⟨nd, rfl⟩⟩; refine ⟨_, rfl, ?_⟩))
    go_ret
    exact ⟨by first | rfl | (simp; done) | (simp [*]; done) | (simp [Go.Proofs.YtjmcndbkmknemaaX.isEmpty_ne]; done), by repeat (first | exact Drawn0.refl _ | apply Drawn0.step)⟩
  · rw [if_neg c3] at H
    have c3b0 : (t281 == (-1)) = false := beq_eq_false_iff_ne.mpr c3
    have c3b1 : (t281 != (-1)) = true := bne_iff_ne.mpr c3
    replace H := Option.bind_eq_some_iff.mp H
    obtain ⟨t282, A40, H⟩ := H
    replace H : (if t282 = (-1) then (if 0 ≤ (wrap64 (t281 + 1)) then (if (wrap64 (t281 + 1)) ≤ (a0.size : Int) then ((fiberutils_zzIndex.f k a0 (⟨#[47]⟩ : ByteArray)).bind fun t283 => (if t283 = (-1) then (some a0) else (if 0 ≤ (wrap64 (t283 + 1)) then (if (wrap64 (t283 + 1)) ≤ (a0.size : Int) then (if (min ((wrap64 (t283 + 1)) : Int).toNat a0.size) + ((a0.size - ((wrap64 (t281 + 1)) : Int).toNat)) ≤ 9223372036854775807 then (some ((a0.extract 0 ((wrap64 (t283 + 1)) : Int).toNat) ++ (a0.extract ((wrap64 (t281 + 1)) : Int).toNat a0.size))) else (none)) else (none)) else (none)))) else (none)) else (none)) else (if t281 < t282 then (if 0 ≤ (wrap64 (t281 + 1)) then (if (wrap64 (t281 + 1)) ≤ t282 then (if t282 ≤ (a0.size : Int) then ((fiberutils_zzIndex.f k a0 (⟨#[47]⟩ : ByteArray)).bind fun t284 => (if t284 = (-1) then (some a0) else (if 0 ≤ (wrap64 (t284 + 1)) then (if (wrap64 (t284 + 1)) ≤ (a0.size : Int) then (if (min ((wrap64 (t284 + 1)) : Int).toNat a0.size) + ((min (t282 : Int).toNat a0.size - ((wrap64 (t281 + 1)) : Int).toNat)) ≤ 9223372036854775807 then (some ((a0.extract 0 ((wrap64 (t284 + 1)) : Int).toNat) ++ (a0.extract ((wrap64 (t281 + 1)) : Int).toNat (t282 : Int).toNat))) else (none)) else (none)) else (none)))) else (none)) else (none)) else (none)) else (if 0 ≤ t282 then (if t282 ≤ (a0.size : Int) then (some (a0.extract 0 (t282 : Int).toNat)) else (none)) else (none)))) = some r := H
    have A4 := Aside0.mk A40
    clear A40
    by_cases c5 : t282 = (-1)
    · rw [if_pos c5] at H
      have c5b0 : (t282 == (-1)) = true := beq_iff_eq.mpr c5
      have c5b1 : (t282 != (-1)) = false := bne_eq_false_iff_eq.mpr c5
      clear c5
      obtain ⟨ji6, hji6⟩ : ∃ j_ : Int, (wrap64 (t281 + 1)) = j_ := ⟨_, rfl⟩
      replace H : (if 0 ≤ (ji6) then (if (ji6) ≤ (a0.size : Int) then ((fiberutils_zzIndex.f k a0 (⟨#[47]⟩ : ByteArray)).bind fun t283 => (if t283 = (-1) then (some a0) else (if 0 ≤ (wrap64 (t283 + 1)) then (if (wrap64 (t283 + 1)) ≤ (a0.size : Int) then (if (min ((wrap64 (t283 + 1)) : Int).toNat a0.size) + ((a0.size - ((ji6) : Int).toNat)) ≤ 9223372036854775807 then (some ((a0.extract 0 ((wrap64 (t283 + 1)) : Int).toNat) ++ (a0.extract ((ji6) : Int).toNat a0.size))) else (none)) else (none)) else (none)))) else (none)) else (none)) = some r := by first | (rw [hji6] at H; exact H) | (simp only [hji6] at H ⊢; exact H)
      (try rw [hji6] at A2)
      (try rw [hji6] at A4)
      have hji6w : (IntKind.i64.wrap (t281 + 1)) = ji6 := (i64_w _).trans hji6
      by_cases c7 : 0 ≤ (ji6)
      · rw [if_pos c7] at H
        have c7b0 := eq_true c7
        have c7b1 : decide (0 ≤ (ji6)) = true := decide_eq_true c7
        clear c7
        by_cases c8 : (ji6) ≤ (a0.size : Int)
        · rw [if_pos c8] at H
          have c8b0 := eq_true c8
          have c8b1 : decide ((ji6) ≤ (a0.size : Int)) = true := decide_eq_true c8
          clear c8
          replace H := Option.bind_eq_some_iff.mp H
          obtain ⟨t283, A90, H⟩ := H
          replace H : (if t283 = (-1) then (some a0) else (if 0 ≤ (wrap64 (t283 + 1)) then (if (wrap64 (t283 + 1)) ≤ (a0.size : Int) then (if (min ((wrap64 (t283 + 1)) : Int).toNat a0.size) + ((a0.size - ((ji6) : Int).toNat)) ≤ 9223372036854775807 then (some ((a0.extract 0 ((wrap64 (t283 + 1)) : Int).toNat) ++ (a0.extract ((ji6) : Int).toNat a0.size))) else (none)) else (none)) else (none))) = some r := H
          have A9 := Aside0.mk A90
          clear A90
          by_cases c10 : t283 = (-1)
          · rw [if_pos c10] at H
            have c10b0 : (t283 == (-1)) = true := beq_iff_eq.mpr c10
            have c10b1 : (t283 != (-1)) = false := bne_eq_false_iff_eq.mpr c10
            clear c10
            obtain rfl := Option.some.inj H
            go_enter Try.func57, Try.ntmps57
            go_wp2_with (first | ((with_reducible refine gate_callee (f := 65) rfl ?_); refine goesL_ (some 8) rfl rfl Try.func65 (by kernel_rfl) rfl #[.string a0, .string (⟨#[43]⟩ : ByteArray)] rfl (by (try simp only [List.map_toArray, List.map_cons, List.map_nil]); first | done | rfl | (simp only [List.length_drop, List.length_take]; rfl)) ?_; (with_reducible refine (fiberutils_zzIndex.calls k a0 (⟨#[43]⟩ : ByteArray) t281 _ A2.out).mono ?_); rintro e w' ⟨rfl, ⟨nd, rfl⟩⟩; refine ⟨_, rfl, ?_⟩) | ((with_reducible refine gate_callee (f := 65) rfl ?_); refine goesL_ (some 13) rfl rfl Try.func65 (by kernel_rfl) rfl #[.string a0, .string (⟨#[59]⟩ : ByteArray)] rfl (by (try simp only [List.map_toArray, List.map_cons, List.map_nil]); first | done | rfl | (simp only [List.length_drop, List.length_take]; rfl)) ?_; (with_reducible refine (fiberutils_zzIndex.calls k a0 (⟨#[59]⟩ : ByteArray) t282 _ A4.out).mono ?_); rintro e w' ⟨rfl, ⟨nd, rfl⟩⟩; refine ⟨_, rfl, ?_⟩) | ((with_reducible refine gate_callee (f := 65) rfl ?_); refine goesL_ (some 32) rfl rfl Try.func65 (by kernel_rfl) rfl #[.string a0, .string (⟨#[47]⟩ : ByteArray)] rfl (by (try simp only [List.map_toArray, List.map_cons, List.map_nil]); first | done | rfl | (simp only [List.length_drop, List.length_take]; rfl)) ?_; (with_reducible refine (fiberutils_zzIndex.calls k a0 (⟨#[47]⟩ : ByteArray) t283 _ A9.out).mono ?_); rintro e w' ⟨rfl, ⟨nd, rfl⟩⟩; refine ⟨_, rfl, ?_⟩))
            go_ret
            exact ⟨by first | rfl | (simp; done) | (simp only [← hji6] <;> (first | rfl | simp)) | (simp [*]; done) | (simp [Go.Proofs.YtjmcndbkmknemaaX.isEmpty_ne]; done), by repeat (first | exact Drawn0.refl _ | apply Drawn0.step)⟩
          · rw [if_neg c10] at H
            have c10b0 : (t283 == (-1)) = false := beq_eq_false_iff_ne.mpr c10
            have c10b1 : (t283 != (-1)) = true := bne_iff_ne.mpr c10
            obtain ⟨ji11, hji11⟩ : ∃ j_ : Int, (wrap64 (t283 + 1)) = j_ := ⟨_, rfl⟩
            replace H : (if 0 ≤ (ji11) then (if (ji11) ≤ (a0.size : Int) then (if (min ((ji11) : Int).toNat a0.size) + ((a0.size - ((ji6) : Int).toNat)) ≤ 9223372036854775807 then (some ((a0.extract 0 ((ji11) : Int).toNat) ++ (a0.extract ((ji6) : Int).toNat a0.size))) else (none)) else (none)) else (none)) = some r := by first | (rw [hji11] at H; exact H) | (simp only [hji11] at H ⊢; exact H)
            (try rw [hji11] at A2)
            (try rw [hji11] at A4)
            (try rw [hji11] at A9)
            have hji11w : (IntKind.i64.wrap (t283 + 1)) = ji11 := (i64_w _).trans hji11
            by_cases c12 : 0 ≤ (ji11)
            · rw [if_pos c12] at H
              have c12b0 := eq_true c12
              have c12b1 : decide (0 ≤ (ji11)) = true := decide_eq_true c12
              clear c12
              by_cases c13 : (ji11) ≤ (a0.size : Int)
              · rw [if_pos c13] at H
                have c13b0 := eq_true c13
                have c13b1 : decide ((ji11) ≤ (a0.size : Int)) = true := decide_eq_true c13
                clear c13
                by_cases c14 : (min ((ji11) : Int).toNat a0.size) + ((a0.size - ((ji6) : Int).toNat)) ≤ 9223372036854775807
                · rw [if_pos c14] at H
                  have c14b0 := eq_true c14
                  have c14b1 : decide ((min ((ji11) : Int).toNat a0.size) + ((a0.size - ((ji6) : Int).toNat)) ≤ 9223372036854775807) = true := decide_eq_true c14
                  try have c14b2 : (9223372036854775807 < (min ((ji11) : Int).toNat a0.size) + ((a0.size - ((ji6) : Int).toNat))) = False := eq_false (Nat.not_lt.2 c14)
                  obtain rfl := Option.some.inj H
                  go_enter Try.func57, Try.ntmps57
                  go_wp2_with (first | ((with_reducible refine gate_callee (f := 65) rfl ?_); refine goesL_ (some 8) rfl rfl Try.func65 (by kernel_rfl) rfl #[.string a0, .string (⟨#[43]⟩ : ByteArray)] rfl (by (try simp only [List.map_toArray, List.map_cons, List.map_nil]); first | done | rfl | (simp only [List.length_drop, List.length_take]; rfl)) ?_; (with_reducible refine (fiberutils_zzIndex.calls k a0 (⟨#[43]⟩ : ByteArray) t281 _ A2.out).mono ?_); rintro e w' ⟨rfl, ⟨nd, rfl⟩⟩; refine ⟨_, rfl, ?_⟩) | ((with_reducible refine gate_callee (f := 65) rfl ?_); refine goesL_ (some 13) rfl rfl Try.func65 (by kernel_rfl) rfl #[.string a0, .string (⟨#[59]⟩ : ByteArray)] rfl (by (try simp only [List.map_toArray, List.map_cons, List.map_nil]); first | done | rfl | (simp only [List.length_drop, List.length_take]; rfl)) ?_; (with_reducible refine (fiberutils_zzIndex.calls k a0 (⟨#[59]⟩ : ByteArray) t282 _ A4.out).mono ?_); rintro e w' ⟨rfl, ⟨nd, rfl⟩⟩; refine ⟨_, rfl, ?_⟩) | ((with_reducible refine gate_callee (f := 65) rfl ?_); refine goesL_ (some 32) rfl rfl Try.func65 (by kernel_rfl) rfl #[.string a0, .string (⟨#[47]⟩ : ByteArray)] rfl (by (try simp only [List.map_toArray, List.map_cons, List.map_nil]); first | done | rfl | (simp only [List.length_drop, List.length_take]; rfl)) ?_; (with_reducible refine (fiberutils_zzIndex.calls k a0 (⟨#[47]⟩ : ByteArray) t283 _ A9.out).mono ?_); rintro e w' ⟨rfl, ⟨nd, rfl⟩⟩; refine ⟨_, rfl, ?_⟩))
                  any_goals (try (exfalso; have zc7b1 := of_decide_eq_true c7b1; have zc8b1 := of_decide_eq_true c8b1; have zc12b1 := of_decide_eq_true c12b1; have zc13b1 := of_decide_eq_true c13b1; have zc14b1 := of_decide_eq_true c14b1; omega))
                  go_ret
                  exact ⟨by first | rfl | (simp; done) | (simp only [← hji6, ← hji11] <;> (first | rfl | simp)) | (simp [*]; done) | (simp [Go.Proofs.YtjmcndbkmknemaaX.isEmpty_ne]; done), by repeat (first | exact Drawn0.refl _ | apply Drawn0.step)⟩
                · rw [if_neg c14] at H
                  exact absurd H (by simp)
              · rw [if_neg c13] at H
                exact absurd H (by simp)
            · rw [if_neg c12] at H
              exact absurd H (by simp)
        · rw [if_neg c8] at H
          exact absurd H (by simp)
      · rw [if_neg c7] at H
        exact absurd H (by simp)
    · rw [if_neg c5] at H
      have c5b0 : (t282 == (-1)) = false := beq_eq_false_iff_ne.mpr c5
      have c5b1 : (t282 != (-1)) = true := bne_iff_ne.mpr c5
      by_cases c15 : t281 < t282
      · rw [if_pos c15] at H
        have c15b0 : decide (t281 < t282) = true := decide_eq_true c15
        clear c15
        obtain ⟨ji16, hji16⟩ : ∃ j_ : Int, (wrap64 (t281 + 1)) = j_ := ⟨_, rfl⟩
        replace H : (if 0 ≤ (ji16) then (if (ji16) ≤ t282 then (if t282 ≤ (a0.size : Int) then ((fiberutils_zzIndex.f k a0 (⟨#[47]⟩ : ByteArray)).bind fun t284 => (if t284 = (-1) then (some a0) else (if 0 ≤ (wrap64 (t284 + 1)) then (if (wrap64 (t284 + 1)) ≤ (a0.size : Int) then (if (min ((wrap64 (t284 + 1)) : Int).toNat a0.size) + ((min (t282 : Int).toNat a0.size - ((ji16) : Int).toNat)) ≤ 9223372036854775807 then (some ((a0.extract 0 ((wrap64 (t284 + 1)) : Int).toNat) ++ (a0.extract ((ji16) : Int).toNat (t282 : Int).toNat))) else (none)) else (none)) else (none)))) else (none)) else (none)) else (none)) = some r := by first | (rw [hji16] at H; exact H) | (simp only [hji16] at H ⊢; exact H)
        (try rw [hji16] at A2)
        (try rw [hji16] at A4)
        have hji16w : (IntKind.i64.wrap (t281 + 1)) = ji16 := (i64_w _).trans hji16
        by_cases c17 : 0 ≤ (ji16)
        · rw [if_pos c17] at H
          have c17b0 := eq_true c17
          have c17b1 : decide (0 ≤ (ji16)) = true := decide_eq_true c17
          clear c17
          by_cases c18 : (ji16) ≤ t282
          · rw [if_pos c18] at H
            have c18b0 := eq_true c18
            have c18b1 : decide ((ji16) ≤ t282) = true := decide_eq_true c18
            clear c18
            by_cases c19 : t282 ≤ (a0.size : Int)
            · rw [if_pos c19] at H
              have c19b0 := eq_true c19
              have c19b1 : decide (t282 ≤ (a0.size : Int)) = true := decide_eq_true c19
              clear c19
              replace H := Option.bind_eq_some_iff.mp H
              obtain ⟨t284, A200, H⟩ := H
              replace H : (if t284 = (-1) then (some a0) else (if 0 ≤ (wrap64 (t284 + 1)) then (if (wrap64 (t284 + 1)) ≤ (a0.size : Int) then (if (min ((wrap64 (t284 + 1)) : Int).toNat a0.size) + ((min (t282 : Int).toNat a0.size - ((ji16) : Int).toNat)) ≤ 9223372036854775807 then (some ((a0.extract 0 ((wrap64 (t284 + 1)) : Int).toNat) ++ (a0.extract ((ji16) : Int).toNat (t282 : Int).toNat))) else (none)) else (none)) else (none))) = some r := H
              have A20 := Aside0.mk A200
              clear A200
              by_cases c21 : t284 = (-1)
              · rw [if_pos c21] at H
                have c21b0 : (t284 == (-1)) = true := beq_iff_eq.mpr c21
                have c21b1 : (t284 != (-1)) = false := bne_eq_false_iff_eq.mpr c21
                clear c21
                obtain rfl := Option.some.inj H
                go_enter Try.func57, Try.ntmps57
                go_wp2_with (first | ((with_reducible refine gate_callee (f := 65) rfl ?_); refine goesL_ (some 8) rfl rfl Try.func65 (by kernel_rfl) rfl #[.string a0, .string (⟨#[43]⟩ : ByteArray)] rfl (by (try simp only [List.map_toArray, List.map_cons, List.map_nil]); first | done | rfl | (simp only [List.length_drop, List.length_take]; rfl)) ?_; (with_reducible refine (fiberutils_zzIndex.calls k a0 (⟨#[43]⟩ : ByteArray) t281 _ A2.out).mono ?_); rintro e w' ⟨rfl, ⟨nd, rfl⟩⟩; refine ⟨_, rfl, ?_⟩) | ((with_reducible refine gate_callee (f := 65) rfl ?_); refine goesL_ (some 13) rfl rfl Try.func65 (by kernel_rfl) rfl #[.string a0, .string (⟨#[59]⟩ : ByteArray)] rfl (by (try simp only [List.map_toArray, List.map_cons, List.map_nil]); first | done | rfl | (simp only [List.length_drop, List.length_take]; rfl)) ?_; (with_reducible refine (fiberutils_zzIndex.calls k a0 (⟨#[59]⟩ : ByteArray) t282 _ A4.out).mono ?_); rintro e w' ⟨rfl, ⟨nd, rfl⟩⟩; refine ⟨_, rfl, ?_⟩) | ((with_reducible refine gate_callee (f := 65) rfl ?_); refine goesL_ (some 32) rfl rfl Try.func65 (by kernel_rfl) rfl #[.string a0, .string (⟨#[47]⟩ : ByteArray)] rfl (by (try simp only [List.map_toArray, List.map_cons, List.map_nil]); first | done | rfl | (simp only [List.length_drop, List.length_take]; rfl)) ?_; (with_reducible refine (fiberutils_zzIndex.calls k a0 (⟨#[47]⟩ : ByteArray) t284 _ A20.out).mono ?_); rintro e w' ⟨rfl, ⟨nd, rfl⟩⟩; refine ⟨_, rfl, ?_⟩))
                go_ret
                exact ⟨by first | rfl | (simp; done) | (simp only [← hji16] <;> (first | rfl | simp)) | (simp [*]; done) | (simp [Go.Proofs.YtjmcndbkmknemaaX.isEmpty_ne]; done), by repeat (first | exact Drawn0.refl _ | apply Drawn0.step)⟩
              · rw [if_neg c21] at H
                have c21b0 : (t284 == (-1)) = false := beq_eq_false_iff_ne.mpr c21
                have c21b1 : (t284 != (-1)) = true := bne_iff_ne.mpr c21
                obtain ⟨ji22, hji22⟩ : ∃ j_ : Int, (wrap64 (t284 + 1)) = j_ := ⟨_, rfl⟩
                replace H : (if 0 ≤ (ji22) then (if (ji22) ≤ (a0.size : Int) then (if (min ((ji22) : Int).toNat a0.size) + ((min (t282 : Int).toNat a0.size - ((ji16) : Int).toNat)) ≤ 9223372036854775807 then (some ((a0.extract 0 ((ji22) : Int).toNat) ++ (a0.extract ((ji16) : Int).toNat (t282 : Int).toNat))) else (none)) else (none)) else (none)) = some r := by first | (rw [hji22] at H; exact H) | (simp only [hji22] at H ⊢; exact H)
                (try rw [hji22] at A2)
                (try rw [hji22] at A4)
                (try rw [hji22] at A20)
                have hji22w : (IntKind.i64.wrap (t284 + 1)) = ji22 := (i64_w _).trans hji22
                by_cases c23 : 0 ≤ (ji22)
                · rw [if_pos c23] at H
                  have c23b0 := eq_true c23
                  have c23b1 : decide (0 ≤ (ji22)) = true := decide_eq_true c23
                  clear c23
                  by_cases c24 : (ji22) ≤ (a0.size : Int)
                  · rw [if_pos c24] at H
                    have c24b0 := eq_true c24
                    have c24b1 : decide ((ji22) ≤ (a0.size : Int)) = true := decide_eq_true c24
                    clear c24
                    by_cases c25 : (min ((ji22) : Int).toNat a0.size) + ((min (t282 : Int).toNat a0.size - ((ji16) : Int).toNat)) ≤ 9223372036854775807
                    · rw [if_pos c25] at H
                      have c25b0 := eq_true c25
                      have c25b1 : decide ((min ((ji22) : Int).toNat a0.size) + ((min (t282 : Int).toNat a0.size - ((ji16) : Int).toNat)) ≤ 9223372036854775807) = true := decide_eq_true c25
                      try have c25b2 : (9223372036854775807 < (min ((ji22) : Int).toNat a0.size) + ((min (t282 : Int).toNat a0.size - ((ji16) : Int).toNat))) = False := eq_false (Nat.not_lt.2 c25)
                      obtain rfl := Option.some.inj H
                      go_enter Try.func57, Try.ntmps57
                      go_wp2_with (first | ((with_reducible refine gate_callee (f := 65) rfl ?_); refine goesL_ (some 8) rfl rfl Try.func65 (by kernel_rfl) rfl #[.string a0, .string (⟨#[43]⟩ : ByteArray)] rfl (by (try simp only [List.map_toArray, List.map_cons, List.map_nil]); first | done | rfl | (simp only [List.length_drop, List.length_take]; rfl)) ?_; (with_reducible refine (fiberutils_zzIndex.calls k a0 (⟨#[43]⟩ : ByteArray) t281 _ A2.out).mono ?_); rintro e w' ⟨rfl, ⟨nd, rfl⟩⟩; refine ⟨_, rfl, ?_⟩) | ((with_reducible refine gate_callee (f := 65) rfl ?_); refine goesL_ (some 13) rfl rfl Try.func65 (by kernel_rfl) rfl #[.string a0, .string (⟨#[59]⟩ : ByteArray)] rfl (by (try simp only [List.map_toArray, List.map_cons, List.map_nil]); first | done | rfl | (simp only [List.length_drop, List.length_take]; rfl)) ?_; (with_reducible refine (fiberutils_zzIndex.calls k a0 (⟨#[59]⟩ : ByteArray) t282 _ A4.out).mono ?_); rintro e w' ⟨rfl, ⟨nd, rfl⟩⟩; refine ⟨_, rfl, ?_⟩) | ((with_reducible refine gate_callee (f := 65) rfl ?_); refine goesL_ (some 32) rfl rfl Try.func65 (by kernel_rfl) rfl #[.string a0, .string (⟨#[47]⟩ : ByteArray)] rfl (by (try simp only [List.map_toArray, List.map_cons, List.map_nil]); first | done | rfl | (simp only [List.length_drop, List.length_take]; rfl)) ?_; (with_reducible refine (fiberutils_zzIndex.calls k a0 (⟨#[47]⟩ : ByteArray) t284 _ A20.out).mono ?_); rintro e w' ⟨rfl, ⟨nd, rfl⟩⟩; refine ⟨_, rfl, ?_⟩))
                      any_goals (try (exfalso; have zc15b0 := of_decide_eq_true c15b0; have zc17b1 := of_decide_eq_true c17b1; have zc18b1 := of_decide_eq_true c18b1; have zc19b1 := of_decide_eq_true c19b1; have zc23b1 := of_decide_eq_true c23b1; have zc24b1 := of_decide_eq_true c24b1; have zc25b1 := of_decide_eq_true c25b1; omega))
                      go_ret
                      exact ⟨by first | rfl | (simp; done) | (simp only [← hji16, ← hji22] <;> (first | rfl | simp)) | (simp [*]; done) | (simp [Go.Proofs.YtjmcndbkmknemaaX.isEmpty_ne]; done), by repeat (first | exact Drawn0.refl _ | apply Drawn0.step)⟩
                    · rw [if_neg c25] at H
                      exact absurd H (by simp)
                  · rw [if_neg c24] at H
                    exact absurd H (by simp)
                · rw [if_neg c23] at H
                  exact absurd H (by simp)
            · rw [if_neg c19] at H
              exact absurd H (by simp)
          · rw [if_neg c18] at H
            exact absurd H (by simp)
        · rw [if_neg c17] at H
          exact absurd H (by simp)
      · rw [if_neg c15] at H
        have c15b0 : decide (t281 < t282) = false := decide_eq_false c15
        clear c15
        by_cases c26 : 0 ≤ t282
        · rw [if_pos c26] at H
          have c26b0 := eq_true c26
          have c26b1 : decide (0 ≤ t282) = true := decide_eq_true c26
          clear c26
          by_cases c27 : t282 ≤ (a0.size : Int)
          · rw [if_pos c27] at H
            have c27b0 := eq_true c27
            have c27b1 : decide (t282 ≤ (a0.size : Int)) = true := decide_eq_true c27
            clear c27
            obtain rfl := Option.some.inj H
            go_enter Try.func57, Try.ntmps57
            go_wp2_with (first | ((with_reducible refine gate_callee (f := 65) rfl ?_); refine goesL_ (some 8) rfl rfl Try.func65 (by kernel_rfl) rfl #[.string a0, .string (⟨#[43]⟩ : ByteArray)] rfl (by (try simp only [List.map_toArray, List.map_cons, List.map_nil]); first | done | rfl | (simp only [List.length_drop, List.length_take]; rfl)) ?_; (with_reducible refine (fiberutils_zzIndex.calls k a0 (⟨#[43]⟩ : ByteArray) t281 _ A2.out).mono ?_); rintro e w' ⟨rfl, ⟨nd, rfl⟩⟩; refine ⟨_, rfl, ?_⟩) | ((with_reducible refine gate_callee (f := 65) rfl ?_); refine goesL_ (some 13) rfl rfl Try.func65 (by kernel_rfl) rfl #[.string a0, .string (⟨#[59]⟩ : ByteArray)] rfl (by (try simp only [List.map_toArray, List.map_cons, List.map_nil]); first | done | rfl | (simp only [List.length_drop, List.length_take]; rfl)) ?_; (with_reducible refine (fiberutils_zzIndex.calls k a0 (⟨#[59]⟩ : ByteArray) t282 _ A4.out).mono ?_); rintro e w' ⟨rfl, ⟨nd, rfl⟩⟩; refine ⟨_, rfl, ?_⟩))
            go_ret
            exact ⟨by first | rfl | (simp; done) | (simp [*]; done) | (simp [Go.Proofs.YtjmcndbkmknemaaX.isEmpty_ne]; done), by repeat (first | exact Drawn0.refl _ | apply Drawn0.step)⟩
          · rw [if_neg c27] at H
            exact absurd H (by simp)
        · rw [if_neg c26] at H
          exact absurd H (by simp)

/-! ### impl_ContentType: function 37 -/
def impl_ContentType.f (k : Nat) (a0 : ByteArray) : Option (ByteArray) := (fiberutils_ParseVendorSpecificContentType.f k a0).bind fun t285 => (some t285)
theorem impl_ContentType.mono : ∀ a0 k, LeO (impl_ContentType.f k a0) (impl_ContentType.f (k + 1) a0) := by
  intro a0 k
  unfold impl_ContentType.f
  repeat' first
      | (with_reducible exact fiberutils_ParseVendorSpecificContentType.mono _ _)
      | (with_reducible exact LeO.refl _)
      | (with_reducible exact LeO.none _)
      | (with_reducible refine LeO.ite ?_ ?_)
      | (with_reducible refine LeO.bind ?_ (fun _ => ?_))
      | exact fiberutils_ParseVendorSpecificContentType.mono _ _
      | exact LeO.none _
      | refine LeO.ite ?_ ?_
      | refine LeO.bind ?_ (fun _ => ?_)
set_option maxHeartbeats 8000000 in
set_option maxRecDepth 100000 in
theorem impl_ContentType.calls (k : Nat) (a0 : ByteArray) (r : ByteArray) (w : World) (h : impl_ContentType.f k a0 = some r) :
    Calls Try.prog 37 #[.string a0] w fun e w' => e = .returned (.string r) ∧ Drawn0 w w' := by
  have H : ((fiberutils_ParseVendorSpecificContentType.f k a0).bind fun t285 => (some t285)) = some r := h
  clear h
  replace H := Option.bind_eq_some_iff.mp H
  obtain ⟨t285, A20, H⟩ := H
  replace H : (some t285) = some r := H
  have A2 := Aside0.mk A20
  clear A20
  obtain rfl := Option.some.inj H
  go_enter Try.func37, Try.ntmps37
  go_wp2_with (first | ((with_reducible refine gate_callee (f := 57) rfl ?_); refine goesL_ (some 4) rfl rfl Try.func57 (by kernel_rfl) rfl #[.string a0] rfl (by (try simp only [List.map_toArray, List.map_cons, List.map_nil]); first | done | rfl | (simp only [List.length_drop, List.length_take]; rfl)) ?_; (with_reducible refine (fiberutils_ParseVendorSpecificContentType.calls k a0 t285 _ A2.out).mono ?_); rintro e w' ⟨rfl, ⟨nd, rfl⟩⟩; refine ⟨_, rfl, ?_⟩))
  go_ret
  exact ⟨by first | rfl | (simp; done) | (simp [*]; done) | (simp [Go.Proofs.YtjmcndbkmknemaaX.isEmpty_ne]; done), by repeat (first | exact Drawn0.refl _ | apply Drawn0.step)⟩

end Go.Proofs.Ytjmcndbkmknemaa.Q
