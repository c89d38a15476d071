-- Written by a program of this session out of the translation, with the kit's printer. Not trusted: Lean checks it.
import Derived.Test.YtipmmjbjgbfgjaaQ0
import Derived.Test.YtipmmjbjgbfgjaaQ1
import Derived.Test.YtipmmjbjgbfgjaaQ4
import Derived.Test.YtipmmjbjgbfgjaaQ5
import Derived.Test.YtipmmjbjgbfgjaaQ6
namespace Go.Proofs.Ytipmmjbjgbfgjaa.Q
open Go.RowKit Go.Proofs.YtipmmjbjgbfgjaaW.PrintWords Go.Proofs.YtipmmjbjgbfgjaaW.PrintLast Go.Proofs.YtipmmjbjgbfgjaaW.PrintMore
attribute [local go_sem] max2_int min2_int max_two min_two max_three min_three max_four min_four   -- for this text's walks alone
set_option linter.unusedVariables false
set_option linter.unusedSimpArgs false

/-! ### laws_FnTokensStand: function 10 -/
mutual
def laws_FnTokensStand.j0 : Nat → ByteArray → Bool → Option (Bool)
  | 0, _, _ => none
  | k + 1, x0, x51 => if x51 = true then (some false) else ((laws_short.f k (([x0] : List ByteArray))).bind fun t120 => (if t120 = true then (laws_FnTokensStand.l0 k x0 (⟨#[]⟩ : ByteArray) (x0.size : Int) 0) else (some true)))
def laws_FnTokensStand.l0 : Nat → ByteArray → ByteArray → Int → Int → Option (Bool)
  | 0, _, _, _, _ => none
  | k + 1, x0, x4, x57, x58 => if x58 < x57 then (if 0 ≤ x58 then (if x58 ≤ (wrap64 (x58 + 1)) then (if (wrap64 (x58 + 1)) ≤ (x0.size : Int) then (if (x0.extract (x58 : Int).toNat ((wrap64 (x58 + 1)) : Int).toNat).toList = ([32] : List UInt8) then (laws_FnTokensStand.l0 k x0 x4 x57 (wrap64 (x58 + 1))) else ((laws_word.f k (x0.extract (x58 : Int).toNat ((wrap64 (x58 + 1)) : Int).toNat)).bind fun t121 => (if t121 = true then (if x4.size + ((min ((wrap64 (x58 + 1)) : Int).toNat x0.size - (x58 : Int).toNat)) ≤ 9223372036854775807 then (laws_FnTokensStand.l0 k x0 (x4 ++ (x0.extract (x58 : Int).toNat ((wrap64 (x58 + 1)) : Int).toNat)) x57 (wrap64 (x58 + 1))) else (none)) else (if x58 < (x0.size : Int) then ((laws_holds.f k (⟨#[123, 125, 40, 41, 58, 44]⟩ : ByteArray) (bt x0 x58)).bind fun t122 => (if t122 = true then (if x4.size + ((min ((wrap64 (x58 + 1)) : Int).toNat x0.size - (x58 : Int).toNat)) ≤ 9223372036854775807 then (laws_FnTokensStand.l0 k x0 (x4 ++ (x0.extract (x58 : Int).toNat ((wrap64 (x58 + 1)) : Int).toNat)) x57 (wrap64 (x58 + 1))) else (none)) else (some true))) else (none))))) else (none)) else (none)) else (none)) else ((impl_Tokens.f x0).bind fun t123 => (laws_FnTokensStand.l1 k x4 t123 t123 (t123.length : Int) 0))
def laws_FnTokensStand.l1 : Nat → ByteArray → List (S56) → List (S56) → Int → Int → Option (Bool)
  | 0, _, _, _, _, _ => none
  | k + 1, x4, x7, x84, x85, x86 => if x86 < x85 then (if 0 ≤ x86 then (if x86 < (x84.length : Int) then (if ((((rd_T56 x84 x86).f0) == 0) != (x86 == (wrap64 ((x7.length : Int) - 1)))) = true then (laws_FnTokensStand.j3 k x4 x7 x84 x85 x86 true ((rd_T56 x84 x86).f0) ((rd_T56 x84 x86).f1) ((rd_T56 x84 x86).f2) ((rd_T56 x84 x86).f3)) else (if ((rd_T56 x84 x86).f0) = 0 then (if (((rd_T56 x84 x86).f1).size : Int) > 1 then (laws_FnTokensStand.j3 k x4 x7 x84 x85 x86 (decide (((rd_T56 x84 x86).f3) ≤ ((rd_T56 x84 x86).f2))) ((rd_T56 x84 x86).f0) ((rd_T56 x84 x86).f1) ((rd_T56 x84 x86).f2) ((rd_T56 x84 x86).f3)) else (laws_FnTokensStand.j3 k x4 x7 x84 x85 x86 false ((rd_T56 x84 x86).f0) ((rd_T56 x84 x86).f1) ((rd_T56 x84 x86).f2) ((rd_T56 x84 x86).f3))) else (if ((rd_T56 x84 x86).f1).toList = ([] : List UInt8) then (laws_FnTokensStand.j3 k x4 x7 x84 x85 x86 true ((rd_T56 x84 x86).f0) ((rd_T56 x84 x86).f1) ((rd_T56 x84 x86).f2) ((rd_T56 x84 x86).f3)) else ((laws_begins.f x4 ((rd_T56 x84 x86).f1)).bind fun t128 => (if t128 = true then (if (((rd_T56 x84 x86).f1).size : Int) > 1 then (laws_FnTokensStand.j3 k x4 x7 x84 x85 x86 (decide (((rd_T56 x84 x86).f3) ≤ ((rd_T56 x84 x86).f2))) ((rd_T56 x84 x86).f0) ((rd_T56 x84 x86).f1) ((rd_T56 x84 x86).f2) ((rd_T56 x84 x86).f3)) else (laws_FnTokensStand.j3 k x4 x7 x84 x85 x86 false ((rd_T56 x84 x86).f0) ((rd_T56 x84 x86).f1) ((rd_T56 x84 x86).f2) ((rd_T56 x84 x86).f3))) else (laws_FnTokensStand.j3 k x4 x7 x84 x85 x86 true ((rd_T56 x84 x86).f0) ((rd_T56 x84 x86).f1) ((rd_T56 x84 x86).f2) ((rd_T56 x84 x86).f3))))))) else (none)) else (none)) else (if (x7.length : Int) > 0 then (some (x4.toList == ([] : List UInt8))) else (some false))
def laws_FnTokensStand.j3 : Nat → ByteArray → List (S56) → List (S56) → Int → Int → Bool → Int → ByteArray → Int → Int → Option (Bool)
  | 0, _, _, _, _, _, _, _, _, _, _ => none
  | k + 1, x4, x7, x84, x85, x86, x129, x128000, x128001, x128002, x128003 => if x129 = true then (some false) else (if x128000 = 0 then (laws_FnTokensStand.l1 k x4 x7 x84 x85 (wrap64 (x86 + 1))) else (if 0 ≤ (x128001.size : Int) then (if (x128001.size : Int) ≤ (x4.size : Int) then (laws_FnTokensStand.l1 k (x4.extract ((x128001.size : Int) : Int).toNat x4.size) x7 x84 x85 (wrap64 (x86 + 1))) else (none)) else (none)))
end
def laws_FnTokensStand.f (k : Nat) (a0 : ByteArray) : Option (Bool) := if (a0.size : Int) > 2147483647 then (some true) else ((impl_Tokens.f (⟨#[123, 105, 100, 125]⟩ : ByteArray)).bind fun t109 => (if (t109.length : Int) = 4 then (if 0 < (t109.length : Int) then (if ((rd_T56 t109 0).f0) = 2 then (if 1 < (t109.length : Int) then (if ((rd_T56 t109 1).f0) = 8 then (if ((rd_T56 t109 1).f1).toList = ([105, 100] : List UInt8) then (if 2 < (t109.length : Int) then (if ((rd_T56 t109 2).f0) = 3 then (if 3 < (t109.length : Int) then (laws_FnTokensStand.j0 k a0 (((rd_T56 t109 3).f0) != 0)) else (none)) else (laws_FnTokensStand.j0 k a0 true)) else (none)) else (laws_FnTokensStand.j0 k a0 true)) else (laws_FnTokensStand.j0 k a0 true)) else (none)) else (laws_FnTokensStand.j0 k a0 true)) else (none)) else (laws_FnTokensStand.j0 k a0 true)))
theorem laws_FnTokensStand.mono_l : ∀ k, (∀ y0 y1, LeO (laws_FnTokensStand.j0 k y0 y1) (laws_FnTokensStand.j0 (k + 1) y0 y1)) ∧ (∀ y0 y1 y2 y3, LeO (laws_FnTokensStand.l0 k y0 y1 y2 y3) (laws_FnTokensStand.l0 (k + 1) y0 y1 y2 y3)) ∧ (∀ y0 y1 y2 y3 y4, LeO (laws_FnTokensStand.l1 k y0 y1 y2 y3 y4) (laws_FnTokensStand.l1 (k + 1) y0 y1 y2 y3 y4)) ∧ (∀ y0 y1 y2 y3 y4 y5 y6 y7 y8 y9, LeO (laws_FnTokensStand.j3 k y0 y1 y2 y3 y4 y5 y6 y7 y8 y9) (laws_FnTokensStand.j3 (k + 1) y0 y1 y2 y3 y4 y5 y6 y7 y8 y9))
  | 0 => ⟨fun _ _ r h => by simp [laws_FnTokensStand.j0] at h, fun _ _ _ _ r h => by simp [laws_FnTokensStand.l0] at h, fun _ _ _ _ _ r h => by simp [laws_FnTokensStand.l1] at h, fun _ _ _ _ _ _ _ _ _ _ r h => by simp [laws_FnTokensStand.j3] at h⟩
  | k + 1 => by
    obtain ⟨ih0, ih1, ih2, ih3⟩ := laws_FnTokensStand.mono_l k
    refine ⟨?_, ?_, ?_, ?_⟩
    · intro y0 y1
      unfold laws_FnTokensStand.j0
      repeat' first
      | (with_reducible exact ih0 _ _)
      | (with_reducible exact ih1 _ _ _ _)
      | (with_reducible exact ih2 _ _ _ _ _)
      | (with_reducible exact ih3 _ _ _ _ _ _ _ _ _ _)
      | (with_reducible exact laws_holds.mono _ _ _)
      | (with_reducible exact laws_short.mono _ _)
      | (with_reducible exact laws_word.mono _ _)
      | (with_reducible exact LeO.refl _)
      | (with_reducible exact LeO.none _)
      | (with_reducible refine LeO.ite ?_ ?_)
      | (with_reducible refine LeO.bind ?_ (fun _ => ?_))
      | exact ih0 _ _
      | exact ih1 _ _ _ _
      | exact ih2 _ _ _ _ _
      | exact ih3 _ _ _ _ _ _ _ _ _ _
      | exact laws_holds.mono _ _ _
      | exact laws_short.mono _ _
      | exact laws_word.mono _ _
      | exact LeO.none _
      | refine LeO.ite ?_ ?_
      | refine LeO.bind ?_ (fun _ => ?_)
    · intro y0 y1 y2 y3
      unfold laws_FnTokensStand.l0
      repeat' first
      | (with_reducible exact ih0 _ _)
      | (with_reducible exact ih1 _ _ _ _)
      | (with_reducible exact ih2 _ _ _ _ _)
      | (with_reducible exact ih3 _ _ _ _ _ _ _ _ _ _)
      | (with_reducible exact laws_holds.mono _ _ _)
      | (with_reducible exact laws_short.mono _ _)
      | (with_reducible exact laws_word.mono _ _)
      | (with_reducible exact LeO.refl _)
      | (with_reducible exact LeO.none _)
      | (with_reducible refine LeO.ite ?_ ?_)
      | (with_reducible refine LeO.bind ?_ (fun _ => ?_))
      | exact ih0 _ _
      | exact ih1 _ _ _ _
      | exact ih2 _ _ _ _ _
      | exact ih3 _ _ _ _ _ _ _ _ _ _
      | exact laws_holds.mono _ _ _
      | exact laws_short.mono _ _
      | exact laws_word.mono _ _
      | exact LeO.none _
      | refine LeO.ite ?_ ?_
      | refine LeO.bind ?_ (fun _ => ?_)
    · intro y0 y1 y2 y3 y4
      unfold laws_FnTokensStand.l1
      repeat' first
      | (with_reducible exact ih0 _ _)
      | (with_reducible exact ih1 _ _ _ _)
      | (with_reducible exact ih2 _ _ _ _ _)
      | (with_reducible exact ih3 _ _ _ _ _ _ _ _ _ _)
      | (with_reducible exact laws_holds.mono _ _ _)
      | (with_reducible exact laws_short.mono _ _)
      | (with_reducible exact laws_word.mono _ _)
      | (with_reducible exact LeO.refl _)
      | (with_reducible exact LeO.none _)
      | (with_reducible refine LeO.ite ?_ ?_)
      | (with_reducible refine LeO.bind ?_ (fun _ => ?_))
      | exact ih0 _ _
      | exact ih1 _ _ _ _
      | exact ih2 _ _ _ _ _
      | exact ih3 _ _ _ _ _ _ _ _ _ _
      | exact laws_holds.mono _ _ _
      | exact laws_short.mono _ _
      | exact laws_word.mono _ _
      | exact LeO.none _
      | refine LeO.ite ?_ ?_
      | refine LeO.bind ?_ (fun _ => ?_)
    · intro y0 y1 y2 y3 y4 y5 y6 y7 y8 y9
      unfold laws_FnTokensStand.j3
      repeat' first
      | (with_reducible exact ih0 _ _)
      | (with_reducible exact ih1 _ _ _ _)
      | (with_reducible exact ih2 _ _ _ _ _)
      | (with_reducible exact ih3 _ _ _ _ _ _ _ _ _ _)
      | (with_reducible exact laws_holds.mono _ _ _)
      | (with_reducible exact laws_short.mono _ _)
      | (with_reducible exact laws_word.mono _ _)
      | (with_reducible exact LeO.refl _)
      | (with_reducible exact LeO.none _)
      | (with_reducible refine LeO.ite ?_ ?_)
      | (with_reducible refine LeO.bind ?_ (fun _ => ?_))
      | exact ih0 _ _
      | exact ih1 _ _ _ _
      | exact ih2 _ _ _ _ _
      | exact ih3 _ _ _ _ _ _ _ _ _ _
      | exact laws_holds.mono _ _ _
      | exact laws_short.mono _ _
      | exact laws_word.mono _ _
      | exact LeO.none _
      | refine LeO.ite ?_ ?_
      | refine LeO.bind ?_ (fun _ => ?_)
theorem laws_FnTokensStand.mono : ∀ a0 k, LeO (laws_FnTokensStand.f k a0) (laws_FnTokensStand.f (k + 1) a0) := by
  intro a0 k
  obtain ⟨ih0, ih1, ih2, ih3⟩ := laws_FnTokensStand.mono_l k
  unfold laws_FnTokensStand.f
  repeat' first
      | (with_reducible exact ih0 _ _)
      | (with_reducible exact ih1 _ _ _ _)
      | (with_reducible exact ih2 _ _ _ _ _)
      | (with_reducible exact ih3 _ _ _ _ _ _ _ _ _ _)
      | (with_reducible exact laws_holds.mono _ _ _)
      | (with_reducible exact laws_short.mono _ _)
      | (with_reducible exact laws_word.mono _ _)
      | (with_reducible exact LeO.refl _)
      | (with_reducible exact LeO.none _)
      | (with_reducible refine LeO.ite ?_ ?_)
      | (with_reducible refine LeO.bind ?_ (fun _ => ?_))
      | exact ih0 _ _
      | exact ih1 _ _ _ _
      | exact ih2 _ _ _ _ _
      | exact ih3 _ _ _ _ _ _ _ _ _ _
      | exact laws_holds.mono _ _ _
      | exact laws_short.mono _ _
      | exact laws_word.mono _ _
      | exact LeO.none _
      | refine LeO.ite ?_ ?_
      | refine LeO.bind ?_ (fun _ => ?_)
set_option maxHeartbeats 8000000 in
set_option maxRecDepth 100000 in
theorem laws_FnTokensStand.calls (k : Nat) (a0 : ByteArray) (r : Bool) (w : World) (h : laws_FnTokensStand.f k a0 = some r) :
    Calls Try.prog 10 #[.string a0] w fun e w' => e = .returned (.bool r) ∧ Below w.heap.size w w' := by
  have hu56 := Try.underlying56
  have HB := Aside0.mk (Below.refl w.heap.size w)
  have H : (if (a0.size : Int) > 2147483647 then (some true) else ((impl_Tokens.f (⟨#[123, 105, 100, 125]⟩ : ByteArray)).bind fun t109 => (if (t109.length : Int) = 4 then (if 0 < (t109.length : Int) then (if ((rd_T56 t109 0).f0) = 2 then (if 1 < (t109.length : Int) then (if ((rd_T56 t109 1).f0) = 8 then (if ((rd_T56 t109 1).f1).toList = ([105, 100] : List UInt8) then (if 2 < (t109.length : Int) then (if ((rd_T56 t109 2).f0) = 3 then (if 3 < (t109.length : Int) then (laws_FnTokensStand.j0 k a0 (((rd_T56 t109 3).f0) != 0)) else (none)) else (laws_FnTokensStand.j0 k a0 true)) else (none)) else (laws_FnTokensStand.j0 k a0 true)) else (laws_FnTokensStand.j0 k a0 true)) else (none)) else (laws_FnTokensStand.j0 k a0 true)) else (none)) else (laws_FnTokensStand.j0 k a0 true)))) = some r := h
  clear h
  by_cases c2 : (a0.size : Int) > 2147483647
  · rw [if_pos c2] at H
    have c2b0 : decide (2147483647 < (a0.size : Int)) = true := decide_eq_true c2
    have c2b1 : decide (2147483647 < a0.size) = true := decide_eq_true (by omega)
    clear c2
    obtain rfl := Option.some.inj H
    go_enter Try.func10, Try.ntmps10
    go_wp2
    go_ret
    exact ⟨by first | rfl | (simp [errW_none, errW_some] <;> rfl) | (simp [*, errW_none, errW_some] <;> rfl), by repeat (first | (with_reducible first | exact HB.out | apply below_alloc | apply pw_below_drewN | apply below_drew1) | exact HB.out)⟩
  · rw [if_neg c2] at H
    have c2b0 : decide (2147483647 < (a0.size : Int)) = false := decide_eq_false c2
    have c2b1 : decide (2147483647 < a0.size) = false := decide_eq_false (by omega)
    clear c2
    replace H := Option.bind_eq_some_iff.mp H
    obtain ⟨t109, A30, H⟩ := H
    replace H : (if (t109.length : Int) = 4 then (if 0 < (t109.length : Int) then (if ((rd_T56 t109 0).f0) = 2 then (if 1 < (t109.length : Int) then (if ((rd_T56 t109 1).f0) = 8 then (if ((rd_T56 t109 1).f1).toList = ([105, 100] : List UInt8) then (if 2 < (t109.length : Int) then (if ((rd_T56 t109 2).f0) = 3 then (if 3 < (t109.length : Int) then (laws_FnTokensStand.j0 k a0 (((rd_T56 t109 3).f0) != 0)) else (none)) else (laws_FnTokensStand.j0 k a0 true)) else (none)) else (laws_FnTokensStand.j0 k a0 true)) else (laws_FnTokensStand.j0 k a0 true)) else (none)) else (laws_FnTokensStand.j0 k a0 true)) else (none)) else (laws_FnTokensStand.j0 k a0 true)) = some r := H
    have A3 := Aside0.mk A30
    clear A30
    have HC4 := Aside0.mk H
    clear H
    go_enter Try.func10, Try.ntmps10
    go_upto_region 4 with (first | ((with_reducible refine gate_callee (f := 36) rfl ?_); refine goesL_ (some 13) rfl rfl Try.func36 (by kernel_rfl) rfl #[.string (⟨#[123, 105, 100, 125]⟩ : ByteArray)] rfl (by (try simp only [List.map_toArray, List.map_cons, List.map_nil]); first | done | rfl | (simp only [List.length_drop, List.length_take]; rfl)) ?_; (with_reducible refine (impl_Tokens.calls (⟨#[123, 105, 100, 125]⟩ : ByteArray) t109 _ A3.out).mono ?_); rintro e w5 ⟨v110, rfl, ho0, hb⟩; refine ⟨_, rfl, ?_⟩; have n0_ := Aside0.mk (Kd.R_lower ho0 (below_size (by repeat (first | (with_reducible first | exact HB.out | apply below_alloc | apply pw_below_drewN | apply below_drew1) | exact HB.out)))); have n1_ := Aside0.mk (below_step (by repeat (first | (with_reducible first | exact HB.out | apply below_alloc | apply pw_below_drewN | apply below_drew1) | exact HB.out)) hb); clear HB; have HO111 := n0_; have HB := n1_; clear n0_ n1_; (try clear hb); (try clear hb2); (try clear hk); (try clear hi); (try clear ho0)))
    (try simp only [Act.put, List.setIfInBounds_toArray, List.set_cons_zero, List.set_cons_succ])
    go_cut [51] (fun v51 wc => ∃ (kq : Nat) (x51_3 : Bool), v51 = .bool x51_3 ∧ Aside0 (laws_FnTokensStand.j0 kq a0 x51_3 = some r) ∧ Aside0 (kq ≤ k) ∧ Aside0 (Below w.heap.size w wc))
    case first =>
      have H := HC4.out
      clear HC4
      by_cases c6 : (t109.length : Int) = 4
      · rw [if_pos c6] at H
        have c6b0 : ((t109.length : Int) == 4) = true := beq_iff_eq.mpr c6
        have c6b1 : ((t109.length : Int) != 4) = false := bne_eq_false_iff_eq.mpr c6
        clear c6
        (first | rw [c6b0] | (simp only [i64_w, i32_w]; rw [c6b0]) | skip)
        by_cases c7 : 0 < (t109.length : Int)
        · rw [if_pos c7] at H
          have c7b0 : decide (0 < (t109.length : Int)) = true := decide_eq_true c7
          have c7b1 : decide (0 < t109.length) = true := decide_eq_true (by omega)
          clear c7
          by_cases c8 : ((rd_T56 t109 0).f0) = 2
          · rw [if_pos c8] at H
            have c8b0 : (((rd_T56 t109 0).f0) == 2) = true := beq_iff_eq.mpr c8
            have c8b1 : (((rd_T56 t109 0).f0) != 2) = false := bne_eq_false_iff_eq.mpr c8
            clear c8
            by_cases c9 : 1 < (t109.length : Int)
            · rw [if_pos c9] at H
              have c9b0 : decide (1 < (t109.length : Int)) = true := decide_eq_true c9
              have c9b1 : decide (1 < t109.length) = true := decide_eq_true (by omega)
              clear c9
              by_cases c10 : ((rd_T56 t109 1).f0) = 8
              · rw [if_pos c10] at H
                have c10b0 : (((rd_T56 t109 1).f0) == 8) = true := beq_iff_eq.mpr c10
                have c10b1 : (((rd_T56 t109 1).f0) != 8) = false := bne_eq_false_iff_eq.mpr c10
                clear c10
                by_cases c11 : ((rd_T56 t109 1).f1).toList = ([105, 100] : List UInt8)
                · rw [if_pos c11] at H
                  have c11b0 : (((rd_T56 t109 1).f1).toList == ([105, 100] : List UInt8)) = true := beq_iff_eq.mpr c11
                  have c11b1 : (((rd_T56 t109 1).f1).toList != ([105, 100] : List UInt8)) = false := bne_eq_false_iff_eq.mpr c11
                  clear c11
                  by_cases c12 : 2 < (t109.length : Int)
                  · rw [if_pos c12] at H
                    have c12b0 : decide (2 < (t109.length : Int)) = true := decide_eq_true c12
                    have c12b1 : decide (2 < t109.length) = true := decide_eq_true (by omega)
                    clear c12
                    by_cases c13 : ((rd_T56 t109 2).f0) = 3
                    · rw [if_pos c13] at H
                      have c13b0 : (((rd_T56 t109 2).f0) == 3) = true := beq_iff_eq.mpr c13
                      have c13b1 : (((rd_T56 t109 2).f0) != 3) = false := bne_eq_false_iff_eq.mpr c13
                      clear c13
                      by_cases c14 : 3 < (t109.length : Int)
                      · rw [if_pos c14] at H
                        have c14b0 : decide (3 < (t109.length : Int)) = true := decide_eq_true c14
                        have c14b1 : decide (3 < t109.length) = true := decide_eq_true (by omega)
                        clear c14
                        have H' := Aside0.mk H
                        clear H
                        obtain ⟨Ao15, co15, eo15⟩ := Kd.R_slice HO111.out
                        subst eo15
                        have p112 : 0 ≤ (0 : Int) := (by omega)
                        have q112 : 0 < (t109.length : Int) := of_decide_eq_true (by first | (with_reducible assumption) | assumption)
                        obtain ⟨ad112, e112, hx112_0, hx112_1, hx112_2, hx112_3⟩ := at_T56 (Kd.R_reads' HO111.out).2.2 0 p112 q112
                        cases e112
                        have qi112 : (0 < t109.length) = True := eq_true (by omega)
                        (try rw [show ((0 : Int)).toNat = 0 from rfl] at hx112_0)
                        (try rw [show 0 * 4 = 0 from rfl] at hx112_0)
                        (try rw [Addr.add_zero'] at hx112_0)
                        (try rw [show ((0 : Int)).toNat = 0 from rfl] at hx112_1)
                        (try rw [show 0 * 4 = 0 from rfl] at hx112_1)
                        (try rw [Addr.add_zero'] at hx112_1)
                        (try rw [show ((0 : Int)).toNat = 0 from rfl] at hx112_2)
                        (try rw [show 0 * 4 = 0 from rfl] at hx112_2)
                        (try rw [Addr.add_zero'] at hx112_2)
                        (try rw [show ((0 : Int)).toNat = 0 from rfl] at hx112_3)
                        (try rw [show 0 * 4 = 0 from rfl] at hx112_3)
                        (try rw [Addr.add_zero'] at hx112_3)
                        replace p112 := eq_true p112
                        replace q112 := eq_true q112
                        have p113 : 0 ≤ (1 : Int) := (by omega)
                        have q113 : 1 < (t109.length : Int) := of_decide_eq_true (by first | (with_reducible assumption) | assumption)
                        obtain ⟨ad113, e113, hx113_0, hx113_1, hx113_2, hx113_3⟩ := at_T56 (Kd.R_reads' HO111.out).2.2 1 p113 q113
                        obtain rfl : ad112 = ad113 := (by injection e113)
                        (try simp only [show (1 : Int).toNat = 1 from rfl, Nat.reduceMul, Nat.reduceEqDiff, Go.Addr.add, ↓reduceIte] at hx113_0)
                        (try simp only [show (1 : Int).toNat = 1 from rfl, Nat.reduceMul, Nat.reduceEqDiff, Go.Addr.add, ↓reduceIte] at hx113_1)
                        (try simp only [show (1 : Int).toNat = 1 from rfl, Nat.reduceMul, Nat.reduceEqDiff, Go.Addr.add, ↓reduceIte] at hx113_2)
                        (try simp only [show (1 : Int).toNat = 1 from rfl, Nat.reduceMul, Nat.reduceEqDiff, Go.Addr.add, ↓reduceIte] at hx113_3)
                        have qi113 : (1 < t109.length) = True := eq_true (by omega)
                        (try rw [show ((1 : Int)).toNat = 1 from rfl] at hx113_0)
                        (try rw [show 1 * 4 = 4 from rfl] at hx113_0)
                        (try rw [show ((1 : Int)).toNat = 1 from rfl] at hx113_1)
                        (try rw [show 1 * 4 = 4 from rfl] at hx113_1)
                        (try rw [show ((1 : Int)).toNat = 1 from rfl] at hx113_2)
                        (try rw [show 1 * 4 = 4 from rfl] at hx113_2)
                        (try rw [show ((1 : Int)).toNat = 1 from rfl] at hx113_3)
                        (try rw [show 1 * 4 = 4 from rfl] at hx113_3)
                        replace p113 := eq_true p113
                        replace q113 := eq_true q113
                        have p114 : 0 ≤ (1 : Int) := (by omega)
                        have q114 : 1 < (t109.length : Int) := of_decide_eq_true (by first | (with_reducible assumption) | assumption)
                        obtain ⟨ad114, e114, hx114_0, hx114_1, hx114_2, hx114_3⟩ := at_T56 (Kd.R_reads' HO111.out).2.2 1 p114 q114
                        obtain rfl : ad112 = ad114 := (by injection e114)
                        (try simp only [show (1 : Int).toNat = 1 from rfl, Nat.reduceMul, Nat.reduceEqDiff, Go.Addr.add, ↓reduceIte] at hx114_0)
                        (try simp only [show (1 : Int).toNat = 1 from rfl, Nat.reduceMul, Nat.reduceEqDiff, Go.Addr.add, ↓reduceIte] at hx114_1)
                        (try simp only [show (1 : Int).toNat = 1 from rfl, Nat.reduceMul, Nat.reduceEqDiff, Go.Addr.add, ↓reduceIte] at hx114_2)
                        (try simp only [show (1 : Int).toNat = 1 from rfl, Nat.reduceMul, Nat.reduceEqDiff, Go.Addr.add, ↓reduceIte] at hx114_3)
                        have qi114 : (1 < t109.length) = True := eq_true (by omega)
                        (try rw [show ((1 : Int)).toNat = 1 from rfl] at hx114_0)
                        (try rw [show 1 * 4 = 4 from rfl] at hx114_0)
                        (try rw [show ((1 : Int)).toNat = 1 from rfl] at hx114_1)
                        (try rw [show 1 * 4 = 4 from rfl] at hx114_1)
                        (try rw [show ((1 : Int)).toNat = 1 from rfl] at hx114_2)
                        (try rw [show 1 * 4 = 4 from rfl] at hx114_2)
                        (try rw [show ((1 : Int)).toNat = 1 from rfl] at hx114_3)
                        (try rw [show 1 * 4 = 4 from rfl] at hx114_3)
                        replace p114 := eq_true p114
                        replace q114 := eq_true q114
                        have p115 : 0 ≤ (2 : Int) := (by omega)
                        have q115 : 2 < (t109.length : Int) := of_decide_eq_true (by first | (with_reducible assumption) | assumption)
                        obtain ⟨ad115, e115, hx115_0, hx115_1, hx115_2, hx115_3⟩ := at_T56 (Kd.R_reads' HO111.out).2.2 2 p115 q115
                        obtain rfl : ad112 = ad115 := (by injection e115)
                        (try simp only [show (2 : Int).toNat = 2 from rfl, Nat.reduceMul, Nat.reduceEqDiff, Go.Addr.add, ↓reduceIte] at hx115_0)
                        (try simp only [show (2 : Int).toNat = 2 from rfl, Nat.reduceMul, Nat.reduceEqDiff, Go.Addr.add, ↓reduceIte] at hx115_1)
                        (try simp only [show (2 : Int).toNat = 2 from rfl, Nat.reduceMul, Nat.reduceEqDiff, Go.Addr.add, ↓reduceIte] at hx115_2)
                        (try simp only [show (2 : Int).toNat = 2 from rfl, Nat.reduceMul, Nat.reduceEqDiff, Go.Addr.add, ↓reduceIte] at hx115_3)
                        have qi115 : (2 < t109.length) = True := eq_true (by omega)
                        (try rw [show ((2 : Int)).toNat = 2 from rfl] at hx115_0)
                        (try rw [show 2 * 4 = 8 from rfl] at hx115_0)
                        (try rw [show ((2 : Int)).toNat = 2 from rfl] at hx115_1)
                        (try rw [show 2 * 4 = 8 from rfl] at hx115_1)
                        (try rw [show ((2 : Int)).toNat = 2 from rfl] at hx115_2)
                        (try rw [show 2 * 4 = 8 from rfl] at hx115_2)
                        (try rw [show ((2 : Int)).toNat = 2 from rfl] at hx115_3)
                        (try rw [show 2 * 4 = 8 from rfl] at hx115_3)
                        replace p115 := eq_true p115
                        replace q115 := eq_true q115
                        have p116 : 0 ≤ (3 : Int) := (by omega)
                        have q116 : 3 < (t109.length : Int) := of_decide_eq_true (by first | (with_reducible assumption) | assumption)
                        obtain ⟨ad116, e116, hx116_0, hx116_1, hx116_2, hx116_3⟩ := at_T56 (Kd.R_reads' HO111.out).2.2 3 p116 q116
                        obtain rfl : ad112 = ad116 := (by injection e116)
                        (try simp only [show (3 : Int).toNat = 3 from rfl, Nat.reduceMul, Nat.reduceEqDiff, Go.Addr.add, ↓reduceIte] at hx116_0)
                        (try simp only [show (3 : Int).toNat = 3 from rfl, Nat.reduceMul, Nat.reduceEqDiff, Go.Addr.add, ↓reduceIte] at hx116_1)
                        (try simp only [show (3 : Int).toNat = 3 from rfl, Nat.reduceMul, Nat.reduceEqDiff, Go.Addr.add, ↓reduceIte] at hx116_2)
                        (try simp only [show (3 : Int).toNat = 3 from rfl, Nat.reduceMul, Nat.reduceEqDiff, Go.Addr.add, ↓reduceIte] at hx116_3)
                        have qi116 : (3 < t109.length) = True := eq_true (by omega)
                        (try rw [show ((3 : Int)).toNat = 3 from rfl] at hx116_0)
                        (try rw [show 3 * 4 = 12 from rfl] at hx116_0)
                        (try rw [show ((3 : Int)).toNat = 3 from rfl] at hx116_1)
                        (try rw [show 3 * 4 = 12 from rfl] at hx116_1)
                        (try rw [show ((3 : Int)).toNat = 3 from rfl] at hx116_2)
                        (try rw [show 3 * 4 = 12 from rfl] at hx116_2)
                        (try rw [show ((3 : Int)).toNat = 3 from rfl] at hx116_3)
                        (try rw [show 3 * 4 = 12 from rfl] at hx116_3)
                        replace p116 := eq_true p116
                        replace q116 := eq_true q116
                        go_wp2
                        go_meet
                        case rel => exact ⟨_, ((((rd_T56 t109 3).f0) != 0)), (by first | rfl | (simp; done) | (simp [*]; done) | (simp [Go.Proofs.YtipmmjbjgbfgjaaX.isEmpty_ne]; done)), H', ⟨by first | omega | exact Nat.le_refl _⟩, ⟨by repeat (first | (with_reducible first | exact HB.out | apply below_alloc | apply pw_below_drewN | apply below_drew1) | exact HB.out)⟩⟩
                      · rw [if_neg c14] at H
                        exact absurd H (by simp)
                    · rw [if_neg c13] at H
                      have c13b0 : (((rd_T56 t109 2).f0) == 3) = false := beq_eq_false_iff_ne.mpr c13
                      have c13b1 : (((rd_T56 t109 2).f0) != 3) = true := bne_iff_ne.mpr c13
                      have H' := Aside0.mk H
                      clear H
                      obtain ⟨Ao16, co16, eo16⟩ := Kd.R_slice HO111.out
                      subst eo16
                      have p112 : 0 ≤ (0 : Int) := (by omega)
                      have q112 : 0 < (t109.length : Int) := of_decide_eq_true (by first | (with_reducible assumption) | assumption)
                      obtain ⟨ad112, e112, hx112_0, hx112_1, hx112_2, hx112_3⟩ := at_T56 (Kd.R_reads' HO111.out).2.2 0 p112 q112
                      cases e112
                      have qi112 : (0 < t109.length) = True := eq_true (by omega)
                      (try rw [show ((0 : Int)).toNat = 0 from rfl] at hx112_0)
                      (try rw [show 0 * 4 = 0 from rfl] at hx112_0)
                      (try rw [Addr.add_zero'] at hx112_0)
                      (try rw [show ((0 : Int)).toNat = 0 from rfl] at hx112_1)
                      (try rw [show 0 * 4 = 0 from rfl] at hx112_1)
                      (try rw [Addr.add_zero'] at hx112_1)
                      (try rw [show ((0 : Int)).toNat = 0 from rfl] at hx112_2)
                      (try rw [show 0 * 4 = 0 from rfl] at hx112_2)
                      (try rw [Addr.add_zero'] at hx112_2)
                      (try rw [show ((0 : Int)).toNat = 0 from rfl] at hx112_3)
                      (try rw [show 0 * 4 = 0 from rfl] at hx112_3)
                      (try rw [Addr.add_zero'] at hx112_3)
                      replace p112 := eq_true p112
                      replace q112 := eq_true q112
                      have p113 : 0 ≤ (1 : Int) := (by omega)
                      have q113 : 1 < (t109.length : Int) := of_decide_eq_true (by first | (with_reducible assumption) | assumption)
                      obtain ⟨ad113, e113, hx113_0, hx113_1, hx113_2, hx113_3⟩ := at_T56 (Kd.R_reads' HO111.out).2.2 1 p113 q113
                      obtain rfl : ad112 = ad113 := (by injection e113)
                      (try simp only [show (1 : Int).toNat = 1 from rfl, Nat.reduceMul, Nat.reduceEqDiff, Go.Addr.add, ↓reduceIte] at hx113_0)
                      (try simp only [show (1 : Int).toNat = 1 from rfl, Nat.reduceMul, Nat.reduceEqDiff, Go.Addr.add, ↓reduceIte] at hx113_1)
                      (try simp only [show (1 : Int).toNat = 1 from rfl, Nat.reduceMul, Nat.reduceEqDiff, Go.Addr.add, ↓reduceIte] at hx113_2)
                      (try simp only [show (1 : Int).toNat = 1 from rfl, Nat.reduceMul, Nat.reduceEqDiff, Go.Addr.add, ↓reduceIte] at hx113_3)
                      have qi113 : (1 < t109.length) = True := eq_true (by omega)
                      (try rw [show ((1 : Int)).toNat = 1 from rfl] at hx113_0)
                      (try rw [show 1 * 4 = 4 from rfl] at hx113_0)
                      (try rw [show ((1 : Int)).toNat = 1 from rfl] at hx113_1)
                      (try rw [show 1 * 4 = 4 from rfl] at hx113_1)
                      (try rw [show ((1 : Int)).toNat = 1 from rfl] at hx113_2)
                      (try rw [show 1 * 4 = 4 from rfl] at hx113_2)
                      (try rw [show ((1 : Int)).toNat = 1 from rfl] at hx113_3)
                      (try rw [show 1 * 4 = 4 from rfl] at hx113_3)
                      replace p113 := eq_true p113
                      replace q113 := eq_true q113
                      have p114 : 0 ≤ (1 : Int) := (by omega)
                      have q114 : 1 < (t109.length : Int) := of_decide_eq_true (by first | (with_reducible assumption) | assumption)
                      obtain ⟨ad114, e114, hx114_0, hx114_1, hx114_2, hx114_3⟩ := at_T56 (Kd.R_reads' HO111.out).2.2 1 p114 q114
                      obtain rfl : ad112 = ad114 := (by injection e114)
                      (try simp only [show (1 : Int).toNat = 1 from rfl, Nat.reduceMul, Nat.reduceEqDiff, Go.Addr.add, ↓reduceIte] at hx114_0)
                      (try simp only [show (1 : Int).toNat = 1 from rfl, Nat.reduceMul, Nat.reduceEqDiff, Go.Addr.add, ↓reduceIte] at hx114_1)
                      (try simp only [show (1 : Int).toNat = 1 from rfl, Nat.reduceMul, Nat.reduceEqDiff, Go.Addr.add, ↓reduceIte] at hx114_2)
                      (try simp only [show (1 : Int).toNat = 1 from rfl, Nat.reduceMul, Nat.reduceEqDiff, Go.Addr.add, ↓reduceIte] at hx114_3)
                      have qi114 : (1 < t109.length) = True := eq_true (by omega)
                      (try rw [show ((1 : Int)).toNat = 1 from rfl] at hx114_0)
                      (try rw [show 1 * 4 = 4 from rfl] at hx114_0)
                      (try rw [show ((1 : Int)).toNat = 1 from rfl] at hx114_1)
                      (try rw [show 1 * 4 = 4 from rfl] at hx114_1)
                      (try rw [show ((1 : Int)).toNat = 1 from rfl] at hx114_2)
                      (try rw [show 1 * 4 = 4 from rfl] at hx114_2)
                      (try rw [show ((1 : Int)).toNat = 1 from rfl] at hx114_3)
                      (try rw [show 1 * 4 = 4 from rfl] at hx114_3)
                      replace p114 := eq_true p114
                      replace q114 := eq_true q114
                      have p115 : 0 ≤ (2 : Int) := (by omega)
                      have q115 : 2 < (t109.length : Int) := of_decide_eq_true (by first | (with_reducible assumption) | assumption)
                      obtain ⟨ad115, e115, hx115_0, hx115_1, hx115_2, hx115_3⟩ := at_T56 (Kd.R_reads' HO111.out).2.2 2 p115 q115
                      obtain rfl : ad112 = ad115 := (by injection e115)
                      (try simp only [show (2 : Int).toNat = 2 from rfl, Nat.reduceMul, Nat.reduceEqDiff, Go.Addr.add, ↓reduceIte] at hx115_0)
                      (try simp only [show (2 : Int).toNat = 2 from rfl, Nat.reduceMul, Nat.reduceEqDiff, Go.Addr.add, ↓reduceIte] at hx115_1)
                      (try simp only [show (2 : Int).toNat = 2 from rfl, Nat.reduceMul, Nat.reduceEqDiff, Go.Addr.add, ↓reduceIte] at hx115_2)
                      (try simp only [show (2 : Int).toNat = 2 from rfl, Nat.reduceMul, Nat.reduceEqDiff, Go.Addr.add, ↓reduceIte] at hx115_3)
                      have qi115 : (2 < t109.length) = True := eq_true (by omega)
                      (try rw [show ((2 : Int)).toNat = 2 from rfl] at hx115_0)
                      (try rw [show 2 * 4 = 8 from rfl] at hx115_0)
                      (try rw [show ((2 : Int)).toNat = 2 from rfl] at hx115_1)
                      (try rw [show 2 * 4 = 8 from rfl] at hx115_1)
                      (try rw [show ((2 : Int)).toNat = 2 from rfl] at hx115_2)
                      (try rw [show 2 * 4 = 8 from rfl] at hx115_2)
                      (try rw [show ((2 : Int)).toNat = 2 from rfl] at hx115_3)
                      (try rw [show 2 * 4 = 8 from rfl] at hx115_3)
                      replace p115 := eq_true p115
                      replace q115 := eq_true q115
                      go_wp2
                      go_meet
                      case rel => exact ⟨_, (true), (by first | rfl | (simp; done) | (simp [*]; done) | (simp [Go.Proofs.YtipmmjbjgbfgjaaX.isEmpty_ne]; done)), H', ⟨by first | omega | exact Nat.le_refl _⟩, ⟨by repeat (first | (with_reducible first | exact HB.out | apply below_alloc | apply pw_below_drewN | apply below_drew1) | exact HB.out)⟩⟩
                  · rw [if_neg c12] at H
                    exact absurd H (by simp)
                · rw [if_neg c11] at H
                  have c11b0 : (((rd_T56 t109 1).f1).toList == ([105, 100] : List UInt8)) = false := beq_eq_false_iff_ne.mpr c11
                  have c11b1 : (((rd_T56 t109 1).f1).toList != ([105, 100] : List UInt8)) = true := bne_iff_ne.mpr c11
                  have H' := Aside0.mk H
                  clear H
                  obtain ⟨Ao17, co17, eo17⟩ := Kd.R_slice HO111.out
                  subst eo17
                  have p112 : 0 ≤ (0 : Int) := (by omega)
                  have q112 : 0 < (t109.length : Int) := of_decide_eq_true (by first | (with_reducible assumption) | assumption)
                  obtain ⟨ad112, e112, hx112_0, hx112_1, hx112_2, hx112_3⟩ := at_T56 (Kd.R_reads' HO111.out).2.2 0 p112 q112
                  cases e112
                  have qi112 : (0 < t109.length) = True := eq_true (by omega)
                  (try rw [show ((0 : Int)).toNat = 0 from rfl] at hx112_0)
                  (try rw [show 0 * 4 = 0 from rfl] at hx112_0)
                  (try rw [Addr.add_zero'] at hx112_0)
                  (try rw [show ((0 : Int)).toNat = 0 from rfl] at hx112_1)
                  (try rw [show 0 * 4 = 0 from rfl] at hx112_1)
                  (try rw [Addr.add_zero'] at hx112_1)
                  (try rw [show ((0 : Int)).toNat = 0 from rfl] at hx112_2)
                  (try rw [show 0 * 4 = 0 from rfl] at hx112_2)
                  (try rw [Addr.add_zero'] at hx112_2)
                  (try rw [show ((0 : Int)).toNat = 0 from rfl] at hx112_3)
                  (try rw [show 0 * 4 = 0 from rfl] at hx112_3)
                  (try rw [Addr.add_zero'] at hx112_3)
                  replace p112 := eq_true p112
                  replace q112 := eq_true q112
                  have p113 : 0 ≤ (1 : Int) := (by omega)
                  have q113 : 1 < (t109.length : Int) := of_decide_eq_true (by first | (with_reducible assumption) | assumption)
                  obtain ⟨ad113, e113, hx113_0, hx113_1, hx113_2, hx113_3⟩ := at_T56 (Kd.R_reads' HO111.out).2.2 1 p113 q113
                  obtain rfl : ad112 = ad113 := (by injection e113)
                  (try simp only [show (1 : Int).toNat = 1 from rfl, Nat.reduceMul, Nat.reduceEqDiff, Go.Addr.add, ↓reduceIte] at hx113_0)
                  (try simp only [show (1 : Int).toNat = 1 from rfl, Nat.reduceMul, Nat.reduceEqDiff, Go.Addr.add, ↓reduceIte] at hx113_1)
                  (try simp only [show (1 : Int).toNat = 1 from rfl, Nat.reduceMul, Nat.reduceEqDiff, Go.Addr.add, ↓reduceIte] at hx113_2)
                  (try simp only [show (1 : Int).toNat = 1 from rfl, Nat.reduceMul, Nat.reduceEqDiff, Go.Addr.add, ↓reduceIte] at hx113_3)
                  have qi113 : (1 < t109.length) = True := eq_true (by omega)
                  (try rw [show ((1 : Int)).toNat = 1 from rfl] at hx113_0)
                  (try rw [show 1 * 4 = 4 from rfl] at hx113_0)
                  (try rw [show ((1 : Int)).toNat = 1 from rfl] at hx113_1)
                  (try rw [show 1 * 4 = 4 from rfl] at hx113_1)
                  (try rw [show ((1 : Int)).toNat = 1 from rfl] at hx113_2)
                  (try rw [show 1 * 4 = 4 from rfl] at hx113_2)
                  (try rw [show ((1 : Int)).toNat = 1 from rfl] at hx113_3)
                  (try rw [show 1 * 4 = 4 from rfl] at hx113_3)
                  replace p113 := eq_true p113
                  replace q113 := eq_true q113
                  have p114 : 0 ≤ (1 : Int) := (by omega)
                  have q114 : 1 < (t109.length : Int) := of_decide_eq_true (by first | (with_reducible assumption) | assumption)
                  obtain ⟨ad114, e114, hx114_0, hx114_1, hx114_2, hx114_3⟩ := at_T56 (Kd.R_reads' HO111.out).2.2 1 p114 q114
                  obtain rfl : ad112 = ad114 := (by injection e114)
                  (try simp only [show (1 : Int).toNat = 1 from rfl, Nat.reduceMul, Nat.reduceEqDiff, Go.Addr.add, ↓reduceIte] at hx114_0)
                  (try simp only [show (1 : Int).toNat = 1 from rfl, Nat.reduceMul, Nat.reduceEqDiff, Go.Addr.add, ↓reduceIte] at hx114_1)
                  (try simp only [show (1 : Int).toNat = 1 from rfl, Nat.reduceMul, Nat.reduceEqDiff, Go.Addr.add, ↓reduceIte] at hx114_2)
                  (try simp only [show (1 : Int).toNat = 1 from rfl, Nat.reduceMul, Nat.reduceEqDiff, Go.Addr.add, ↓reduceIte] at hx114_3)
                  have qi114 : (1 < t109.length) = True := eq_true (by omega)
                  (try rw [show ((1 : Int)).toNat = 1 from rfl] at hx114_0)
                  (try rw [show 1 * 4 = 4 from rfl] at hx114_0)
                  (try rw [show ((1 : Int)).toNat = 1 from rfl] at hx114_1)
                  (try rw [show 1 * 4 = 4 from rfl] at hx114_1)
                  (try rw [show ((1 : Int)).toNat = 1 from rfl] at hx114_2)
                  (try rw [show 1 * 4 = 4 from rfl] at hx114_2)
                  (try rw [show ((1 : Int)).toNat = 1 from rfl] at hx114_3)
                  (try rw [show 1 * 4 = 4 from rfl] at hx114_3)
                  replace p114 := eq_true p114
                  replace q114 := eq_true q114
                  go_wp2
                  go_meet
                  case rel => exact ⟨_, (true), (by first | rfl | (simp; done) | (simp [*]; done) | (simp [Go.Proofs.YtipmmjbjgbfgjaaX.isEmpty_ne]; done)), H', ⟨by first | omega | exact Nat.le_refl _⟩, ⟨by repeat (first | (with_reducible first | exact HB.out | apply below_alloc | apply pw_below_drewN | apply below_drew1) | exact HB.out)⟩⟩
              · rw [if_neg c10] at H
                have c10b0 : (((rd_T56 t109 1).f0) == 8) = false := beq_eq_false_iff_ne.mpr c10
                have c10b1 : (((rd_T56 t109 1).f0) != 8) = true := bne_iff_ne.mpr c10
                have H' := Aside0.mk H
                clear H
                obtain ⟨Ao18, co18, eo18⟩ := Kd.R_slice HO111.out
                subst eo18
                have p112 : 0 ≤ (0 : Int) := (by omega)
                have q112 : 0 < (t109.length : Int) := of_decide_eq_true (by first | (with_reducible assumption) | assumption)
                obtain ⟨ad112, e112, hx112_0, hx112_1, hx112_2, hx112_3⟩ := at_T56 (Kd.R_reads' HO111.out).2.2 0 p112 q112
                cases e112
                have qi112 : (0 < t109.length) = True := eq_true (by omega)
                (try rw [show ((0 : Int)).toNat = 0 from rfl] at hx112_0)
                (try rw [show 0 * 4 = 0 from rfl] at hx112_0)
                (try rw [Addr.add_zero'] at hx112_0)
                (try rw [show ((0 : Int)).toNat = 0 from rfl] at hx112_1)
                (try rw [show 0 * 4 = 0 from rfl] at hx112_1)
                (try rw [Addr.add_zero'] at hx112_1)
                (try rw [show ((0 : Int)).toNat = 0 from rfl] at hx112_2)
                (try rw [show 0 * 4 = 0 from rfl] at hx112_2)
                (try rw [Addr.add_zero'] at hx112_2)
                (try rw [show ((0 : Int)).toNat = 0 from rfl] at hx112_3)
                (try rw [show 0 * 4 = 0 from rfl] at hx112_3)
                (try rw [Addr.add_zero'] at hx112_3)
                replace p112 := eq_true p112
                replace q112 := eq_true q112
                have p113 : 0 ≤ (1 : Int) := (by omega)
                have q113 : 1 < (t109.length : Int) := of_decide_eq_true (by first | (with_reducible assumption) | assumption)
                obtain ⟨ad113, e113, hx113_0, hx113_1, hx113_2, hx113_3⟩ := at_T56 (Kd.R_reads' HO111.out).2.2 1 p113 q113
                obtain rfl : ad112 = ad113 := (by injection e113)
                (try simp only [show (1 : Int).toNat = 1 from rfl, Nat.reduceMul, Nat.reduceEqDiff, Go.Addr.add, ↓reduceIte] at hx113_0)
                (try simp only [show (1 : Int).toNat = 1 from rfl, Nat.reduceMul, Nat.reduceEqDiff, Go.Addr.add, ↓reduceIte] at hx113_1)
                (try simp only [show (1 : Int).toNat = 1 from rfl, Nat.reduceMul, Nat.reduceEqDiff, Go.Addr.add, ↓reduceIte] at hx113_2)
                (try simp only [show (1 : Int).toNat = 1 from rfl, Nat.reduceMul, Nat.reduceEqDiff, Go.Addr.add, ↓reduceIte] at hx113_3)
                have qi113 : (1 < t109.length) = True := eq_true (by omega)
                (try rw [show ((1 : Int)).toNat = 1 from rfl] at hx113_0)
                (try rw [show 1 * 4 = 4 from rfl] at hx113_0)
                (try rw [show ((1 : Int)).toNat = 1 from rfl] at hx113_1)
                (try rw [show 1 * 4 = 4 from rfl] at hx113_1)
                (try rw [show ((1 : Int)).toNat = 1 from rfl] at hx113_2)
                (try rw [show 1 * 4 = 4 from rfl] at hx113_2)
                (try rw [show ((1 : Int)).toNat = 1 from rfl] at hx113_3)
                (try rw [show 1 * 4 = 4 from rfl] at hx113_3)
                replace p113 := eq_true p113
                replace q113 := eq_true q113
                go_wp2
                go_meet
                case rel => exact ⟨_, (true), (by first | rfl | (simp; done) | (simp [*]; done) | (simp [Go.Proofs.YtipmmjbjgbfgjaaX.isEmpty_ne]; done)), H', ⟨by first | omega | exact Nat.le_refl _⟩, ⟨by repeat (first | (with_reducible first | exact HB.out | apply below_alloc | apply pw_below_drewN | apply below_drew1) | exact HB.out)⟩⟩
            · rw [if_neg c9] at H
              exact absurd H (by simp)
          · rw [if_neg c8] at H
            have c8b0 : (((rd_T56 t109 0).f0) == 2) = false := beq_eq_false_iff_ne.mpr c8
            have c8b1 : (((rd_T56 t109 0).f0) != 2) = true := bne_iff_ne.mpr c8
            have H' := Aside0.mk H
            clear H
            obtain ⟨Ao19, co19, eo19⟩ := Kd.R_slice HO111.out
            subst eo19
            have p112 : 0 ≤ (0 : Int) := (by omega)
            have q112 : 0 < (t109.length : Int) := of_decide_eq_true (by first | (with_reducible assumption) | assumption)
            obtain ⟨ad112, e112, hx112_0, hx112_1, hx112_2, hx112_3⟩ := at_T56 (Kd.R_reads' HO111.out).2.2 0 p112 q112
            cases e112
            have qi112 : (0 < t109.length) = True := eq_true (by omega)
            (try rw [show ((0 : Int)).toNat = 0 from rfl] at hx112_0)
            (try rw [show 0 * 4 = 0 from rfl] at hx112_0)
            (try rw [Addr.add_zero'] at hx112_0)
            (try rw [show ((0 : Int)).toNat = 0 from rfl] at hx112_1)
            (try rw [show 0 * 4 = 0 from rfl] at hx112_1)
            (try rw [Addr.add_zero'] at hx112_1)
            (try rw [show ((0 : Int)).toNat = 0 from rfl] at hx112_2)
            (try rw [show 0 * 4 = 0 from rfl] at hx112_2)
            (try rw [Addr.add_zero'] at hx112_2)
            (try rw [show ((0 : Int)).toNat = 0 from rfl] at hx112_3)
            (try rw [show 0 * 4 = 0 from rfl] at hx112_3)
            (try rw [Addr.add_zero'] at hx112_3)
            replace p112 := eq_true p112
            replace q112 := eq_true q112
            go_wp2
            go_meet
            case rel => exact ⟨_, (true), (by first | rfl | (simp; done) | (simp [*]; done) | (simp [Go.Proofs.YtipmmjbjgbfgjaaX.isEmpty_ne]; done)), H', ⟨by first | omega | exact Nat.le_refl _⟩, ⟨by repeat (first | (with_reducible first | exact HB.out | apply below_alloc | apply pw_below_drewN | apply below_drew1) | exact HB.out)⟩⟩
        · rw [if_neg c7] at H
          exact absurd H (by simp)
      · rw [if_neg c6] at H
        have c6b0 : ((t109.length : Int) == 4) = false := beq_eq_false_iff_ne.mpr c6
        have c6b1 : ((t109.length : Int) != 4) = true := bne_iff_ne.mpr c6
        (first | rw [c6b0] | (simp only [i64_w, i32_w]; rw [c6b0]) | skip)
        have H' := Aside0.mk H
        clear H
        obtain ⟨Ao20, co20, eo20⟩ := Kd.R_slice HO111.out
        subst eo20
        go_wp2
        go_meet
        case rel => exact ⟨_, (true), (by first | rfl | (simp; done) | (simp [*]; done) | (simp [Go.Proofs.YtipmmjbjgbfgjaaX.isEmpty_ne]; done)), H', ⟨by first | omega | exact Nat.le_refl _⟩, ⟨by repeat (first | (with_reducible first | exact HB.out | apply below_alloc | apply pw_below_drewN | apply below_drew1) | exact HB.out)⟩⟩
    case rest =>
      clear HC4
      try clear c1
      try clear p1
      try clear q1
      try clear hx1
      try clear qi1
      try clear c2
      try clear c2b0
      try clear c2b1
      try clear p2
      try clear c3
      try clear c6
      try clear c6b0
      try clear c6b1
      try clear c7
      try clear c7b0
      try clear c7b1
      try clear c8
      try clear c8b0
      try clear c8b1
      try clear c9
      try clear c9b0
      try clear c9b1
      try clear c10
      try clear c10b0
      try clear c10b1
      try clear c11
      try clear c11b0
      try clear c11b1
      try clear p11
      try clear q11
      try clear hx11
      try clear qi11
      try clear c12
      try clear c12b0
      try clear c12b1
      try clear c13
      try clear c13b0
      try clear c13b1
      try clear c14
      try clear c14b0
      try clear c14b1
      try clear hx112_0
      try clear hx112_1
      try clear hx112_2
      try clear hx112_3
      try clear hx113_0
      try clear hx113_1
      try clear hx113_2
      try clear hx113_3
      try clear hx114_0
      try clear hx114_1
      try clear hx114_2
      try clear hx114_3
      try clear hx115_0
      try clear hx115_1
      try clear hx115_2
      try clear hx115_3
      try clear hx116_0
      try clear hx116_1
      try clear hx116_2
      try clear hx116_3
      try clear p112
      try clear p113
      try clear p114
      try clear p115
      try clear p116
      try clear q112
      try clear q113
      try clear q114
      try clear q115
      try clear q116
      obtain ⟨kq, x51_3, rfl, HA, HJ3, HB⟩ := hcut
      cases kq with
      | zero => exact absurd HA.out (by simp [laws_FnTokensStand.j0])
      | succ kj3 =>
        have H := HA.out
        clear HA
        simp only [laws_FnTokensStand.j0] at H
        by_cases c21 : x51_3 = true
        · subst c21
          have H1 : (some false) = some r := by rw [if_pos rfl] at H; exact H
          clear H
          have H := H1
          clear H1
          obtain rfl := Option.some.inj H
          go_wp2
          go_ret
          exact ⟨by first | rfl | (simp [errW_none, errW_some] <;> rfl) | (simp [*, errW_none, errW_some] <;> rfl), by repeat (first | (with_reducible first | exact HB.out | apply below_alloc | apply pw_below_drewN | apply below_drew1) | exact HB.out)⟩
        · replace c21 := Bool.eq_false_iff.mpr c21
          subst c21
          have H1 : ((laws_short.f kj3 (([a0] : List ByteArray))).bind fun t120 => (if t120 = true then (laws_FnTokensStand.l0 kj3 a0 (⟨#[]⟩ : ByteArray) (a0.size : Int) 0) else (some true))) = some r := by rw [if_neg (show ¬ (false = true) by decide)] at H; exact H
          clear H
          have H := H1
          clear H1
          obtain ⟨y117, hy117⟩ : ∃ y_ : List ByteArray, y_ = (([a0] : List ByteArray)) := ⟨_, rfl⟩
          replace H : ((laws_short.f kj3 y117).bind fun t120 => (if t120 = true then (laws_FnTokensStand.l0 kj3 a0 (⟨#[]⟩ : ByteArray) (a0.size : Int) 0) else (some true))) = some r := by first | (rw [hy117]; with_reducible exact H) | (have H2_ := (Option.bind_some _ _).symm.trans H; rw [hy117]; with_reducible exact H2_) | (have H2_ := (Option.bind_some _ _).symm.trans H; with_reducible exact H2_) | with_reducible exact H | (rw [hy117]; exact H) | exact H
          have Ny117 := Aside0.mk hy117
          clear hy117
          replace H := Option.bind_eq_some_iff.mp H
          obtain ⟨t120, A220, H⟩ := H
          replace H : (if t120 = true then (laws_FnTokensStand.l0 kj3 a0 (⟨#[]⟩ : ByteArray) (a0.size : Int) 0) else (some true)) = some r := H
          have A22 := Aside0.mk A220
          clear A220
          by_cases c23 : t120 = true
          · subst c23
            have H1 : (laws_FnTokensStand.l0 kj3 a0 (⟨#[]⟩ : ByteArray) (a0.size : Int) 0) = some r := by rw [if_pos rfl] at H; exact H
            clear H
            have H := H1
            clear H1
            have H' := Aside0.mk H
            clear H
            go_wp2_with (first | ((with_reducible refine gate_dst (N := 53) rfl ?_); (try (refine gate_guard (by rfl) ?_; dsimp only)); refine Kd.R_lit Kd.string _ 9 ?hg (N := 53) ?hd (xs := ([a0] : List ByteArray)) (inner := [.string a0]) (ok := fun _ => True) (okp := fun _ => True) ?hr ?hp (fun _ hk => hk) trivial (Below.refl _ _) (Nat.le_refl _) (by simp) ?_; (case hd => rfl); (case hg => rfl); (case hr => first | (go_simp; done) | (go_simp; rfl)); (case hp => exact (Reps.one (show Kd.M Kd.string _ _ _ a0 [.string a0] from rfl) (Reps.none _ _))); intro v118 w24 ho25 hb hg_ hnew_; clear hg_ hnew_; (first | rw [← Ny117.out] at ho25 | (simp only [Int.reduceToNat] at ho25; rw [← Ny117.out] at ho25)); have n0_ := Aside0.mk (Kd.R_lower ho25 (below_size (by repeat (first | (with_reducible first | exact HB.out | apply below_alloc | apply pw_below_drewN | apply below_drew1) | exact HB.out)))); have n1_ := Aside0.mk (below_step (by repeat (first | (with_reducible first | exact HB.out | apply below_alloc | apply pw_below_drewN | apply below_drew1) | exact HB.out)) hb); clear HB; have HO119 := n0_; have HB := n1_; clear n0_ n1_; clear hb ho25; obtain ⟨Ao26, co26, eo26⟩ := Kd.R_slice HO119.out; subst eo26) | ((with_reducible refine gate_callee (f := 13) rfl ?_); refine goesL_ (some 54) rfl rfl Try.func13 (by kernel_rfl) rfl #[.slice Ao26 y117.length co26] rfl (by (try simp only [List.map_toArray, List.map_cons, List.map_nil]); first | done | rfl | (simp only [List.length_drop, List.length_take]; rfl)) ?_; (with_reducible refine (laws_short.calls kj3 _ _ y117 true _ ?side1 ?side2 A22.out).mono ?_); (case side1 => repeat (first | exact (Kd.R_reads' HO119.out).2.2 | (with_reducible refine Kd.C_alloc ?_ _) | (with_reducible refine Kd.C_drewN ?_ _) | (with_reducible refine Kd.C_drew ?_))); (case side2 => exact (Kd.R_reads' HO119.out).2.1); rintro e w' ⟨rfl, ⟨nd, rfl⟩⟩; refine ⟨_, rfl, ?_⟩))
            go_loopg [4, 58] kj3 (fun kq v4 v58 w' => ∃ (x4_2 : ByteArray) (x58_2 : Int), v4 = .string x4_2 ∧ v58 = .int .i64 x58_2 ∧ Aside0 (laws_FnTokensStand.l0 kq a0 x4_2 (a0.size : Int) x58_2 = some r) ∧ Aside0 (kq ≤ kj3) ∧ Aside0 (Below w.heap.size w w'))
            case atStart => exact ⟨((⟨#[]⟩ : ByteArray)), (0), (by first | rfl | (simp; done) | (simp [*]; done) | (simp [Go.Proofs.YtipmmjbjgbfgjaaX.isEmpty_ne]; done)), (by first | rfl | (simp; done) | (simp [*]; done) | (simp [Go.Proofs.YtipmmjbjgbfgjaaX.isEmpty_ne]; done)), H', ⟨Nat.le_refl _⟩, ⟨by repeat (first | (with_reducible first | exact HB.out | apply below_alloc | apply pw_below_drewN | apply below_drew1) | exact HB.out)⟩⟩
            case round =>
              clear H'
              try clear c1
              try clear p1
              try clear q1
              try clear hx1
              try clear qi1
              try clear c2
              try clear c2b0
              try clear c2b1
              try clear p2
              try clear c3
              try clear c6
              try clear c6b0
              try clear c6b1
              try clear c7
              try clear c7b0
              try clear c7b1
              try clear c8
              try clear c8b0
              try clear c8b1
              try clear c9
              try clear c9b0
              try clear c9b1
              try clear c10
              try clear c10b0
              try clear c10b1
              try clear c11
              try clear c11b0
              try clear c11b1
              try clear p11
              try clear q11
              try clear hx11
              try clear qi11
              try clear c12
              try clear c12b0
              try clear c12b1
              try clear c13
              try clear c13b0
              try clear c13b1
              try clear c14
              try clear c14b0
              try clear c14b1
              try clear c21
              try clear c23
              try clear hx112_0
              try clear hx112_1
              try clear hx112_2
              try clear hx112_3
              try clear hx113_0
              try clear hx113_1
              try clear hx113_2
              try clear hx113_3
              try clear hx114_0
              try clear hx114_1
              try clear hx114_2
              try clear hx114_3
              try clear hx115_0
              try clear hx115_1
              try clear hx115_2
              try clear hx115_3
              try clear hx116_0
              try clear hx116_1
              try clear hx116_2
              try clear hx116_3
              try clear p1
              try clear p11
              try clear p112
              try clear p113
              try clear p114
              try clear p115
              try clear p116
              try clear p2
              try clear q1
              try clear q11
              try clear q112
              try clear q113
              try clear q114
              try clear q115
              try clear q116
              obtain ⟨x4_2, x58_2, rfl, rfl, HA, HK2, HB⟩ := hrel
              cases gk with
              | zero => exact absurd HA.out (by simp [laws_FnTokensStand.l0])
              | succ k2 =>
                have H := HA.out
                clear HA
                simp only [laws_FnTokensStand.l0] at H
                by_cases c27 : x58_2 < (a0.size : Int)
                · rw [if_pos c27] at H
                  have c27b0 : decide (x58_2 < (a0.size : Int)) = true := decide_eq_true c27
                  clear c27
                  by_cases c28 : 0 ≤ x58_2
                  · rw [if_pos c28] at H
                    have c28b0 := eq_true c28
                    have c28b1 : decide (0 ≤ x58_2) = true := decide_eq_true c28
                    clear c28
                    by_cases c29 : x58_2 ≤ (wrap64 (x58_2 + 1))
                    · rw [if_pos c29] at H
                      have c29b0 := eq_true c29
                      have c29b1 : decide (x58_2 ≤ (wrap64 (x58_2 + 1))) = true := decide_eq_true c29
                      by_cases c30 : (wrap64 (x58_2 + 1)) ≤ (a0.size : Int)
                      · rw [if_pos c30] at H
                        have c30b0 := eq_true c30
                        have c30b1 : decide ((wrap64 (x58_2 + 1)) ≤ (a0.size : Int)) = true := decide_eq_true c30
                        by_cases c31 : (a0.extract (x58_2 : Int).toNat ((wrap64 (x58_2 + 1)) : Int).toNat).toList = ([32] : List UInt8)
                        · rw [if_pos c31] at H
                          have c31b0 : ((a0.extract (x58_2 : Int).toNat ((wrap64 (x58_2 + 1)) : Int).toNat).toList == ([32] : List UInt8)) = true := beq_iff_eq.mpr c31
                          have c31b1 : ((a0.extract (x58_2 : Int).toNat ((wrap64 (x58_2 + 1)) : Int).toNat).toList != ([32] : List UInt8)) = false := bne_eq_false_iff_eq.mpr c31
                          clear c31
                          have H' := Aside0.mk H
                          clear H
                          go_wp2
                          go_roundg k2
                          case measure => have := HJ3.out; have := HK2.out; omega
                          case rel => exact ⟨(x4_2), (wrap64 (x58_2 + 1)), (by first | rfl | (simp; done) | (simp [*]; done) | (simp [Go.Proofs.YtipmmjbjgbfgjaaX.isEmpty_ne]; done)), (by first | rfl | (simp; done) | (simp [*]; done) | (simp [Go.Proofs.YtipmmjbjgbfgjaaX.isEmpty_ne]; done)), H', ⟨by have := HJ3.out; have := HK2.out; omega⟩, ⟨by repeat (first | (with_reducible first | exact HB.out | apply below_alloc | apply pw_below_drewN | apply below_drew1) | exact HB.out)⟩⟩
                        · rw [if_neg c31] at H
                          have c31b0 : ((a0.extract (x58_2 : Int).toNat ((wrap64 (x58_2 + 1)) : Int).toNat).toList == ([32] : List UInt8)) = false := beq_eq_false_iff_ne.mpr c31
                          have c31b1 : ((a0.extract (x58_2 : Int).toNat ((wrap64 (x58_2 + 1)) : Int).toNat).toList != ([32] : List UInt8)) = true := bne_iff_ne.mpr c31
                          replace H := Option.bind_eq_some_iff.mp H
                          obtain ⟨t121, A320, H⟩ := H
                          replace H : (if t121 = true then (if x4_2.size + ((min ((wrap64 (x58_2 + 1)) : Int).toNat a0.size - (x58_2 : Int).toNat)) ≤ 9223372036854775807 then (laws_FnTokensStand.l0 k2 a0 (x4_2 ++ (a0.extract (x58_2 : Int).toNat ((wrap64 (x58_2 + 1)) : Int).toNat)) (a0.size : Int) (wrap64 (x58_2 + 1))) else (none)) else (if x58_2 < (a0.size : Int) then ((laws_holds.f k2 (⟨#[123, 125, 40, 41, 58, 44]⟩ : ByteArray) (bt a0 x58_2)).bind fun t122 => (if t122 = true then (if x4_2.size + ((min ((wrap64 (x58_2 + 1)) : Int).toNat a0.size - (x58_2 : Int).toNat)) ≤ 9223372036854775807 then (laws_FnTokensStand.l0 k2 a0 (x4_2 ++ (a0.extract (x58_2 : Int).toNat ((wrap64 (x58_2 + 1)) : Int).toNat)) (a0.size : Int) (wrap64 (x58_2 + 1))) else (none)) else (some true))) else (none))) = some r := H
                          have A32 := Aside0.mk A320
                          clear A320
                          by_cases c33 : t121 = true
                          · subst c33
                            have H1 : (if x4_2.size + ((min ((wrap64 (x58_2 + 1)) : Int).toNat a0.size - (x58_2 : Int).toNat)) ≤ 9223372036854775807 then (laws_FnTokensStand.l0 k2 a0 (x4_2 ++ (a0.extract (x58_2 : Int).toNat ((wrap64 (x58_2 + 1)) : Int).toNat)) (a0.size : Int) (wrap64 (x58_2 + 1))) else (none)) = some r := by rw [if_pos rfl] at H; exact H
                            clear H
                            have H := H1
                            clear H1
                            by_cases c34 : x4_2.size + ((min ((wrap64 (x58_2 + 1)) : Int).toNat a0.size - (x58_2 : Int).toNat)) ≤ 9223372036854775807
                            · rw [if_pos c34] at H
                              have c34b0 := eq_true c34
                              have c34b1 : decide (x4_2.size + ((min ((wrap64 (x58_2 + 1)) : Int).toNat a0.size - (x58_2 : Int).toNat)) ≤ 9223372036854775807) = true := decide_eq_true c34
                              try have c34b2 : (9223372036854775807 < x4_2.size + ((min ((wrap64 (x58_2 + 1)) : Int).toNat a0.size - (x58_2 : Int).toNat))) = False := eq_false (Nat.not_lt.2 c34)
                              have H' := Aside0.mk H
                              clear H
                              go_wp2_with (first | ((with_reducible refine gate_callee (f := 38) rfl ?_); refine goesL_ (some 69) rfl rfl Try.func38 (by kernel_rfl) rfl #[.string (a0.extract (x58_2 : Int).toNat ((wrap64 (x58_2 + 1)) : Int).toNat)] rfl (by (try simp only [List.map_toArray, List.map_cons, List.map_nil]); first | done | rfl | (simp only [List.length_drop, List.length_take]; rfl)) ?_; (with_reducible refine (laws_word.calls k2 (a0.extract (x58_2 : Int).toNat ((wrap64 (x58_2 + 1)) : Int).toNat) true _ A32.out).mono ?_); rintro e w' ⟨rfl, ⟨nd, rfl⟩⟩; refine ⟨_, rfl, ?_⟩))
                              any_goals (try (exfalso; have zc27b0 := of_decide_eq_true c27b0; have zc28b1 := of_decide_eq_true c28b1; have zc29b1 := of_decide_eq_true c29b1; have zc30b1 := of_decide_eq_true c30b1; have zc34b1 := of_decide_eq_true c34b1; omega))
                              go_roundg k2
                              case measure => have := HJ3.out; have := HK2.out; omega
                              case rel => exact ⟨(x4_2 ++ (a0.extract (x58_2 : Int).toNat ((wrap64 (x58_2 + 1)) : Int).toNat)), (wrap64 (x58_2 + 1)), (by first | rfl | (simp; done) | (simp [*]; done) | (simp [Go.Proofs.YtipmmjbjgbfgjaaX.isEmpty_ne]; done)), (by first | rfl | (simp; done) | (simp [*]; done) | (simp [Go.Proofs.YtipmmjbjgbfgjaaX.isEmpty_ne]; done)), H', ⟨by have := HJ3.out; have := HK2.out; omega⟩, ⟨by repeat (first | (with_reducible first | exact HB.out | apply below_alloc | apply pw_below_drewN | apply below_drew1) | exact HB.out)⟩⟩
                            · rw [if_neg c34] at H
                              exact absurd H (by simp)
                          · replace c33 := Bool.eq_false_iff.mpr c33
                            subst c33
                            have H1 : (if x58_2 < (a0.size : Int) then ((laws_holds.f k2 (⟨#[123, 125, 40, 41, 58, 44]⟩ : ByteArray) (bt a0 x58_2)).bind fun t122 => (if t122 = true then (if x4_2.size + ((min ((wrap64 (x58_2 + 1)) : Int).toNat a0.size - (x58_2 : Int).toNat)) ≤ 9223372036854775807 then (laws_FnTokensStand.l0 k2 a0 (x4_2 ++ (a0.extract (x58_2 : Int).toNat ((wrap64 (x58_2 + 1)) : Int).toNat)) (a0.size : Int) (wrap64 (x58_2 + 1))) else (none)) else (some true))) else (none)) = some r := by rw [if_neg (show ¬ (false = true) by decide)] at H; exact H
                            clear H
                            have H := H1
                            clear H1
                            by_cases c35 : x58_2 < (a0.size : Int)
                            · rw [if_pos c35] at H
                              have c35b0 : decide (x58_2 < (a0.size : Int)) = true := decide_eq_true c35
                              clear c35
                              replace H := Option.bind_eq_some_iff.mp H
                              obtain ⟨t122, A370, H⟩ := H
                              replace H : (if t122 = true then (if x4_2.size + ((min ((wrap64 (x58_2 + 1)) : Int).toNat a0.size - (x58_2 : Int).toNat)) ≤ 9223372036854775807 then (laws_FnTokensStand.l0 k2 a0 (x4_2 ++ (a0.extract (x58_2 : Int).toNat ((wrap64 (x58_2 + 1)) : Int).toNat)) (a0.size : Int) (wrap64 (x58_2 + 1))) else (none)) else (some true)) = some r := H
                              have A37 := Aside0.mk A370
                              clear A370
                              by_cases c38 : t122 = true
                              · subst c38
                                have H1 : (if x4_2.size + ((min ((wrap64 (x58_2 + 1)) : Int).toNat a0.size - (x58_2 : Int).toNat)) ≤ 9223372036854775807 then (laws_FnTokensStand.l0 k2 a0 (x4_2 ++ (a0.extract (x58_2 : Int).toNat ((wrap64 (x58_2 + 1)) : Int).toNat)) (a0.size : Int) (wrap64 (x58_2 + 1))) else (none)) = some r := by rw [if_pos rfl] at H; exact H
                                clear H
                                have H := H1
                                clear H1
                                by_cases c39 : x4_2.size + ((min ((wrap64 (x58_2 + 1)) : Int).toNat a0.size - (x58_2 : Int).toNat)) ≤ 9223372036854775807
                                · rw [if_pos c39] at H
                                  have c39b0 := eq_true c39
                                  have c39b1 : decide (x4_2.size + ((min ((wrap64 (x58_2 + 1)) : Int).toNat a0.size - (x58_2 : Int).toNat)) ≤ 9223372036854775807) = true := decide_eq_true c39
                                  try have c39b2 : (9223372036854775807 < x4_2.size + ((min ((wrap64 (x58_2 + 1)) : Int).toNat a0.size - (x58_2 : Int).toNat))) = False := eq_false (Nat.not_lt.2 c39)
                                  have H' := Aside0.mk H
                                  clear H
                                  go_wp2_with (first | ((with_reducible refine gate_callee (f := 38) rfl ?_); refine goesL_ (some 69) rfl rfl Try.func38 (by kernel_rfl) rfl #[.string (a0.extract (x58_2 : Int).toNat ((wrap64 (x58_2 + 1)) : Int).toNat)] rfl (by (try simp only [List.map_toArray, List.map_cons, List.map_nil]); first | done | rfl | (simp only [List.length_drop, List.length_take]; rfl)) ?_; (with_reducible refine (laws_word.calls k2 (a0.extract (x58_2 : Int).toNat ((wrap64 (x58_2 + 1)) : Int).toNat) false _ A32.out).mono ?_); rintro e w' ⟨rfl, ⟨nd, rfl⟩⟩; refine ⟨_, rfl, ?_⟩; have p36 : 0 ≤ (x58_2 : Int) := of_decide_eq_true (by first | (with_reducible assumption) | assumption); have q36 : x58_2 < (a0.size : Int) := of_decide_eq_true (by first | (with_reducible assumption) | assumption); have hx36 := bt_at a0 x58_2; replace p36 := eq_true p36; replace q36 := eq_true q36) | (go_at_call 39; (with_reducible refine (laws_holds.calls k2 (⟨#[123, 125, 40, 41, 58, 44]⟩ : ByteArray) (bt a0 x58_2) true _ A37.out).mono ?_); rintro e w' ⟨rfl, ⟨nd, rfl⟩⟩))
                                  any_goals (try (exfalso; have zc27b0 := of_decide_eq_true c27b0; have zc28b1 := of_decide_eq_true c28b1; have zc29b1 := of_decide_eq_true c29b1; have zc30b1 := of_decide_eq_true c30b1; have zc35b0 := of_decide_eq_true c35b0; have zc39b1 := of_decide_eq_true c39b1; omega))
                                  go_roundg k2
                                  case measure => have := HJ3.out; have := HK2.out; omega
                                  case rel => exact ⟨(x4_2 ++ (a0.extract (x58_2 : Int).toNat ((wrap64 (x58_2 + 1)) : Int).toNat)), (wrap64 (x58_2 + 1)), (by first | rfl | (simp; done) | (simp [*]; done) | (simp [Go.Proofs.YtipmmjbjgbfgjaaX.isEmpty_ne]; done)), (by first | rfl | (simp; done) | (simp [*]; done) | (simp [Go.Proofs.YtipmmjbjgbfgjaaX.isEmpty_ne]; done)), H', ⟨by have := HJ3.out; have := HK2.out; omega⟩, ⟨by repeat (first | (with_reducible first | exact HB.out | apply below_alloc | apply pw_below_drewN | apply below_drew1) | exact HB.out)⟩⟩
                                · rw [if_neg c39] at H
                                  exact absurd H (by simp)
                              · replace c38 := Bool.eq_false_iff.mpr c38
                                subst c38
                                have H1 : (some true) = some r := by rw [if_neg (show ¬ (false = true) by decide)] at H; exact H
                                clear H
                                have H := H1
                                clear H1
                                obtain rfl := Option.some.inj H
                                go_wp2_with (first | ((with_reducible refine gate_callee (f := 38) rfl ?_); refine goesL_ (some 69) rfl rfl Try.func38 (by kernel_rfl) rfl #[.string (a0.extract (x58_2 : Int).toNat ((wrap64 (x58_2 + 1)) : Int).toNat)] rfl (by (try simp only [List.map_toArray, List.map_cons, List.map_nil]); first | done | rfl | (simp only [List.length_drop, List.length_take]; rfl)) ?_; (with_reducible refine (laws_word.calls k2 (a0.extract (x58_2 : Int).toNat ((wrap64 (x58_2 + 1)) : Int).toNat) false _ A32.out).mono ?_); rintro e w' ⟨rfl, ⟨nd, rfl⟩⟩; refine ⟨_, rfl, ?_⟩; have p36 : 0 ≤ (x58_2 : Int) := of_decide_eq_true (by first | (with_reducible assumption) | assumption); have q36 : x58_2 < (a0.size : Int) := of_decide_eq_true (by first | (with_reducible assumption) | assumption); have hx36 := bt_at a0 x58_2; replace p36 := eq_true p36; replace q36 := eq_true q36) | (go_at_call 39; (with_reducible refine (laws_holds.calls k2 (⟨#[123, 125, 40, 41, 58, 44]⟩ : ByteArray) (bt a0 x58_2) false _ A37.out).mono ?_); rintro e w' ⟨rfl, ⟨nd, rfl⟩⟩))
                                go_ret
                                exact ⟨by first | rfl | (simp [errW_none, errW_some] <;> rfl) | (simp [*, errW_none, errW_some] <;> rfl), by repeat (first | (with_reducible first | exact HB.out | apply below_alloc | apply pw_below_drewN | apply below_drew1) | exact HB.out)⟩
                            · rw [if_neg c35] at H
                              exact absurd H (by simp)
                      · rw [if_neg c30] at H
                        exact absurd H (by simp)
                    · rw [if_neg c29] at H
                      exact absurd H (by simp)
                  · rw [if_neg c28] at H
                    exact absurd H (by simp)
                · rw [if_neg c27] at H
                  have c27b0 : decide (x58_2 < (a0.size : Int)) = false := decide_eq_false c27
                  clear c27
                  replace H := Option.bind_eq_some_iff.mp H
                  obtain ⟨t123, A400, H⟩ := H
                  replace H : (laws_FnTokensStand.l1 k2 x4_2 t123 t123 (t123.length : Int) 0) = some r := H
                  have A40 := Aside0.mk A400
                  clear A400
                  have H' := Aside0.mk H
                  clear H
                  go_wp2_with (first | ((with_reducible refine gate_callee (f := 36) rfl ?_); refine goesL_ (some 83) rfl rfl Try.func36 (by kernel_rfl) rfl #[.string a0] rfl (by (try simp only [List.map_toArray, List.map_cons, List.map_nil]); first | done | rfl | (simp only [List.length_drop, List.length_take]; rfl)) ?_; (with_reducible refine (impl_Tokens.calls a0 t123 _ A40.out).mono ?_); rintro e w41 ⟨v124, rfl, ho0, hb⟩; refine ⟨_, rfl, ?_⟩; have n0_ := Aside0.mk (Kd.R_lower ho0 (below_size (by repeat (first | (with_reducible first | exact HB.out | apply below_alloc | apply pw_below_drewN | apply below_drew1) | exact HB.out)))); have n1_ := Aside0.mk (below_step (by repeat (first | (with_reducible first | exact HB.out | apply below_alloc | apply pw_below_drewN | apply below_drew1) | exact HB.out)) hb); clear HB; have HO125 := n0_; have HB := n1_; clear n0_ n1_; (try clear hb); (try clear hb2); (try clear hk); (try clear hi); (try clear ho0); obtain ⟨Ao42, co42, eo42⟩ := Kd.R_slice HO125.out; subst eo42))
                  go_loopg [4, 86] k2 (fun kq v4 v86 w' => ∃ (x4_3 : ByteArray) (x86_3 : Int), v4 = .string x4_3 ∧ v86 = .int .i64 x86_3 ∧ Aside0 (laws_FnTokensStand.l1 kq x4_3 t123 t123 (t123.length : Int) x86_3 = some r) ∧ Aside0 (kq ≤ k2) ∧ Aside0 (Kd.R k56 56 w' w.heap.size (fun _ => True) (.slice Ao42 t123.length co42) t123) ∧ Aside0 (Kd.R k56 56 w' w.heap.size (fun _ => True) (.slice Ao42 t123.length co42) t123) ∧ Aside0 (Below w.heap.size w w'))
                  case atStart => exact ⟨(x4_2), (0), (by first | rfl | (simp; done) | (simp [*]; done) | (simp [Go.Proofs.YtipmmjbjgbfgjaaX.isEmpty_ne]; done)), (by first | rfl | (simp; done) | (simp [*]; done) | (simp [Go.Proofs.YtipmmjbjgbfgjaaX.isEmpty_ne]; done)), H', ⟨Nat.le_refl _⟩, ⟨by (with_reducible repeat (first | apply Kd.R_alloc | apply Kd.R_drewN | apply Kd.R_drew)); exact HO125.out⟩, ⟨by (with_reducible repeat (first | apply Kd.R_alloc | apply Kd.R_drewN | apply Kd.R_drew)); exact HO125.out⟩, ⟨by repeat (first | (with_reducible first | exact HB.out | apply below_alloc | apply pw_below_drewN | apply below_drew1) | exact HB.out)⟩⟩
                  case round =>
                    clear H'
                    try clear c1
                    try clear p1
                    try clear q1
                    try clear hx1
                    try clear qi1
                    try clear c2
                    try clear c2b0
                    try clear c2b1
                    try clear p2
                    try clear c3
                    try clear p3
                    try clear q3
                    try clear hx3
                    try clear c6
                    try clear c6b0
                    try clear c6b1
                    try clear p6
                    try clear c7
                    try clear c7b0
                    try clear c7b1
                    try clear c8
                    try clear c8b0
                    try clear c8b1
                    try clear c9
                    try clear c9b0
                    try clear c9b1
                    try clear c10
                    try clear c10b0
                    try clear c10b1
                    try clear c11
                    try clear c11b0
                    try clear c11b1
                    try clear p11
                    try clear q11
                    try clear hx11
                    try clear qi11
                    try clear c12
                    try clear c12b0
                    try clear c12b1
                    try clear c13
                    try clear c13b0
                    try clear c13b1
                    try clear c14
                    try clear c14b0
                    try clear c14b1
                    try clear c21
                    try clear c23
                    try clear c27
                    try clear c27b0
                    try clear c28
                    try clear c28b0
                    try clear c28b1
                    try clear c29
                    try clear c29b0
                    try clear c29b1
                    try clear c30
                    try clear c30b0
                    try clear c30b1
                    try clear c31
                    try clear c31b0
                    try clear c31b1
                    try clear c33
                    try clear c34
                    try clear c34b0
                    try clear c34b1
                    try clear c34b2
                    try clear c35
                    try clear c35b0
                    try clear c36
                    try clear p36
                    try clear q36
                    try clear hx36
                    try clear c38
                    try clear c39
                    try clear c39b0
                    try clear c39b1
                    try clear c39b2
                    try clear hx112_0
                    try clear hx112_1
                    try clear hx112_2
                    try clear hx112_3
                    try clear hx113_0
                    try clear hx113_1
                    try clear hx113_2
                    try clear hx113_3
                    try clear hx114_0
                    try clear hx114_1
                    try clear hx114_2
                    try clear hx114_3
                    try clear hx115_0
                    try clear hx115_1
                    try clear hx115_2
                    try clear hx115_3
                    try clear hx116_0
                    try clear hx116_1
                    try clear hx116_2
                    try clear hx116_3
                    try clear p1
                    try clear p11
                    try clear p112
                    try clear p113
                    try clear p114
                    try clear p115
                    try clear p116
                    try clear p2
                    try clear p36
                    try clear q1
                    try clear q11
                    try clear q112
                    try clear q113
                    try clear q114
                    try clear q115
                    try clear q116
                    try clear q36
                    obtain ⟨x4_3, x86_3, rfl, rfl, HA, HK3, HO_7, HO_84, HB⟩ := hrel
                    cases gk with
                    | zero => exact absurd HA.out (by simp [laws_FnTokensStand.l1])
                    | succ k3 =>
                      have H := HA.out
                      clear HA
                      simp only [laws_FnTokensStand.l1] at H
                      by_cases c43 : x86_3 < (t123.length : Int)
                      · rw [if_pos c43] at H
                        have c43b0 : decide (x86_3 < (t123.length : Int)) = true := decide_eq_true c43
                        clear c43
                        by_cases c44 : 0 ≤ x86_3
                        · rw [if_pos c44] at H
                          have c44b0 : decide (0 ≤ x86_3) = true := decide_eq_true c44
                          clear c44
                          by_cases c45 : x86_3 < (t123.length : Int)
                          · rw [if_pos c45] at H
                            have c45b0 : decide (x86_3 < (t123.length : Int)) = true := decide_eq_true c45
                            clear c45
                            have HC46 := Aside0.mk H
                            clear H
                            have p126 : 0 ≤ (x86_3 : Int) := of_decide_eq_true (by first | (with_reducible assumption) | assumption)
                            have q126 : x86_3 < (t123.length : Int) := of_decide_eq_true (by first | (with_reducible assumption) | assumption)
                            obtain ⟨ad126, e126, hx126_0, hx126_1, hx126_2, hx126_3⟩ := at_T56 (Kd.R_reads' HO_84.out).2.2 x86_3 p126 q126
                            cases e126
                            replace p126 := eq_true p126
                            replace q126 := eq_true q126
                            go_upto_region 22 with (first | ((with_reducible refine gate_dst (N := 9) rfl ?_); (try (refine gate_guard (by rfl) ?_; dsimp only)); refine box_event ?hg (N := 9) ?hd (cs := #[.int .i64 0, .string (⟨#[]⟩ : ByteArray), .int .i64 0, .int .i64 0]) (t := 56) ?hr ?_; (case hd => rfl); (case hg => rfl); (case hr => first | (go_simp; done) | (go_simp; rfl)); intro gb127 hg w47 hbox hb; have n0_ := Aside0.mk (Kd.R_below (Kd.R_elderB (by (with_reducible repeat (first | apply Kd.R_alloc | apply Kd.R_drewN | apply Kd.R_drew)); exact HO_7.out) gb127 (Nat.le_of_eq hg.symm)) hb); have n1_ := Aside0.mk (Kd.R_below (Kd.R_elderB (by (with_reducible repeat (first | apply Kd.R_alloc | apply Kd.R_drewN | apply Kd.R_drew)); exact HO_84.out) gb127 (Nat.le_of_eq hg.symm)) hb); have n2_ := Aside0.mk (below_step (by repeat (first | (with_reducible first | exact HB.out | apply below_alloc | apply pw_below_drewN | apply below_drew1) | exact HB.out)) hb); have n3_ := Aside0.mk (hbox); have n4_ := Aside0.mk ((by rw [hg]; exact (below_size (by repeat (first | (with_reducible first | exact HB.out | apply below_alloc | apply pw_below_drewN | apply below_drew1) | exact HB.out))) : w.heap.size ≤ gb127)); have n5_ := Aside0.mk ((by rw [hg]; exact (below_size (by repeat (first | (with_reducible first | exact HB.out | apply below_alloc | apply pw_below_drewN | apply below_drew1) | exact HB.out))) : w.heap.size ≤ gb127)); clear HO_7; clear HO_84; clear HB; have HO_7 := n0_; have HO_84 := n1_; have HB := n2_; have BK127 := n3_; have GW127 := n4_; have GE127 := n5_; clear n0_ n1_ n2_ n3_ n4_ n5_; clear hb hbox hg; have hcz48_0 : w47.cell? ⟨gb127, 0, none⟩ = some (.int .i64 0) := (blk_cell BK127.out 0).trans rfl; have hcz48_1 : w47.cell? ⟨gb127, 1, none⟩ = some (.string (⟨#[]⟩ : ByteArray)) := (blk_cell BK127.out 1).trans rfl; have hcz48_2 : w47.cell? ⟨gb127, 2, none⟩ = some (.int .i64 0) := (blk_cell BK127.out 2).trans rfl; have hcz48_3 : w47.cell? ⟨gb127, 3, none⟩ = some (.int .i64 0) := (blk_cell BK127.out 3).trans rfl; have hfz48_0 := blk_frozen BK127.out 0; have hfz48_1 := blk_frozen BK127.out 1; have hfz48_2 := blk_frozen BK127.out 2; have hfz48_3 := blk_frozen BK127.out 3))
                            (try simp only [Act.put, List.setIfInBounds_toArray, List.set_cons_zero, List.set_cons_succ])
                            go_cut [129] (fun v129 wc => ∃ (kq : Nat) (x129_45 : Bool), v129 = .bool x129_45 ∧ Aside0 (laws_FnTokensStand.j3 kq x4_3 t123 t123 (t123.length : Int) x86_3 x129_45 ((rd_T56 t123 x86_3).f0) ((rd_T56 t123 x86_3).f1) ((rd_T56 t123 x86_3).f2) ((rd_T56 t123 x86_3).f3) = some r) ∧ Aside0 (kq ≤ k3) ∧ Aside0 (Kd.R k56 56 wc w.heap.size (fun k_ => k_ ≠ gb127) (.slice (some ad126) t123.length co42) t123) ∧ Aside0 (Kd.R k56 56 wc w.heap.size (fun k_ => k_ ≠ gb127) (.slice (some ad126) t123.length co42) t123) ∧ Aside0 (wc.heap[gb127]? = some (.cells #[.int .i64 ((rd_T56 t123 x86_3).f0), .string ((rd_T56 t123 x86_3).f1), .int .i64 ((rd_T56 t123 x86_3).f2), .int .i64 ((rd_T56 t123 x86_3).f3)] 56 (0, 0))) ∧ Aside0 (Below w.heap.size w wc))
                            case first =>
                              have H := HC46.out
                              clear HC46
                              by_cases c49 : ((((rd_T56 t123 x86_3).f0) == 0) != (x86_3 == (wrap64 ((t123.length : Int) - 1)))) = true
                              · rw [if_pos c49] at H
                                have c49b0 : ((((rd_T56 t123 x86_3).f0) == 0) != (x86_3 == (wrap64 ((t123.length : Int) - 1)))) = true := c49
                                (try (have c49b1 : decide ((((rd_T56 t123 x86_3).f0) == 0) = (x86_3 == (wrap64 ((t123.length : Int) - 1)))) = false := by simpa using c49))
                                (try (have c49b2 : ((((rd_T56 t123 x86_3).f0) == 0) == (x86_3 == (wrap64 ((t123.length : Int) - 1)))) = false := by simpa using c49))
                                (try (have c49b3 : ¬ ((((rd_T56 t123 x86_3).f0) == 0) = (x86_3 == (wrap64 ((t123.length : Int) - 1)))) := by simpa using c49))
                                obtain ⟨bq49, hbq49⟩ : ∃ b_, (x86_3 == (wrap64 ((t123.length : Int) - 1))) = b_ := ⟨_, rfl⟩
                                rw [hbq49] at c49b0
                                try rw [hbq49] at c49b1
                                try rw [hbq49] at c49b2
                                try rw [hbq49] at c49b3
                                clear c49
                                (first | rw [c49b0] | (simp only [i64_w, i32_w]; rw [c49b0]) | skip)
                                have H' := Aside0.mk H
                                clear H
                                have hcz50_0 : w47.cell? ⟨gb127, 0, none⟩ = some (.int .i64 0) := (blk_cell BK127.out 0).trans rfl
                                have hcz50_1 : w47.cell? ⟨gb127, 1, none⟩ = some (.string (⟨#[]⟩ : ByteArray)) := (blk_cell BK127.out 1).trans rfl
                                have hcz50_2 : w47.cell? ⟨gb127, 2, none⟩ = some (.int .i64 0) := (blk_cell BK127.out 2).trans rfl
                                have hcz50_3 : w47.cell? ⟨gb127, 3, none⟩ = some (.int .i64 0) := (blk_cell BK127.out 3).trans rfl
                                have hfz50_0 := blk_frozen BK127.out 0
                                have hfz50_1 := blk_frozen BK127.out 1
                                have hfz50_2 := blk_frozen BK127.out 2
                                have hfz50_3 := blk_frozen BK127.out 3
                                go_wp2
                                go_meet
                                case rel => exact ⟨_, (true), (by first | rfl | (simp; done) | (simp [*]; done) | (simp [Go.Proofs.YtipmmjbjgbfgjaaX.isEmpty_ne]; done)), H', ⟨by have := HJ3.out; have := HK2.out; have := HK3.out; first | omega | exact Nat.le_refl _⟩, ⟨by (with_reducible repeat (first | apply Kd.R_alloc | apply Kd.R_drewN | apply Kd.R_drew)); exact Kd.R_mono (Kd.R_far (p := ⟨gb127, 3, none⟩) (Kd.R_far (p := ⟨gb127, 2, none⟩) (Kd.R_far (p := ⟨gb127, 1, none⟩) (Kd.R_far (p := ⟨gb127, 0, none⟩) (Kd.R_mono HO_7.out (fun k_ hk => (⟨hk, hk.2⟩ : _ ∧ k_ ≠ gb127))) (fun _ hk => hk.2) (.int .i64 ((rd_T56 t123 x86_3).f0))) (fun _ hk => hk.2) (.string ((rd_T56 t123 x86_3).f1))) (fun _ hk => hk.2) (.int .i64 ((rd_T56 t123 x86_3).f2))) (fun _ hk => hk.2) (.int .i64 ((rd_T56 t123 x86_3).f3))) (fun _ hk => hk.1.2)⟩, ⟨by (with_reducible repeat (first | apply Kd.R_alloc | apply Kd.R_drewN | apply Kd.R_drew)); exact Kd.R_mono (Kd.R_far (p := ⟨gb127, 3, none⟩) (Kd.R_far (p := ⟨gb127, 2, none⟩) (Kd.R_far (p := ⟨gb127, 1, none⟩) (Kd.R_far (p := ⟨gb127, 0, none⟩) (Kd.R_mono HO_84.out (fun k_ hk => (⟨hk, hk.2⟩ : _ ∧ k_ ≠ gb127))) (fun _ hk => hk.2) (.int .i64 ((rd_T56 t123 x86_3).f0))) (fun _ hk => hk.2) (.string ((rd_T56 t123 x86_3).f1))) (fun _ hk => hk.2) (.int .i64 ((rd_T56 t123 x86_3).f2))) (fun _ hk => hk.2) (.int .i64 ((rd_T56 t123 x86_3).f3))) (fun _ hk => hk.1.2)⟩, ⟨by (with_reducible repeat (first | refine blk_drewN ?_ _ | refine blk_drew ?_ | refine blk_alloc ?_ _)); refine blk_put (cs := #[.int .i64 ((rd_T56 t123 x86_3).f0), .string ((rd_T56 t123 x86_3).f1), .int .i64 ((rd_T56 t123 x86_3).f2), .int .i64 0]) ?_ 3 _ rfl; (with_reducible repeat (first | refine blk_drewN ?_ _ | refine blk_drew ?_ | refine blk_alloc ?_ _)); refine blk_put (cs := #[.int .i64 ((rd_T56 t123 x86_3).f0), .string ((rd_T56 t123 x86_3).f1), .int .i64 0, .int .i64 0]) ?_ 2 _ rfl; (with_reducible repeat (first | refine blk_drewN ?_ _ | refine blk_drew ?_ | refine blk_alloc ?_ _)); refine blk_put (cs := #[.int .i64 ((rd_T56 t123 x86_3).f0), .string (⟨#[]⟩ : ByteArray), .int .i64 0, .int .i64 0]) ?_ 1 _ rfl; (with_reducible repeat (first | refine blk_drewN ?_ _ | refine blk_drew ?_ | refine blk_alloc ?_ _)); refine blk_put (cs := #[.int .i64 0, .string (⟨#[]⟩ : ByteArray), .int .i64 0, .int .i64 0]) ?_ 0 _ rfl; (with_reducible repeat (first | refine blk_drewN ?_ _ | refine blk_drew ?_ | refine blk_alloc ?_ _)); exact BK127.out⟩, ⟨by repeat (first | (with_reducible first | exact HB.out | apply below_alloc | apply pw_below_drewN | apply below_drew1 | refine below_set ?_ GE127.out) | exact HB.out)⟩⟩
                              · rw [if_neg c49] at H
                                have c49b0 : ((((rd_T56 t123 x86_3).f0) == 0) != (x86_3 == (wrap64 ((t123.length : Int) - 1)))) = false := by simpa using c49
                                (try (have c49b1 : decide ((((rd_T56 t123 x86_3).f0) == 0) = (x86_3 == (wrap64 ((t123.length : Int) - 1)))) = true := by simpa using c49))
                                (try (have c49b2 : ((((rd_T56 t123 x86_3).f0) == 0) == (x86_3 == (wrap64 ((t123.length : Int) - 1)))) = true := by simpa using c49))
                                obtain ⟨bq49, hbq49⟩ : ∃ b_, (x86_3 == (wrap64 ((t123.length : Int) - 1))) = b_ := ⟨_, rfl⟩
                                rw [hbq49] at c49b0
                                try rw [hbq49] at c49b1
                                try rw [hbq49] at c49b2
                                try rw [hbq49] at c49b3
                                clear c49
                                (first | rw [c49b0] | (simp only [i64_w, i32_w]; rw [c49b0]) | skip)
                                by_cases c51 : ((rd_T56 t123 x86_3).f0) = 0
                                · rw [if_pos c51] at H
                                  have c51b0 : (((rd_T56 t123 x86_3).f0) == 0) = true := beq_iff_eq.mpr c51
                                  try (have hqbq49 : bq49 = true := by rw [c51b0] at c49b0; revert c49b0; cases bq49 <;> simp)
                                  have c51b1 : (((rd_T56 t123 x86_3).f0) != 0) = false := bne_eq_false_iff_eq.mpr c51
                                  clear c51
                                  by_cases c52 : (((rd_T56 t123 x86_3).f1).size : Int) > 1
                                  · rw [if_pos c52] at H
                                    have c52b0 : decide (1 < (((rd_T56 t123 x86_3).f1).size : Int)) = true := decide_eq_true c52
                                    have c52b1 : decide (1 < ((rd_T56 t123 x86_3).f1).size) = true := decide_eq_true (by omega)
                                    clear c52
                                    have H' := Aside0.mk H
                                    clear H
                                    have hcz53_0 : w47.cell? ⟨gb127, 0, none⟩ = some (.int .i64 0) := (blk_cell BK127.out 0).trans rfl
                                    have hcz53_1 : w47.cell? ⟨gb127, 1, none⟩ = some (.string (⟨#[]⟩ : ByteArray)) := (blk_cell BK127.out 1).trans rfl
                                    have hcz53_2 : w47.cell? ⟨gb127, 2, none⟩ = some (.int .i64 0) := (blk_cell BK127.out 2).trans rfl
                                    have hcz53_3 : w47.cell? ⟨gb127, 3, none⟩ = some (.int .i64 0) := (blk_cell BK127.out 3).trans rfl
                                    have hfz53_0 := blk_frozen BK127.out 0
                                    have hfz53_1 := blk_frozen BK127.out 1
                                    have hfz53_2 := blk_frozen BK127.out 2
                                    have hfz53_3 := blk_frozen BK127.out 3
                                    go_wp2
                                    go_meet
                                    case rel => exact ⟨_, (decide (((rd_T56 t123 x86_3).f3) ≤ ((rd_T56 t123 x86_3).f2))), (by first | rfl | (simp; done) | (simp [*]; done) | (simp [Go.Proofs.YtipmmjbjgbfgjaaX.isEmpty_ne]; done)), H', ⟨by have := HJ3.out; have := HK2.out; have := HK3.out; first | omega | exact Nat.le_refl _⟩, ⟨by (with_reducible repeat (first | apply Kd.R_alloc | apply Kd.R_drewN | apply Kd.R_drew)); exact Kd.R_mono (Kd.R_far (p := ⟨gb127, 3, none⟩) (Kd.R_far (p := ⟨gb127, 2, none⟩) (Kd.R_far (p := ⟨gb127, 1, none⟩) (Kd.R_far (p := ⟨gb127, 0, none⟩) (Kd.R_mono HO_7.out (fun k_ hk => (⟨hk, hk.2⟩ : _ ∧ k_ ≠ gb127))) (fun _ hk => hk.2) (.int .i64 ((rd_T56 t123 x86_3).f0))) (fun _ hk => hk.2) (.string ((rd_T56 t123 x86_3).f1))) (fun _ hk => hk.2) (.int .i64 ((rd_T56 t123 x86_3).f2))) (fun _ hk => hk.2) (.int .i64 ((rd_T56 t123 x86_3).f3))) (fun _ hk => hk.1.2)⟩, ⟨by (with_reducible repeat (first | apply Kd.R_alloc | apply Kd.R_drewN | apply Kd.R_drew)); exact Kd.R_mono (Kd.R_far (p := ⟨gb127, 3, none⟩) (Kd.R_far (p := ⟨gb127, 2, none⟩) (Kd.R_far (p := ⟨gb127, 1, none⟩) (Kd.R_far (p := ⟨gb127, 0, none⟩) (Kd.R_mono HO_84.out (fun k_ hk => (⟨hk, hk.2⟩ : _ ∧ k_ ≠ gb127))) (fun _ hk => hk.2) (.int .i64 ((rd_T56 t123 x86_3).f0))) (fun _ hk => hk.2) (.string ((rd_T56 t123 x86_3).f1))) (fun _ hk => hk.2) (.int .i64 ((rd_T56 t123 x86_3).f2))) (fun _ hk => hk.2) (.int .i64 ((rd_T56 t123 x86_3).f3))) (fun _ hk => hk.1.2)⟩, ⟨by (with_reducible repeat (first | refine blk_drewN ?_ _ | refine blk_drew ?_ | refine blk_alloc ?_ _)); refine blk_put (cs := #[.int .i64 ((rd_T56 t123 x86_3).f0), .string ((rd_T56 t123 x86_3).f1), .int .i64 ((rd_T56 t123 x86_3).f2), .int .i64 0]) ?_ 3 _ rfl; (with_reducible repeat (first | refine blk_drewN ?_ _ | refine blk_drew ?_ | refine blk_alloc ?_ _)); refine blk_put (cs := #[.int .i64 ((rd_T56 t123 x86_3).f0), .string ((rd_T56 t123 x86_3).f1), .int .i64 0, .int .i64 0]) ?_ 2 _ rfl; (with_reducible repeat (first | refine blk_drewN ?_ _ | refine blk_drew ?_ | refine blk_alloc ?_ _)); refine blk_put (cs := #[.int .i64 ((rd_T56 t123 x86_3).f0), .string (⟨#[]⟩ : ByteArray), .int .i64 0, .int .i64 0]) ?_ 1 _ rfl; (with_reducible repeat (first | refine blk_drewN ?_ _ | refine blk_drew ?_ | refine blk_alloc ?_ _)); refine blk_put (cs := #[.int .i64 0, .string (⟨#[]⟩ : ByteArray), .int .i64 0, .int .i64 0]) ?_ 0 _ rfl; (with_reducible repeat (first | refine blk_drewN ?_ _ | refine blk_drew ?_ | refine blk_alloc ?_ _)); exact BK127.out⟩, ⟨by repeat (first | (with_reducible first | exact HB.out | apply below_alloc | apply pw_below_drewN | apply below_drew1 | refine below_set ?_ GE127.out) | exact HB.out)⟩⟩
                                  · rw [if_neg c52] at H
                                    have c52b0 : decide (1 < (((rd_T56 t123 x86_3).f1).size : Int)) = false := decide_eq_false c52
                                    have c52b1 : decide (1 < ((rd_T56 t123 x86_3).f1).size) = false := decide_eq_false (by omega)
                                    clear c52
                                    have H' := Aside0.mk H
                                    clear H
                                    have hcz54_0 : w47.cell? ⟨gb127, 0, none⟩ = some (.int .i64 0) := (blk_cell BK127.out 0).trans rfl
                                    have hcz54_1 : w47.cell? ⟨gb127, 1, none⟩ = some (.string (⟨#[]⟩ : ByteArray)) := (blk_cell BK127.out 1).trans rfl
                                    have hcz54_2 : w47.cell? ⟨gb127, 2, none⟩ = some (.int .i64 0) := (blk_cell BK127.out 2).trans rfl
                                    have hcz54_3 : w47.cell? ⟨gb127, 3, none⟩ = some (.int .i64 0) := (blk_cell BK127.out 3).trans rfl
                                    have hfz54_0 := blk_frozen BK127.out 0
                                    have hfz54_1 := blk_frozen BK127.out 1
                                    have hfz54_2 := blk_frozen BK127.out 2
                                    have hfz54_3 := blk_frozen BK127.out 3
                                    go_wp2
                                    go_meet
                                    case rel => exact ⟨_, (false), (by first | rfl | (simp; done) | (simp [*]; done) | (simp [Go.Proofs.YtipmmjbjgbfgjaaX.isEmpty_ne]; done)), H', ⟨by have := HJ3.out; have := HK2.out; have := HK3.out; first | omega | exact Nat.le_refl _⟩, ⟨by (with_reducible repeat (first | apply Kd.R_alloc | apply Kd.R_drewN | apply Kd.R_drew)); exact Kd.R_mono (Kd.R_far (p := ⟨gb127, 3, none⟩) (Kd.R_far (p := ⟨gb127, 2, none⟩) (Kd.R_far (p := ⟨gb127, 1, none⟩) (Kd.R_far (p := ⟨gb127, 0, none⟩) (Kd.R_mono HO_7.out (fun k_ hk => (⟨hk, hk.2⟩ : _ ∧ k_ ≠ gb127))) (fun _ hk => hk.2) (.int .i64 ((rd_T56 t123 x86_3).f0))) (fun _ hk => hk.2) (.string ((rd_T56 t123 x86_3).f1))) (fun _ hk => hk.2) (.int .i64 ((rd_T56 t123 x86_3).f2))) (fun _ hk => hk.2) (.int .i64 ((rd_T56 t123 x86_3).f3))) (fun _ hk => hk.1.2)⟩, ⟨by (with_reducible repeat (first | apply Kd.R_alloc | apply Kd.R_drewN | apply Kd.R_drew)); exact Kd.R_mono (Kd.R_far (p := ⟨gb127, 3, none⟩) (Kd.R_far (p := ⟨gb127, 2, none⟩) (Kd.R_far (p := ⟨gb127, 1, none⟩) (Kd.R_far (p := ⟨gb127, 0, none⟩) (Kd.R_mono HO_84.out (fun k_ hk => (⟨hk, hk.2⟩ : _ ∧ k_ ≠ gb127))) (fun _ hk => hk.2) (.int .i64 ((rd_T56 t123 x86_3).f0))) (fun _ hk => hk.2) (.string ((rd_T56 t123 x86_3).f1))) (fun _ hk => hk.2) (.int .i64 ((rd_T56 t123 x86_3).f2))) (fun _ hk => hk.2) (.int .i64 ((rd_T56 t123 x86_3).f3))) (fun _ hk => hk.1.2)⟩, ⟨by (with_reducible repeat (first | refine blk_drewN ?_ _ | refine blk_drew ?_ | refine blk_alloc ?_ _)); refine blk_put (cs := #[.int .i64 ((rd_T56 t123 x86_3).f0), .string ((rd_T56 t123 x86_3).f1), .int .i64 ((rd_T56 t123 x86_3).f2), .int .i64 0]) ?_ 3 _ rfl; (with_reducible repeat (first | refine blk_drewN ?_ _ | refine blk_drew ?_ | refine blk_alloc ?_ _)); refine blk_put (cs := #[.int .i64 ((rd_T56 t123 x86_3).f0), .string ((rd_T56 t123 x86_3).f1), .int .i64 0, .int .i64 0]) ?_ 2 _ rfl; (with_reducible repeat (first | refine blk_drewN ?_ _ | refine blk_drew ?_ | refine blk_alloc ?_ _)); refine blk_put (cs := #[.int .i64 ((rd_T56 t123 x86_3).f0), .string (⟨#[]⟩ : ByteArray), .int .i64 0, .int .i64 0]) ?_ 1 _ rfl; (with_reducible repeat (first | refine blk_drewN ?_ _ | refine blk_drew ?_ | refine blk_alloc ?_ _)); refine blk_put (cs := #[.int .i64 0, .string (⟨#[]⟩ : ByteArray), .int .i64 0, .int .i64 0]) ?_ 0 _ rfl; (with_reducible repeat (first | refine blk_drewN ?_ _ | refine blk_drew ?_ | refine blk_alloc ?_ _)); exact BK127.out⟩, ⟨by repeat (first | (with_reducible first | exact HB.out | apply below_alloc | apply pw_below_drewN | apply below_drew1 | refine below_set ?_ GE127.out) | exact HB.out)⟩⟩
                                · rw [if_neg c51] at H
                                  have c51b0 : (((rd_T56 t123 x86_3).f0) == 0) = false := beq_eq_false_iff_ne.mpr c51
                                  try (have hqbq49 : bq49 = false := by rw [c51b0] at c49b0; revert c49b0; cases bq49 <;> simp)
                                  have c51b1 : (((rd_T56 t123 x86_3).f0) != 0) = true := bne_iff_ne.mpr c51
                                  by_cases c55 : ((rd_T56 t123 x86_3).f1).toList = ([] : List UInt8)
                                  · rw [if_pos c55] at H
                                    have c55b0 : (((rd_T56 t123 x86_3).f1).toList == ([] : List UInt8)) = true := beq_iff_eq.mpr c55
                                    have c55b1 : (((rd_T56 t123 x86_3).f1).toList != ([] : List UInt8)) = false := bne_eq_false_iff_eq.mpr c55
                                    clear c55
                                    have H' := Aside0.mk H
                                    clear H
                                    have hcz56_0 : w47.cell? ⟨gb127, 0, none⟩ = some (.int .i64 0) := (blk_cell BK127.out 0).trans rfl
                                    have hcz56_1 : w47.cell? ⟨gb127, 1, none⟩ = some (.string (⟨#[]⟩ : ByteArray)) := (blk_cell BK127.out 1).trans rfl
                                    have hcz56_2 : w47.cell? ⟨gb127, 2, none⟩ = some (.int .i64 0) := (blk_cell BK127.out 2).trans rfl
                                    have hcz56_3 : w47.cell? ⟨gb127, 3, none⟩ = some (.int .i64 0) := (blk_cell BK127.out 3).trans rfl
                                    have hfz56_0 := blk_frozen BK127.out 0
                                    have hfz56_1 := blk_frozen BK127.out 1
                                    have hfz56_2 := blk_frozen BK127.out 2
                                    have hfz56_3 := blk_frozen BK127.out 3
                                    go_wp2
                                    go_meet
                                    case rel => exact ⟨_, (true), (by first | rfl | (simp; done) | (simp [*]; done) | (simp [Go.Proofs.YtipmmjbjgbfgjaaX.isEmpty_ne]; done)), H', ⟨by have := HJ3.out; have := HK2.out; have := HK3.out; first | omega | exact Nat.le_refl _⟩, ⟨by (with_reducible repeat (first | apply Kd.R_alloc | apply Kd.R_drewN | apply Kd.R_drew)); exact Kd.R_mono (Kd.R_far (p := ⟨gb127, 3, none⟩) (Kd.R_far (p := ⟨gb127, 2, none⟩) (Kd.R_far (p := ⟨gb127, 1, none⟩) (Kd.R_far (p := ⟨gb127, 0, none⟩) (Kd.R_mono HO_7.out (fun k_ hk => (⟨hk, hk.2⟩ : _ ∧ k_ ≠ gb127))) (fun _ hk => hk.2) (.int .i64 ((rd_T56 t123 x86_3).f0))) (fun _ hk => hk.2) (.string ((rd_T56 t123 x86_3).f1))) (fun _ hk => hk.2) (.int .i64 ((rd_T56 t123 x86_3).f2))) (fun _ hk => hk.2) (.int .i64 ((rd_T56 t123 x86_3).f3))) (fun _ hk => hk.1.2)⟩, ⟨by (with_reducible repeat (first | apply Kd.R_alloc | apply Kd.R_drewN | apply Kd.R_drew)); exact Kd.R_mono (Kd.R_far (p := ⟨gb127, 3, none⟩) (Kd.R_far (p := ⟨gb127, 2, none⟩) (Kd.R_far (p := ⟨gb127, 1, none⟩) (Kd.R_far (p := ⟨gb127, 0, none⟩) (Kd.R_mono HO_84.out (fun k_ hk => (⟨hk, hk.2⟩ : _ ∧ k_ ≠ gb127))) (fun _ hk => hk.2) (.int .i64 ((rd_T56 t123 x86_3).f0))) (fun _ hk => hk.2) (.string ((rd_T56 t123 x86_3).f1))) (fun _ hk => hk.2) (.int .i64 ((rd_T56 t123 x86_3).f2))) (fun _ hk => hk.2) (.int .i64 ((rd_T56 t123 x86_3).f3))) (fun _ hk => hk.1.2)⟩, ⟨by (with_reducible repeat (first | refine blk_drewN ?_ _ | refine blk_drew ?_ | refine blk_alloc ?_ _)); refine blk_put (cs := #[.int .i64 ((rd_T56 t123 x86_3).f0), .string ((rd_T56 t123 x86_3).f1), .int .i64 ((rd_T56 t123 x86_3).f2), .int .i64 0]) ?_ 3 _ rfl; (with_reducible repeat (first | refine blk_drewN ?_ _ | refine blk_drew ?_ | refine blk_alloc ?_ _)); refine blk_put (cs := #[.int .i64 ((rd_T56 t123 x86_3).f0), .string ((rd_T56 t123 x86_3).f1), .int .i64 0, .int .i64 0]) ?_ 2 _ rfl; (with_reducible repeat (first | refine blk_drewN ?_ _ | refine blk_drew ?_ | refine blk_alloc ?_ _)); refine blk_put (cs := #[.int .i64 ((rd_T56 t123 x86_3).f0), .string (⟨#[]⟩ : ByteArray), .int .i64 0, .int .i64 0]) ?_ 1 _ rfl; (with_reducible repeat (first | refine blk_drewN ?_ _ | refine blk_drew ?_ | refine blk_alloc ?_ _)); refine blk_put (cs := #[.int .i64 0, .string (⟨#[]⟩ : ByteArray), .int .i64 0, .int .i64 0]) ?_ 0 _ rfl; (with_reducible repeat (first | refine blk_drewN ?_ _ | refine blk_drew ?_ | refine blk_alloc ?_ _)); exact BK127.out⟩, ⟨by repeat (first | (with_reducible first | exact HB.out | apply below_alloc | apply pw_below_drewN | apply below_drew1 | refine below_set ?_ GE127.out) | exact HB.out)⟩⟩
                                  · rw [if_neg c55] at H
                                    have c55b0 : (((rd_T56 t123 x86_3).f1).toList == ([] : List UInt8)) = false := beq_eq_false_iff_ne.mpr c55
                                    have c55b1 : (((rd_T56 t123 x86_3).f1).toList != ([] : List UInt8)) = true := bne_iff_ne.mpr c55
                                    replace H := Option.bind_eq_some_iff.mp H
                                    obtain ⟨t128, A570, H⟩ := H
                                    replace H : (if t128 = true then (if (((rd_T56 t123 x86_3).f1).size : Int) > 1 then (laws_FnTokensStand.j3 k3 x4_3 t123 t123 (t123.length : Int) x86_3 (decide (((rd_T56 t123 x86_3).f3) ≤ ((rd_T56 t123 x86_3).f2))) ((rd_T56 t123 x86_3).f0) ((rd_T56 t123 x86_3).f1) ((rd_T56 t123 x86_3).f2) ((rd_T56 t123 x86_3).f3)) else (laws_FnTokensStand.j3 k3 x4_3 t123 t123 (t123.length : Int) x86_3 false ((rd_T56 t123 x86_3).f0) ((rd_T56 t123 x86_3).f1) ((rd_T56 t123 x86_3).f2) ((rd_T56 t123 x86_3).f3))) else (laws_FnTokensStand.j3 k3 x4_3 t123 t123 (t123.length : Int) x86_3 true ((rd_T56 t123 x86_3).f0) ((rd_T56 t123 x86_3).f1) ((rd_T56 t123 x86_3).f2) ((rd_T56 t123 x86_3).f3))) = some r := H
                                    have A57 := Aside0.mk A570
                                    clear A570
                                    by_cases c58 : t128 = true
                                    · subst c58
                                      have H1 : (if (((rd_T56 t123 x86_3).f1).size : Int) > 1 then (laws_FnTokensStand.j3 k3 x4_3 t123 t123 (t123.length : Int) x86_3 (decide (((rd_T56 t123 x86_3).f3) ≤ ((rd_T56 t123 x86_3).f2))) ((rd_T56 t123 x86_3).f0) ((rd_T56 t123 x86_3).f1) ((rd_T56 t123 x86_3).f2) ((rd_T56 t123 x86_3).f3)) else (laws_FnTokensStand.j3 k3 x4_3 t123 t123 (t123.length : Int) x86_3 false ((rd_T56 t123 x86_3).f0) ((rd_T56 t123 x86_3).f1) ((rd_T56 t123 x86_3).f2) ((rd_T56 t123 x86_3).f3))) = some r := by rw [if_pos rfl] at H; exact H
                                      clear H
                                      have H := H1
                                      clear H1
                                      by_cases c59 : (((rd_T56 t123 x86_3).f1).size : Int) > 1
                                      · rw [if_pos c59] at H
                                        have c59b0 : decide (1 < (((rd_T56 t123 x86_3).f1).size : Int)) = true := decide_eq_true c59
                                        have c59b1 : decide (1 < ((rd_T56 t123 x86_3).f1).size) = true := decide_eq_true (by omega)
                                        clear c59
                                        have H' := Aside0.mk H
                                        clear H
                                        have hcz60_0 : w47.cell? ⟨gb127, 0, none⟩ = some (.int .i64 0) := (blk_cell BK127.out 0).trans rfl
                                        have hcz60_1 : w47.cell? ⟨gb127, 1, none⟩ = some (.string (⟨#[]⟩ : ByteArray)) := (blk_cell BK127.out 1).trans rfl
                                        have hcz60_2 : w47.cell? ⟨gb127, 2, none⟩ = some (.int .i64 0) := (blk_cell BK127.out 2).trans rfl
                                        have hcz60_3 : w47.cell? ⟨gb127, 3, none⟩ = some (.int .i64 0) := (blk_cell BK127.out 3).trans rfl
                                        have hfz60_0 := blk_frozen BK127.out 0
                                        have hfz60_1 := blk_frozen BK127.out 1
                                        have hfz60_2 := blk_frozen BK127.out 2
                                        have hfz60_3 := blk_frozen BK127.out 3
                                        go_wp2_with (first | (go_at_call 40; (with_reducible refine (laws_begins.calls x4_3 ((rd_T56 t123 x86_3).f1) true _ A57.out).mono ?_); rintro e w' ⟨rfl, ⟨nd, rfl⟩⟩))
                                        go_meet
                                        case rel => exact ⟨_, (decide (((rd_T56 t123 x86_3).f3) ≤ ((rd_T56 t123 x86_3).f2))), (by first | rfl | (simp; done) | (simp [*]; done) | (simp [Go.Proofs.YtipmmjbjgbfgjaaX.isEmpty_ne]; done)), H', ⟨by have := HJ3.out; have := HK2.out; have := HK3.out; first | omega | exact Nat.le_refl _⟩, ⟨by (with_reducible repeat (first | apply Kd.R_alloc | apply Kd.R_drewN | apply Kd.R_drew)); exact Kd.R_mono (Kd.R_far (p := ⟨gb127, 3, none⟩) (Kd.R_far (p := ⟨gb127, 2, none⟩) (Kd.R_far (p := ⟨gb127, 1, none⟩) (Kd.R_far (p := ⟨gb127, 0, none⟩) (Kd.R_mono HO_7.out (fun k_ hk => (⟨hk, hk.2⟩ : _ ∧ k_ ≠ gb127))) (fun _ hk => hk.2) (.int .i64 ((rd_T56 t123 x86_3).f0))) (fun _ hk => hk.2) (.string ((rd_T56 t123 x86_3).f1))) (fun _ hk => hk.2) (.int .i64 ((rd_T56 t123 x86_3).f2))) (fun _ hk => hk.2) (.int .i64 ((rd_T56 t123 x86_3).f3))) (fun _ hk => hk.1.2)⟩, ⟨by (with_reducible repeat (first | apply Kd.R_alloc | apply Kd.R_drewN | apply Kd.R_drew)); exact Kd.R_mono (Kd.R_far (p := ⟨gb127, 3, none⟩) (Kd.R_far (p := ⟨gb127, 2, none⟩) (Kd.R_far (p := ⟨gb127, 1, none⟩) (Kd.R_far (p := ⟨gb127, 0, none⟩) (Kd.R_mono HO_84.out (fun k_ hk => (⟨hk, hk.2⟩ : _ ∧ k_ ≠ gb127))) (fun _ hk => hk.2) (.int .i64 ((rd_T56 t123 x86_3).f0))) (fun _ hk => hk.2) (.string ((rd_T56 t123 x86_3).f1))) (fun _ hk => hk.2) (.int .i64 ((rd_T56 t123 x86_3).f2))) (fun _ hk => hk.2) (.int .i64 ((rd_T56 t123 x86_3).f3))) (fun _ hk => hk.1.2)⟩, ⟨by (with_reducible repeat (first | refine blk_drewN ?_ _ | refine blk_drew ?_ | refine blk_alloc ?_ _)); refine blk_put (cs := #[.int .i64 ((rd_T56 t123 x86_3).f0), .string ((rd_T56 t123 x86_3).f1), .int .i64 ((rd_T56 t123 x86_3).f2), .int .i64 0]) ?_ 3 _ rfl; (with_reducible repeat (first | refine blk_drewN ?_ _ | refine blk_drew ?_ | refine blk_alloc ?_ _)); refine blk_put (cs := #[.int .i64 ((rd_T56 t123 x86_3).f0), .string ((rd_T56 t123 x86_3).f1), .int .i64 0, .int .i64 0]) ?_ 2 _ rfl; (with_reducible repeat (first | refine blk_drewN ?_ _ | refine blk_drew ?_ | refine blk_alloc ?_ _)); refine blk_put (cs := #[.int .i64 ((rd_T56 t123 x86_3).f0), .string (⟨#[]⟩ : ByteArray), .int .i64 0, .int .i64 0]) ?_ 1 _ rfl; (with_reducible repeat (first | refine blk_drewN ?_ _ | refine blk_drew ?_ | refine blk_alloc ?_ _)); refine blk_put (cs := #[.int .i64 0, .string (⟨#[]⟩ : ByteArray), .int .i64 0, .int .i64 0]) ?_ 0 _ rfl; (with_reducible repeat (first | refine blk_drewN ?_ _ | refine blk_drew ?_ | refine blk_alloc ?_ _)); exact BK127.out⟩, ⟨by repeat (first | (with_reducible first | exact HB.out | apply below_alloc | apply pw_below_drewN | apply below_drew1 | refine below_set ?_ GE127.out) | exact HB.out)⟩⟩
                                      · rw [if_neg c59] at H
                                        have c59b0 : decide (1 < (((rd_T56 t123 x86_3).f1).size : Int)) = false := decide_eq_false c59
                                        have c59b1 : decide (1 < ((rd_T56 t123 x86_3).f1).size) = false := decide_eq_false (by omega)
                                        clear c59
                                        have H' := Aside0.mk H
                                        clear H
                                        have hcz61_0 : w47.cell? ⟨gb127, 0, none⟩ = some (.int .i64 0) := (blk_cell BK127.out 0).trans rfl
                                        have hcz61_1 : w47.cell? ⟨gb127, 1, none⟩ = some (.string (⟨#[]⟩ : ByteArray)) := (blk_cell BK127.out 1).trans rfl
                                        have hcz61_2 : w47.cell? ⟨gb127, 2, none⟩ = some (.int .i64 0) := (blk_cell BK127.out 2).trans rfl
                                        have hcz61_3 : w47.cell? ⟨gb127, 3, none⟩ = some (.int .i64 0) := (blk_cell BK127.out 3).trans rfl
                                        have hfz61_0 := blk_frozen BK127.out 0
                                        have hfz61_1 := blk_frozen BK127.out 1
                                        have hfz61_2 := blk_frozen BK127.out 2
                                        have hfz61_3 := blk_frozen BK127.out 3
                                        go_wp2_with (first | (go_at_call 40; (with_reducible refine (laws_begins.calls x4_3 ((rd_T56 t123 x86_3).f1) true _ A57.out).mono ?_); rintro e w' ⟨rfl, ⟨nd, rfl⟩⟩))
                                        go_meet
                                        case rel => exact ⟨_, (false), (by first | rfl | (simp; done) | (simp [*]; done) | (simp [Go.Proofs.YtipmmjbjgbfgjaaX.isEmpty_ne]; done)), H', ⟨by have := HJ3.out; have := HK2.out; have := HK3.out; first | omega | exact Nat.le_refl _⟩, ⟨by (with_reducible repeat (first | apply Kd.R_alloc | apply Kd.R_drewN | apply Kd.R_drew)); exact Kd.R_mono (Kd.R_far (p := ⟨gb127, 3, none⟩) (Kd.R_far (p := ⟨gb127, 2, none⟩) (Kd.R_far (p := ⟨gb127, 1, none⟩) (Kd.R_far (p := ⟨gb127, 0, none⟩) (Kd.R_mono HO_7.out (fun k_ hk => (⟨hk, hk.2⟩ : _ ∧ k_ ≠ gb127))) (fun _ hk => hk.2) (.int .i64 ((rd_T56 t123 x86_3).f0))) (fun _ hk => hk.2) (.string ((rd_T56 t123 x86_3).f1))) (fun _ hk => hk.2) (.int .i64 ((rd_T56 t123 x86_3).f2))) (fun _ hk => hk.2) (.int .i64 ((rd_T56 t123 x86_3).f3))) (fun _ hk => hk.1.2)⟩, ⟨by (with_reducible repeat (first | apply Kd.R_alloc | apply Kd.R_drewN | apply Kd.R_drew)); exact Kd.R_mono (Kd.R_far (p := ⟨gb127, 3, none⟩) (Kd.R_far (p := ⟨gb127, 2, none⟩) (Kd.R_far (p := ⟨gb127, 1, none⟩) (Kd.R_far (p := ⟨gb127, 0, none⟩) (Kd.R_mono HO_84.out (fun k_ hk => (⟨hk, hk.2⟩ : _ ∧ k_ ≠ gb127))) (fun _ hk => hk.2) (.int .i64 ((rd_T56 t123 x86_3).f0))) (fun _ hk => hk.2) (.string ((rd_T56 t123 x86_3).f1))) (fun _ hk => hk.2) (.int .i64 ((rd_T56 t123 x86_3).f2))) (fun _ hk => hk.2) (.int .i64 ((rd_T56 t123 x86_3).f3))) (fun _ hk => hk.1.2)⟩, ⟨by (with_reducible repeat (first | refine blk_drewN ?_ _ | refine blk_drew ?_ | refine blk_alloc ?_ _)); refine blk_put (cs := #[.int .i64 ((rd_T56 t123 x86_3).f0), .string ((rd_T56 t123 x86_3).f1), .int .i64 ((rd_T56 t123 x86_3).f2), .int .i64 0]) ?_ 3 _ rfl; (with_reducible repeat (first | refine blk_drewN ?_ _ | refine blk_drew ?_ | refine blk_alloc ?_ _)); refine blk_put (cs := #[.int .i64 ((rd_T56 t123 x86_3).f0), .string ((rd_T56 t123 x86_3).f1), .int .i64 0, .int .i64 0]) ?_ 2 _ rfl; (with_reducible repeat (first | refine blk_drewN ?_ _ | refine blk_drew ?_ | refine blk_alloc ?_ _)); refine blk_put (cs := #[.int .i64 ((rd_T56 t123 x86_3).f0), .string (⟨#[]⟩ : ByteArray), .int .i64 0, .int .i64 0]) ?_ 1 _ rfl; (with_reducible repeat (first | refine blk_drewN ?_ _ | refine blk_drew ?_ | refine blk_alloc ?_ _)); refine blk_put (cs := #[.int .i64 0, .string (⟨#[]⟩ : ByteArray), .int .i64 0, .int .i64 0]) ?_ 0 _ rfl; (with_reducible repeat (first | refine blk_drewN ?_ _ | refine blk_drew ?_ | refine blk_alloc ?_ _)); exact BK127.out⟩, ⟨by repeat (first | (with_reducible first | exact HB.out | apply below_alloc | apply pw_below_drewN | apply below_drew1 | refine below_set ?_ GE127.out) | exact HB.out)⟩⟩
                                    · replace c58 := Bool.eq_false_iff.mpr c58
                                      subst c58
                                      have H1 : (laws_FnTokensStand.j3 k3 x4_3 t123 t123 (t123.length : Int) x86_3 true ((rd_T56 t123 x86_3).f0) ((rd_T56 t123 x86_3).f1) ((rd_T56 t123 x86_3).f2) ((rd_T56 t123 x86_3).f3)) = some r := by rw [if_neg (show ¬ (false = true) by decide)] at H; exact H
                                      clear H
                                      have H := H1
                                      clear H1
                                      have H' := Aside0.mk H
                                      clear H
                                      have hcz62_0 : w47.cell? ⟨gb127, 0, none⟩ = some (.int .i64 0) := (blk_cell BK127.out 0).trans rfl
                                      have hcz62_1 : w47.cell? ⟨gb127, 1, none⟩ = some (.string (⟨#[]⟩ : ByteArray)) := (blk_cell BK127.out 1).trans rfl
                                      have hcz62_2 : w47.cell? ⟨gb127, 2, none⟩ = some (.int .i64 0) := (blk_cell BK127.out 2).trans rfl
                                      have hcz62_3 : w47.cell? ⟨gb127, 3, none⟩ = some (.int .i64 0) := (blk_cell BK127.out 3).trans rfl
                                      have hfz62_0 := blk_frozen BK127.out 0
                                      have hfz62_1 := blk_frozen BK127.out 1
                                      have hfz62_2 := blk_frozen BK127.out 2
                                      have hfz62_3 := blk_frozen BK127.out 3
                                      go_wp2_with (first | (go_at_call 40; (with_reducible refine (laws_begins.calls x4_3 ((rd_T56 t123 x86_3).f1) false _ A57.out).mono ?_); rintro e w' ⟨rfl, ⟨nd, rfl⟩⟩))
                                      go_meet
                                      case rel => exact ⟨_, (true), (by first | rfl | (simp; done) | (simp [*]; done) | (simp [Go.Proofs.YtipmmjbjgbfgjaaX.isEmpty_ne]; done)), H', ⟨by have := HJ3.out; have := HK2.out; have := HK3.out; first | omega | exact Nat.le_refl _⟩, ⟨by (with_reducible repeat (first | apply Kd.R_alloc | apply Kd.R_drewN | apply Kd.R_drew)); exact Kd.R_mono (Kd.R_far (p := ⟨gb127, 3, none⟩) (Kd.R_far (p := ⟨gb127, 2, none⟩) (Kd.R_far (p := ⟨gb127, 1, none⟩) (Kd.R_far (p := ⟨gb127, 0, none⟩) (Kd.R_mono HO_7.out (fun k_ hk => (⟨hk, hk.2⟩ : _ ∧ k_ ≠ gb127))) (fun _ hk => hk.2) (.int .i64 ((rd_T56 t123 x86_3).f0))) (fun _ hk => hk.2) (.string ((rd_T56 t123 x86_3).f1))) (fun _ hk => hk.2) (.int .i64 ((rd_T56 t123 x86_3).f2))) (fun _ hk => hk.2) (.int .i64 ((rd_T56 t123 x86_3).f3))) (fun _ hk => hk.1.2)⟩, ⟨by (with_reducible repeat (first | apply Kd.R_alloc | apply Kd.R_drewN | apply Kd.R_drew)); exact Kd.R_mono (Kd.R_far (p := ⟨gb127, 3, none⟩) (Kd.R_far (p := ⟨gb127, 2, none⟩) (Kd.R_far (p := ⟨gb127, 1, none⟩) (Kd.R_far (p := ⟨gb127, 0, none⟩) (Kd.R_mono HO_84.out (fun k_ hk => (⟨hk, hk.2⟩ : _ ∧ k_ ≠ gb127))) (fun _ hk => hk.2) (.int .i64 ((rd_T56 t123 x86_3).f0))) (fun _ hk => hk.2) (.string ((rd_T56 t123 x86_3).f1))) (fun _ hk => hk.2) (.int .i64 ((rd_T56 t123 x86_3).f2))) (fun _ hk => hk.2) (.int .i64 ((rd_T56 t123 x86_3).f3))) (fun _ hk => hk.1.2)⟩, ⟨by (with_reducible repeat (first | refine blk_drewN ?_ _ | refine blk_drew ?_ | refine blk_alloc ?_ _)); refine blk_put (cs := #[.int .i64 ((rd_T56 t123 x86_3).f0), .string ((rd_T56 t123 x86_3).f1), .int .i64 ((rd_T56 t123 x86_3).f2), .int .i64 0]) ?_ 3 _ rfl; (with_reducible repeat (first | refine blk_drewN ?_ _ | refine blk_drew ?_ | refine blk_alloc ?_ _)); refine blk_put (cs := #[.int .i64 ((rd_T56 t123 x86_3).f0), .string ((rd_T56 t123 x86_3).f1), .int .i64 0, .int .i64 0]) ?_ 2 _ rfl; (with_reducible repeat (first | refine blk_drewN ?_ _ | refine blk_drew ?_ | refine blk_alloc ?_ _)); refine blk_put (cs := #[.int .i64 ((rd_T56 t123 x86_3).f0), .string (⟨#[]⟩ : ByteArray), .int .i64 0, .int .i64 0]) ?_ 1 _ rfl; (with_reducible repeat (first | refine blk_drewN ?_ _ | refine blk_drew ?_ | refine blk_alloc ?_ _)); refine blk_put (cs := #[.int .i64 0, .string (⟨#[]⟩ : ByteArray), .int .i64 0, .int .i64 0]) ?_ 0 _ rfl; (with_reducible repeat (first | refine blk_drewN ?_ _ | refine blk_drew ?_ | refine blk_alloc ?_ _)); exact BK127.out⟩, ⟨by repeat (first | (with_reducible first | exact HB.out | apply below_alloc | apply pw_below_drewN | apply below_drew1 | refine below_set ?_ GE127.out) | exact HB.out)⟩⟩
                            case rest =>
                              clear HC46
                              try clear c1
                              try clear p1
                              try clear q1
                              try clear hx1
                              try clear qi1
                              try clear c2
                              try clear c2b0
                              try clear c2b1
                              try clear p2
                              try clear c3
                              try clear p3
                              try clear q3
                              try clear hx3
                              try clear c4
                              try clear c5
                              try clear c6
                              try clear c6b0
                              try clear c6b1
                              try clear p6
                              try clear c7
                              try clear c7b0
                              try clear c7b1
                              try clear c8
                              try clear c8b0
                              try clear c8b1
                              try clear c9
                              try clear c9b0
                              try clear c9b1
                              try clear c10
                              try clear c10b0
                              try clear c10b1
                              try clear c11
                              try clear c11b0
                              try clear c11b1
                              try clear p11
                              try clear q11
                              try clear hx11
                              try clear qi11
                              try clear c12
                              try clear c12b0
                              try clear c12b1
                              try clear p12
                              try clear q12
                              try clear hx12
                              try clear c13
                              try clear c13b0
                              try clear c13b1
                              try clear c14
                              try clear c14b0
                              try clear c14b1
                              try clear c21
                              try clear c23
                              try clear c27
                              try clear c27b0
                              try clear c28
                              try clear c28b0
                              try clear c28b1
                              try clear c29
                              try clear c29b0
                              try clear c29b1
                              try clear c30
                              try clear c30b0
                              try clear c30b1
                              try clear c31
                              try clear c31b0
                              try clear c31b1
                              try clear c33
                              try clear c34
                              try clear c34b0
                              try clear c34b1
                              try clear c34b2
                              try clear c35
                              try clear c35b0
                              try clear c36
                              try clear p36
                              try clear q36
                              try clear hx36
                              try clear c38
                              try clear c39
                              try clear c39b0
                              try clear c39b1
                              try clear c39b2
                              try clear c43
                              try clear c43b0
                              try clear c44
                              try clear c44b0
                              try clear c45
                              try clear c45b0
                              try clear c49
                              try clear c49b0
                              try clear c49b1
                              try clear c49b2
                              try clear c51
                              try clear c51b0
                              try clear c51b1
                              try clear c52
                              try clear c52b0
                              try clear c52b1
                              try clear c55
                              try clear c55b0
                              try clear c55b1
                              try clear c58
                              try clear c59
                              try clear c59b0
                              try clear c59b1
                              try clear hcz48_0
                              try clear hcz48_1
                              try clear hcz48_2
                              try clear hcz48_3
                              try clear hcz50_0
                              try clear hcz50_1
                              try clear hcz50_2
                              try clear hcz50_3
                              try clear hcz53_0
                              try clear hcz53_1
                              try clear hcz53_2
                              try clear hcz53_3
                              try clear hcz54_0
                              try clear hcz54_1
                              try clear hcz54_2
                              try clear hcz54_3
                              try clear hcz56_0
                              try clear hcz56_1
                              try clear hcz56_2
                              try clear hcz56_3
                              try clear hcz60_0
                              try clear hcz60_1
                              try clear hcz60_2
                              try clear hcz60_3
                              try clear hcz61_0
                              try clear hcz61_1
                              try clear hcz61_2
                              try clear hcz61_3
                              try clear hcz62_0
                              try clear hcz62_1
                              try clear hcz62_2
                              try clear hcz62_3
                              try clear hfz48_0
                              try clear hfz48_1
                              try clear hfz48_2
                              try clear hfz48_3
                              try clear hfz50_0
                              try clear hfz50_1
                              try clear hfz50_2
                              try clear hfz50_3
                              try clear hfz53_0
                              try clear hfz53_1
                              try clear hfz53_2
                              try clear hfz53_3
                              try clear hfz54_0
                              try clear hfz54_1
                              try clear hfz54_2
                              try clear hfz54_3
                              try clear hfz56_0
                              try clear hfz56_1
                              try clear hfz56_2
                              try clear hfz56_3
                              try clear hfz60_0
                              try clear hfz60_1
                              try clear hfz60_2
                              try clear hfz60_3
                              try clear hfz61_0
                              try clear hfz61_1
                              try clear hfz61_2
                              try clear hfz61_3
                              try clear hfz62_0
                              try clear hfz62_1
                              try clear hfz62_2
                              try clear hfz62_3
                              try clear hx112_0
                              try clear hx112_1
                              try clear hx112_2
                              try clear hx112_3
                              try clear hx113_0
                              try clear hx113_1
                              try clear hx113_2
                              try clear hx113_3
                              try clear hx114_0
                              try clear hx114_1
                              try clear hx114_2
                              try clear hx114_3
                              try clear hx115_0
                              try clear hx115_1
                              try clear hx115_2
                              try clear hx115_3
                              try clear hx116_0
                              try clear hx116_1
                              try clear hx116_2
                              try clear hx116_3
                              try clear hx126_0
                              try clear hx126_1
                              try clear hx126_2
                              try clear hx126_3
                              try clear p1
                              try clear p11
                              try clear p112
                              try clear p113
                              try clear p114
                              try clear p115
                              try clear p116
                              try clear p126
                              try clear p2
                              try clear p3
                              try clear p36
                              try clear p6
                              try clear q1
                              try clear q11
                              try clear q112
                              try clear q113
                              try clear q114
                              try clear q115
                              try clear q116
                              try clear q126
                              try clear q3
                              try clear q36
                              obtain ⟨kq, x129_45, rfl, HA, HJ45, HO_7, HO_84, BK127, HB⟩ := hcut
                              cases kq with
                              | zero => exact absurd HA.out (by simp [laws_FnTokensStand.j3])
                              | succ kj45 =>
                                have H := HA.out
                                clear HA
                                simp only [laws_FnTokensStand.j3] at H
                                by_cases c63 : x129_45 = true
                                · subst c63
                                  have H1 : (some false) = some r := by rw [if_pos rfl] at H; exact H
                                  clear H
                                  have H := H1
                                  clear H1
                                  obtain rfl := Option.some.inj H
                                  go_wp2
                                  go_ret
                                  exact ⟨by first | rfl | (simp [errW_none, errW_some] <;> rfl) | (simp [*, errW_none, errW_some] <;> rfl), by repeat (first | (with_reducible first | exact HB.out | apply below_alloc | apply pw_below_drewN | apply below_drew1 | refine below_set ?_ GE127.out) | exact HB.out)⟩
                                · replace c63 := Bool.eq_false_iff.mpr c63
                                  subst c63
                                  have H1 : (if ((rd_T56 t123 x86_3).f0) = 0 then (laws_FnTokensStand.l1 kj45 x4_3 t123 t123 (t123.length : Int) (wrap64 (x86_3 + 1))) else (if 0 ≤ (((rd_T56 t123 x86_3).f1).size : Int) then (if (((rd_T56 t123 x86_3).f1).size : Int) ≤ (x4_3.size : Int) then (laws_FnTokensStand.l1 kj45 (x4_3.extract ((((rd_T56 t123 x86_3).f1).size : Int) : Int).toNat x4_3.size) t123 t123 (t123.length : Int) (wrap64 (x86_3 + 1))) else (none)) else (none))) = some r := by rw [if_neg (show ¬ (false = true) by decide)] at H; exact H
                                  clear H
                                  have H := H1
                                  clear H1
                                  by_cases c64 : ((rd_T56 t123 x86_3).f0) = 0
                                  · rw [if_pos c64] at H
                                    have c64b0 : (((rd_T56 t123 x86_3).f0) == 0) = true := beq_iff_eq.mpr c64
                                    try (have hqbq49 : bq49 = true := by rw [c64b0] at c49b0; revert c49b0; cases bq49 <;> simp)
                                    have c64b1 : (((rd_T56 t123 x86_3).f0) != 0) = false := bne_eq_false_iff_eq.mpr c64
                                    clear c64
                                    have H' := Aside0.mk H
                                    clear H
                                    have hcz65_0 : wc.cell? ⟨gb127, 0, none⟩ = some (.int .i64 ((rd_T56 t123 x86_3).f0)) := (blk_cell BK127.out 0).trans rfl
                                    have hcz65_1 : wc.cell? ⟨gb127, 1, none⟩ = some (.string ((rd_T56 t123 x86_3).f1)) := (blk_cell BK127.out 1).trans rfl
                                    have hcz65_2 : wc.cell? ⟨gb127, 2, none⟩ = some (.int .i64 ((rd_T56 t123 x86_3).f2)) := (blk_cell BK127.out 2).trans rfl
                                    have hcz65_3 : wc.cell? ⟨gb127, 3, none⟩ = some (.int .i64 ((rd_T56 t123 x86_3).f3)) := (blk_cell BK127.out 3).trans rfl
                                    have hfz65_0 := blk_frozen BK127.out 0
                                    have hfz65_1 := blk_frozen BK127.out 1
                                    have hfz65_2 := blk_frozen BK127.out 2
                                    have hfz65_3 := blk_frozen BK127.out 3
                                    go_wp2
                                    go_roundg kj45
                                    case measure => have := HJ3.out; have := HK2.out; have := HK3.out; have := HJ45.out; omega
                                    case rel => exact ⟨(x4_3), (wrap64 (x86_3 + 1)), (by first | rfl | (simp; done) | (simp [*]; done) | (simp [Go.Proofs.YtipmmjbjgbfgjaaX.isEmpty_ne]; done)), (by first | rfl | (simp; done) | (simp [*]; done) | (simp [Go.Proofs.YtipmmjbjgbfgjaaX.isEmpty_ne]; done)), H', ⟨by have := HJ3.out; have := HK2.out; have := HK3.out; have := HJ45.out; omega⟩, ⟨by (with_reducible repeat (first | apply Kd.R_alloc | apply Kd.R_drewN | apply Kd.R_drew)); exact Kd.R_mono HO_7.out (fun _ hk => trivial)⟩, ⟨by (with_reducible repeat (first | apply Kd.R_alloc | apply Kd.R_drewN | apply Kd.R_drew)); exact Kd.R_mono HO_84.out (fun _ hk => trivial)⟩, ⟨by repeat (first | (with_reducible first | exact HB.out | apply below_alloc | apply pw_below_drewN | apply below_drew1 | refine below_set ?_ GE127.out) | exact HB.out)⟩⟩
                                  · rw [if_neg c64] at H
                                    have c64b0 : (((rd_T56 t123 x86_3).f0) == 0) = false := beq_eq_false_iff_ne.mpr c64
                                    try (have hqbq49 : bq49 = false := by rw [c64b0] at c49b0; revert c49b0; cases bq49 <;> simp)
                                    have c64b1 : (((rd_T56 t123 x86_3).f0) != 0) = true := bne_iff_ne.mpr c64
                                    by_cases c66 : 0 ≤ (((rd_T56 t123 x86_3).f1).size : Int)
                                    · rw [if_pos c66] at H
                                      have c66b0 := eq_true c66
                                      have c66b1 : decide (0 ≤ (((rd_T56 t123 x86_3).f1).size : Int)) = true := decide_eq_true c66
                                      clear c66
                                      by_cases c67 : (((rd_T56 t123 x86_3).f1).size : Int) ≤ (x4_3.size : Int)
                                      · rw [if_pos c67] at H
                                        have c67b0 := eq_true c67
                                        have c67b1 : decide ((((rd_T56 t123 x86_3).f1).size : Int) ≤ (x4_3.size : Int)) = true := decide_eq_true c67
                                        clear c67
                                        have H' := Aside0.mk H
                                        clear H
                                        have hcz68_0 : wc.cell? ⟨gb127, 0, none⟩ = some (.int .i64 ((rd_T56 t123 x86_3).f0)) := (blk_cell BK127.out 0).trans rfl
                                        have hcz68_1 : wc.cell? ⟨gb127, 1, none⟩ = some (.string ((rd_T56 t123 x86_3).f1)) := (blk_cell BK127.out 1).trans rfl
                                        have hcz68_2 : wc.cell? ⟨gb127, 2, none⟩ = some (.int .i64 ((rd_T56 t123 x86_3).f2)) := (blk_cell BK127.out 2).trans rfl
                                        have hcz68_3 : wc.cell? ⟨gb127, 3, none⟩ = some (.int .i64 ((rd_T56 t123 x86_3).f3)) := (blk_cell BK127.out 3).trans rfl
                                        have hfz68_0 := blk_frozen BK127.out 0
                                        have hfz68_1 := blk_frozen BK127.out 1
                                        have hfz68_2 := blk_frozen BK127.out 2
                                        have hfz68_3 := blk_frozen BK127.out 3
                                        go_wp2
                                        go_roundg kj45
                                        case measure => have := HJ3.out; have := HK2.out; have := HK3.out; have := HJ45.out; omega
                                        case rel => exact ⟨(x4_3.extract ((((rd_T56 t123 x86_3).f1).size : Int) : Int).toNat x4_3.size), (wrap64 (x86_3 + 1)), (by first | rfl | (simp; done) | (simp [*]; done) | (simp [Go.Proofs.YtipmmjbjgbfgjaaX.isEmpty_ne]; done)), (by first | rfl | (simp; done) | (simp [*]; done) | (simp [Go.Proofs.YtipmmjbjgbfgjaaX.isEmpty_ne]; done)), H', ⟨by have := HJ3.out; have := HK2.out; have := HK3.out; have := HJ45.out; omega⟩, ⟨by (with_reducible repeat (first | apply Kd.R_alloc | apply Kd.R_drewN | apply Kd.R_drew)); exact Kd.R_mono HO_7.out (fun _ hk => trivial)⟩, ⟨by (with_reducible repeat (first | apply Kd.R_alloc | apply Kd.R_drewN | apply Kd.R_drew)); exact Kd.R_mono HO_84.out (fun _ hk => trivial)⟩, ⟨by repeat (first | (with_reducible first | exact HB.out | apply below_alloc | apply pw_below_drewN | apply below_drew1 | refine below_set ?_ GE127.out) | exact HB.out)⟩⟩
                                      · rw [if_neg c67] at H
                                        exact absurd H (by simp)
                                    · rw [if_neg c66] at H
                                      exact absurd H (by simp)
                          · rw [if_neg c45] at H
                            exact absurd H (by simp)
                        · rw [if_neg c44] at H
                          exact absurd H (by simp)
                      · rw [if_neg c43] at H
                        have c43b0 : decide (x86_3 < (t123.length : Int)) = false := decide_eq_false c43
                        clear c43
                        by_cases c69 : (t123.length : Int) > 0
                        · rw [if_pos c69] at H
                          have c69b0 : decide (0 < (t123.length : Int)) = true := decide_eq_true c69
                          have c69b1 : decide (0 < t123.length) = true := decide_eq_true (by omega)
                          clear c69
                          obtain rfl := Option.some.inj H
                          go_wp2
                          go_ret
                          exact ⟨by first | rfl | (simp [errW_none, errW_some] <;> rfl) | (simp [*, errW_none, errW_some] <;> rfl), by repeat (first | (with_reducible first | exact HB.out | apply below_alloc | apply pw_below_drewN | apply below_drew1) | exact HB.out)⟩
                        · rw [if_neg c69] at H
                          have c69b0 : decide (0 < (t123.length : Int)) = false := decide_eq_false c69
                          have c69b1 : decide (0 < t123.length) = false := decide_eq_false (by omega)
                          clear c69
                          obtain rfl := Option.some.inj H
                          go_wp2
                          go_ret
                          exact ⟨by first | rfl | (simp [errW_none, errW_some] <;> rfl) | (simp [*, errW_none, errW_some] <;> rfl), by repeat (first | (with_reducible first | exact HB.out | apply below_alloc | apply pw_below_drewN | apply below_drew1) | exact HB.out)⟩
          · replace c23 := Bool.eq_false_iff.mpr c23
            subst c23
            have H1 : (some true) = some r := by rw [if_neg (show ¬ (false = true) by decide)] at H; exact H
            clear H
            have H := H1
            clear H1
            obtain rfl := Option.some.inj H
            go_wp2_with (first | ((with_reducible refine gate_dst (N := 53) rfl ?_); (try (refine gate_guard (by rfl) ?_; dsimp only)); refine Kd.R_lit Kd.string _ 9 ?hg (N := 53) ?hd (xs := ([a0] : List ByteArray)) (inner := [.string a0]) (ok := fun _ => True) (okp := fun _ => True) ?hr ?hp (fun _ hk => hk) trivial (Below.refl _ _) (Nat.le_refl _) (by simp) ?_; (case hd => rfl); (case hg => rfl); (case hr => first | (go_simp; done) | (go_simp; rfl)); (case hp => exact (Reps.one (show Kd.M Kd.string _ _ _ a0 [.string a0] from rfl) (Reps.none _ _))); intro v118 w70 ho71 hb hg_ hnew_; clear hg_ hnew_; (first | rw [← Ny117.out] at ho71 | (simp only [Int.reduceToNat] at ho71; rw [← Ny117.out] at ho71)); have n0_ := Aside0.mk (Kd.R_lower ho71 (below_size (by repeat (first | (with_reducible first | exact HB.out | apply below_alloc | apply pw_below_drewN | apply below_drew1) | exact HB.out)))); have n1_ := Aside0.mk (below_step (by repeat (first | (with_reducible first | exact HB.out | apply below_alloc | apply pw_below_drewN | apply below_drew1) | exact HB.out)) hb); clear HB; have HO119 := n0_; have HB := n1_; clear n0_ n1_; clear hb ho71; obtain ⟨Ao72, co72, eo72⟩ := Kd.R_slice HO119.out; subst eo72) | ((with_reducible refine gate_callee (f := 13) rfl ?_); refine goesL_ (some 54) rfl rfl Try.func13 (by kernel_rfl) rfl #[.slice Ao72 y117.length co72] rfl (by (try simp only [List.map_toArray, List.map_cons, List.map_nil]); first | done | rfl | (simp only [List.length_drop, List.length_take]; rfl)) ?_; (with_reducible refine (laws_short.calls kj3 _ _ y117 false _ ?side1 ?side2 A22.out).mono ?_); (case side1 => repeat (first | exact (Kd.R_reads' HO119.out).2.2 | (with_reducible refine Kd.C_alloc ?_ _) | (with_reducible refine Kd.C_drewN ?_ _) | (with_reducible refine Kd.C_drew ?_))); (case side2 => exact (Kd.R_reads' HO119.out).2.1); rintro e w' ⟨rfl, ⟨nd, rfl⟩⟩; refine ⟨_, rfl, ?_⟩))
            go_ret
            exact ⟨by first | rfl | (simp [errW_none, errW_some] <;> rfl) | (simp [*, errW_none, errW_some] <;> rfl), by repeat (first | (with_reducible first | exact HB.out | apply below_alloc | apply pw_below_drewN | apply below_drew1) | exact HB.out)⟩

/-- THE ONE PURE STATEMENT of laws_FnTokensStand: yours. -/
def laws_FnTokensStand.Pure : Prop := ∀ (a0 : ByteArray), a0.size ≤ 140737488351232 → ∃ k, laws_FnTokensStand.f k a0 = some true
theorem laws_FnTokensStand.walk (P : laws_FnTokensStand.Pure) (a0 : ByteArray) (w : World) (w0 : a0.size ≤ 140737488351232) :
    Calls Try.prog 10 #[.string a0] w fun e w' => e = .returned (.bool true) ∧ Below w.heap.size w w' := by
  obtain ⟨k, h⟩ := P a0 w0
  refine (laws_FnTokensStand.calls k a0 true w h).mono ?_
  rintro e w' ⟨rfl, hd⟩
  exact ⟨rfl, hd⟩

end Go.Proofs.Ytipmmjbjgbfgjaa.Q
