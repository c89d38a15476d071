import Derived.Test.YtipmmjbjgbfgjaaQ0
import Derived.Test.YtipmmjbjgbfgjaaQ1
import Derived.Test.YtipmmjbjgbfgjaaQ5
import Derived.Test.YtipmmjbjgbfgjaaQ8
import Derived.Test.YtipmmjbjgbfgjaaQ10
import Derived.Test.YtipmmjbjgbfgjaaQ13
-- Written by a program of this session out of the translation, with the kit's printer. Not trusted: Lean checks it.
namespace Go.Proofs.Ytipmmjbjgbfgjaa.Q
open Go.RowKit Go.Proofs.YtipmmjbjgbfgjaaW.PrintWords Go.Proofs.YtipmmjbjgbfgjaaW.PrintLast Go.Proofs.YtipmmjbjgbfgjaaW.PrintMore
attribute [local go_sem] max2_int min2_int max_two min_two max_three min_three max_four min_four   -- for this text's walks alone
set_option linter.unusedVariables false
set_option linter.unusedSimpArgs false

/-! ### laws_FnCookiesSay: function 8 -/
mutual
def laws_FnCookiesSay.j0 : Nat → ByteArray → List (S40) → Bool → Option (Bool)
  | 0, _, _, _ => none
  | k + 1, x0, x1, x17 => if x17 = true then (some true) else ((impl_RequestCookies.f (⟨#[97, 61, 98]⟩ : ByteArray)).bind fun t228 => (if (t228.length : Int) = 1 then (if 0 < (t228.length : Int) then (if ((rd_T40 t228 0).f0).toList = ([97] : List UInt8) then ((impl_CookiesText.f t228).bind fun t232 => (laws_FnCookiesSay.j1 k x0 x1 (t232.toList != ([97, 61, 98] : List UInt8)))) else (laws_FnCookiesSay.j1 k x0 x1 true)) else (none)) else (laws_FnCookiesSay.j1 k x0 x1 true)))
def laws_FnCookiesSay.j1 : Nat → ByteArray → List (S40) → Bool → Option (Bool)
  | 0, _, _, _ => none
  | k + 1, x0, x1, x33 => if x33 = true then (some false) else ((laws_short.f k (([x0] : List ByteArray))).bind fun t236 => (if t236 = true then ((laws_few.f k x1).bind fun t237 => (laws_FnCookiesSay.j2 k x0 x1 (!t237))) else (laws_FnCookiesSay.j2 k x0 x1 true)))
def laws_FnCookiesSay.j2 : Nat → ByteArray → List (S40) → Bool → Option (Bool)
  | 0, _, _, _ => none
  | k + 1, x0, x1, x42 => if x42 = true then (some true) else ((spec_RequestCookies.f k x0).bind fun bt238 => (if bt238.2 = 1 then ((impl_RequestCookies.f x0).bind fun t242 => ((laws_alikeArgs.f k t242 bt238.1).bind fun t245 => (laws_FnCookiesSay.j3 k x1 (!t245)))) else (laws_FnCookiesSay.j3 k x1 false)))
def laws_FnCookiesSay.j3 : Nat → List (S40) → Bool → Option (Bool)
  | 0, _, _ => none
  | k + 1, x1, x56 => if x56 = true then (some false) else ((laws_argsOf.f k x1).bind fun t246 => ((spec_CookiesText.f k t246).bind fun bt249 => (if bt249.2 = 1 then ((impl_CookiesText.f x1).bind fun t251 => (some (t251.toList == bt249.1.toList))) else (some true))))
end
def laws_FnCookiesSay.f (k : Nat) (a0 : ByteArray) (l1 : List (S40)) : Option (Bool) := if (a0.size : Int) > 2147483647 then (laws_FnCookiesSay.j0 k a0 l1 true) else ((laws_zzFits7.f k l1).bind fun t227 => (laws_FnCookiesSay.j0 k a0 l1 (!t227)))
theorem laws_FnCookiesSay.mono_l : ∀ k, (∀ y0 y1 y2, LeO (laws_FnCookiesSay.j0 k y0 y1 y2) (laws_FnCookiesSay.j0 (k + 1) y0 y1 y2)) ∧ (∀ y0 y1 y2, LeO (laws_FnCookiesSay.j1 k y0 y1 y2) (laws_FnCookiesSay.j1 (k + 1) y0 y1 y2)) ∧ (∀ y0 y1 y2, LeO (laws_FnCookiesSay.j2 k y0 y1 y2) (laws_FnCookiesSay.j2 (k + 1) y0 y1 y2)) ∧ (∀ y0 y1, LeO (laws_FnCookiesSay.j3 k y0 y1) (laws_FnCookiesSay.j3 (k + 1) y0 y1))
  | 0 => ⟨fun _ _ _ r h => by simp [laws_FnCookiesSay.j0] at h, fun _ _ _ r h => by simp [laws_FnCookiesSay.j1] at h, fun _ _ _ r h => by simp [laws_FnCookiesSay.j2] at h, fun _ _ r h => by simp [laws_FnCookiesSay.j3] at h⟩
  | k + 1 => by
    obtain ⟨ih0, ih1, ih2, ih3⟩ := laws_FnCookiesSay.mono_l k
    refine ⟨?_, ?_, ?_, ?_⟩
    · intro y0 y1 y2
      unfold laws_FnCookiesSay.j0
      repeat' first
      | (with_reducible exact ih0 _ _ _)
      | (with_reducible exact ih1 _ _ _)
      | (with_reducible exact ih2 _ _ _)
      | (with_reducible exact ih3 _ _)
      | (with_reducible exact laws_alikeArgs.mono _ _ _)
      | (with_reducible exact laws_argsOf.mono _ _)
      | (with_reducible exact laws_few.mono _ _)
      | (with_reducible exact laws_short.mono _ _)
      | (with_reducible exact laws_zzFits7.mono _ _)
      | (with_reducible exact spec_CookiesText.mono _ _)
      | (with_reducible exact spec_RequestCookies.mono _ _)
      | (with_reducible exact LeO.refl _)
      | (with_reducible exact LeO.none _)
      | (with_reducible refine LeO.ite ?_ ?_)
      | (with_reducible refine LeO.bind ?_ (fun _ => ?_))
      | exact ih0 _ _ _
      | exact ih1 _ _ _
      | exact ih2 _ _ _
      | exact ih3 _ _
      | exact laws_alikeArgs.mono _ _ _
      | exact laws_argsOf.mono _ _
      | exact laws_few.mono _ _
      | exact laws_short.mono _ _
      | exact laws_zzFits7.mono _ _
      | exact spec_CookiesText.mono _ _
      | exact spec_RequestCookies.mono _ _
      | exact LeO.none _
      | refine LeO.ite ?_ ?_
      | refine LeO.bind ?_ (fun _ => ?_)
    · intro y0 y1 y2
      unfold laws_FnCookiesSay.j1
      repeat' first
      | (with_reducible exact ih0 _ _ _)
      | (with_reducible exact ih1 _ _ _)
      | (with_reducible exact ih2 _ _ _)
      | (with_reducible exact ih3 _ _)
      | (with_reducible exact laws_alikeArgs.mono _ _ _)
      | (with_reducible exact laws_argsOf.mono _ _)
      | (with_reducible exact laws_few.mono _ _)
      | (with_reducible exact laws_short.mono _ _)
      | (with_reducible exact laws_zzFits7.mono _ _)
      | (with_reducible exact spec_CookiesText.mono _ _)
      | (with_reducible exact spec_RequestCookies.mono _ _)
      | (with_reducible exact LeO.refl _)
      | (with_reducible exact LeO.none _)
      | (with_reducible refine LeO.ite ?_ ?_)
      | (with_reducible refine LeO.bind ?_ (fun _ => ?_))
      | exact ih0 _ _ _
      | exact ih1 _ _ _
      | exact ih2 _ _ _
      | exact ih3 _ _
      | exact laws_alikeArgs.mono _ _ _
      | exact laws_argsOf.mono _ _
      | exact laws_few.mono _ _
      | exact laws_short.mono _ _
      | exact laws_zzFits7.mono _ _
      | exact spec_CookiesText.mono _ _
      | exact spec_RequestCookies.mono _ _
      | exact LeO.none _
      | refine LeO.ite ?_ ?_
      | refine LeO.bind ?_ (fun _ => ?_)
    · intro y0 y1 y2
      unfold laws_FnCookiesSay.j2
      repeat' first
      | (with_reducible exact ih0 _ _ _)
      | (with_reducible exact ih1 _ _ _)
      | (with_reducible exact ih2 _ _ _)
      | (with_reducible exact ih3 _ _)
      | (with_reducible exact laws_alikeArgs.mono _ _ _)
      | (with_reducible exact laws_argsOf.mono _ _)
      | (with_reducible exact laws_few.mono _ _)
      | (with_reducible exact laws_short.mono _ _)
      | (with_reducible exact laws_zzFits7.mono _ _)
      | (with_reducible exact spec_CookiesText.mono _ _)
      | (with_reducible exact spec_RequestCookies.mono _ _)
      | (with_reducible exact LeO.refl _)
      | (with_reducible exact LeO.none _)
      | (with_reducible refine LeO.ite ?_ ?_)
      | (with_reducible refine LeO.bind ?_ (fun _ => ?_))
      | exact ih0 _ _ _
      | exact ih1 _ _ _
      | exact ih2 _ _ _
      | exact ih3 _ _
      | exact laws_alikeArgs.mono _ _ _
      | exact laws_argsOf.mono _ _
      | exact laws_few.mono _ _
      | exact laws_short.mono _ _
      | exact laws_zzFits7.mono _ _
      | exact spec_CookiesText.mono _ _
      | exact spec_RequestCookies.mono _ _
      | exact LeO.none _
      | refine LeO.ite ?_ ?_
      | refine LeO.bind ?_ (fun _ => ?_)
    · intro y0 y1
      unfold laws_FnCookiesSay.j3
      repeat' first
      | (with_reducible exact ih0 _ _ _)
      | (with_reducible exact ih1 _ _ _)
      | (with_reducible exact ih2 _ _ _)
      | (with_reducible exact ih3 _ _)
      | (with_reducible exact laws_alikeArgs.mono _ _ _)
      | (with_reducible exact laws_argsOf.mono _ _)
      | (with_reducible exact laws_few.mono _ _)
      | (with_reducible exact laws_short.mono _ _)
      | (with_reducible exact laws_zzFits7.mono _ _)
      | (with_reducible exact spec_CookiesText.mono _ _)
      | (with_reducible exact spec_RequestCookies.mono _ _)
      | (with_reducible exact LeO.refl _)
      | (with_reducible exact LeO.none _)
      | (with_reducible refine LeO.ite ?_ ?_)
      | (with_reducible refine LeO.bind ?_ (fun _ => ?_))
      | exact ih0 _ _ _
      | exact ih1 _ _ _
      | exact ih2 _ _ _
      | exact ih3 _ _
      | exact laws_alikeArgs.mono _ _ _
      | exact laws_argsOf.mono _ _
      | exact laws_few.mono _ _
      | exact laws_short.mono _ _
      | exact laws_zzFits7.mono _ _
      | exact spec_CookiesText.mono _ _
      | exact spec_RequestCookies.mono _ _
      | exact LeO.none _
      | refine LeO.ite ?_ ?_
      | refine LeO.bind ?_ (fun _ => ?_)
theorem laws_FnCookiesSay.mono : ∀ a0 a1 k, LeO (laws_FnCookiesSay.f k a0 a1) (laws_FnCookiesSay.f (k + 1) a0 a1) := by
  intro a0 a1 k
  obtain ⟨ih0, ih1, ih2, ih3⟩ := laws_FnCookiesSay.mono_l k
  unfold laws_FnCookiesSay.f
  repeat' first
      | (with_reducible exact ih0 _ _ _)
      | (with_reducible exact ih1 _ _ _)
      | (with_reducible exact ih2 _ _ _)
      | (with_reducible exact ih3 _ _)
      | (with_reducible exact laws_alikeArgs.mono _ _ _)
      | (with_reducible exact laws_argsOf.mono _ _)
      | (with_reducible exact laws_few.mono _ _)
      | (with_reducible exact laws_short.mono _ _)
      | (with_reducible exact laws_zzFits7.mono _ _)
      | (with_reducible exact spec_CookiesText.mono _ _)
      | (with_reducible exact spec_RequestCookies.mono _ _)
      | (with_reducible exact LeO.refl _)
      | (with_reducible exact LeO.none _)
      | (with_reducible refine LeO.ite ?_ ?_)
      | (with_reducible refine LeO.bind ?_ (fun _ => ?_))
      | exact ih0 _ _ _
      | exact ih1 _ _ _
      | exact ih2 _ _ _
      | exact ih3 _ _
      | exact laws_alikeArgs.mono _ _ _
      | exact laws_argsOf.mono _ _
      | exact laws_few.mono _ _
      | exact laws_short.mono _ _
      | exact laws_zzFits7.mono _ _
      | exact spec_CookiesText.mono _ _
      | exact spec_RequestCookies.mono _ _
      | exact LeO.none _
      | refine LeO.ite ?_ ?_
      | refine LeO.bind ?_ (fun _ => ?_)
set_option maxHeartbeats 8000000 in
set_option maxRecDepth 100000 in
theorem laws_FnCookiesSay.calls (k : Nat) (a0 : ByteArray) (A1 : Option Addr) (c1 : Nat) (l1 : List (S40)) (r : Bool) (w : World) (hr1 : Kd.C k40 w A1 l1.length l1) (hc1 : l1.length ≤ c1) (h : laws_FnCookiesSay.f k a0 l1 = some r) :
    Calls Try.prog 8 #[.string a0, .slice A1 l1.length c1] w fun e w' => e = .returned (.bool r) ∧ Below w.heap.size w w' := by
  have HR1 := Aside0.mk hr1
  have HC1 := Aside0.mk hc1
  clear hr1 hc1
  have HB := Aside0.mk (Below.refl w.heap.size w)
  have H : (if (a0.size : Int) > 2147483647 then (laws_FnCookiesSay.j0 k a0 l1 true) else ((laws_zzFits7.f k l1).bind fun t227 => (laws_FnCookiesSay.j0 k a0 l1 (!t227)))) = some r := h
  clear h
  have HC3 := Aside0.mk H
  clear H
  go_enter Try.func8, Try.ntmps8
  go_upto_region 1 with (fail)
  go_cut [17] (fun v17 wc => ∃ (kq : Nat) (x17_2 : Bool), v17 = .bool x17_2 ∧ Aside0 (laws_FnCookiesSay.j0 kq a0 l1 x17_2 = some r) ∧ Aside0 (kq ≤ k) ∧ Aside0 (Below w.heap.size w wc))
  case first =>
    have H := HC3.out
    clear HC3
    by_cases c4 : (a0.size : Int) > 2147483647
    · rw [if_pos c4] at H
      have c4b0 : decide (2147483647 < (a0.size : Int)) = true := decide_eq_true c4
      have c4b1 : decide (2147483647 < a0.size) = true := decide_eq_true (by omega)
      clear c4
      (first | rw [c4b0] | (simp only [i64_w, i32_w]; rw [c4b0]) | (rw [Go.Proofs.YtipmmjbjgbfgjaaX.isEmpty_eq]; rw [c4b0]) | skip)
      have H' := Aside0.mk H
      clear H
      go_wp2
      go_meet
      case rel => exact ⟨_, (true), (by first | rfl | (simp; done) | (simp [*]; done) | (simp [Go.Proofs.YtipmmjbjgbfgjaaX.isEmpty_ne]; done)), H', ⟨by first | omega | exact Nat.le_refl _⟩, ⟨by repeat (first | (with_reducible first | exact HB.out | apply below_alloc | apply pw_below_drewN | apply below_drew1) | exact HB.out)⟩⟩
    · rw [if_neg c4] at H
      have c4b0 : decide (2147483647 < (a0.size : Int)) = false := decide_eq_false c4
      have c4b1 : decide (2147483647 < a0.size) = false := decide_eq_false (by omega)
      clear c4
      (first | rw [c4b0] | (simp only [i64_w, i32_w]; rw [c4b0]) | (rw [Go.Proofs.YtipmmjbjgbfgjaaX.isEmpty_eq]; rw [c4b0]) | skip)
      replace H := Option.bind_eq_some_iff.mp H
      obtain ⟨t227, A50, H⟩ := H
      replace H : (laws_FnCookiesSay.j0 k a0 l1 (!t227)) = some r := H
      have A5 := Aside0.mk A50
      clear A50
      have H' := Aside0.mk H
      clear H
      go_wp2_with (first | (go_at_call 27; (with_reducible refine (laws_zzFits7.calls k _ _ l1 t227 _ ?side1 ?side2 A5.out).mono ?_); (case side1 => repeat (first | exact (Kd.C_below HR1.out HB.out) | (with_reducible refine Kd.C_alloc ?_ _) | (with_reducible refine Kd.C_drewN ?_ _) | (with_reducible refine Kd.C_drew ?_))); (case side2 => exact HC1.out); rintro e w6 ⟨rfl, hb⟩; have n0_ := Aside0.mk (below_step (by repeat (first | (with_reducible first | exact HB.out | apply below_alloc | apply pw_below_drewN | apply below_drew1) | exact HB.out)) hb); clear HB; have HB := n0_; clear n0_; (try clear hb); (try clear hb2); (try clear hk); (try clear hi)))
      go_meet
      case rel => exact ⟨_, (!t227), (by first | rfl | (simp; done) | (simp [*]; done) | (simp [Go.Proofs.YtipmmjbjgbfgjaaX.isEmpty_ne]; done)), H', ⟨by first | omega | exact Nat.le_refl _⟩, ⟨by repeat (first | (with_reducible first | exact HB.out | apply below_alloc | apply pw_below_drewN | apply below_drew1) | exact HB.out)⟩⟩
  case rest =>
    clear HC3
    try clear c1
    try clear p2
    try clear c4
    try clear c4b0
    try clear c4b1
    obtain ⟨kq, x17_2, rfl, HA, HJ2, HB⟩ := hcut
    cases kq with
    | zero => exact absurd HA.out (by simp [laws_FnCookiesSay.j0])
    | succ kj2 =>
      have H := HA.out
      clear HA
      simp only [laws_FnCookiesSay.j0] at H
      by_cases c7 : x17_2 = true
      · subst c7
        have H1 : (some true) = some r := by rw [if_pos rfl] at H; exact H
        clear H
        have H := H1
        clear H1
        obtain rfl := Option.some.inj H
        go_wp2
        go_ret
        exact ⟨by first | rfl | (simp [errW_none, errW_some] <;> rfl) | (simp [*, errW_none, errW_some] <;> rfl), by repeat (first | (with_reducible first | exact HB.out | apply below_alloc | apply pw_below_drewN | apply below_drew1) | exact HB.out)⟩
      · replace c7 := Bool.eq_false_iff.mpr c7
        subst c7
        have H1 : ((impl_RequestCookies.f (⟨#[97, 61, 98]⟩ : ByteArray)).bind fun t228 => (if (t228.length : Int) = 1 then (if 0 < (t228.length : Int) then (if ((rd_T40 t228 0).f0).toList = ([97] : List UInt8) then ((impl_CookiesText.f t228).bind fun t232 => (laws_FnCookiesSay.j1 kj2 a0 l1 (t232.toList != ([97, 61, 98] : List UInt8)))) else (laws_FnCookiesSay.j1 kj2 a0 l1 true)) else (none)) else (laws_FnCookiesSay.j1 kj2 a0 l1 true))) = some r := by rw [if_neg (show ¬ (false = true) by decide)] at H; exact H
        clear H
        have H := H1
        clear H1
        replace H := Option.bind_eq_some_iff.mp H
        obtain ⟨t228, A80, H⟩ := H
        replace H : (if (t228.length : Int) = 1 then (if 0 < (t228.length : Int) then (if ((rd_T40 t228 0).f0).toList = ([97] : List UInt8) then ((impl_CookiesText.f t228).bind fun t232 => (laws_FnCookiesSay.j1 kj2 a0 l1 (t232.toList != ([97, 61, 98] : List UInt8)))) else (laws_FnCookiesSay.j1 kj2 a0 l1 true)) else (none)) else (laws_FnCookiesSay.j1 kj2 a0 l1 true)) = some r := H
        have A8 := Aside0.mk A80
        clear A80
        have HC9 := Aside0.mk H
        clear H
        go_upto_region 4 with (first | ((with_reducible refine gate_callee (f := 28) rfl ?_); refine goesL_ (some 18) rfl rfl Try.func28 (by kernel_rfl) rfl #[.string (⟨#[97, 61, 98]⟩ : ByteArray)] rfl (by (try simp only [List.map_toArray, List.map_cons, List.map_nil]); first | done | rfl | (simp only [List.length_drop, List.length_take]; rfl)) ?_; (with_reducible refine (impl_RequestCookies.calls (⟨#[97, 61, 98]⟩ : ByteArray) t228 _ A8.out).mono ?_); rintro e w10 ⟨v229, rfl, ho0, hb⟩; refine ⟨_, rfl, ?_⟩; have n0_ := Aside0.mk (Kd.R_lower ho0 (below_size (by repeat (first | (with_reducible first | exact HB.out | apply below_alloc | apply pw_below_drewN | apply below_drew1) | exact HB.out)))); have n1_ := Aside0.mk (below_step (by repeat (first | (with_reducible first | exact HB.out | apply below_alloc | apply pw_below_drewN | apply below_drew1) | exact HB.out)) hb); clear HB; have HO230 := n0_; have HB := n1_; clear n0_ n1_; (try clear hb); (try clear hb2); (try clear hk); (try clear hi); (try clear ho0)))
        (try simp only [Act.put, List.setIfInBounds_toArray, List.set_cons_zero, List.set_cons_succ])
        go_cut [33] (fun v33 wc => ∃ (kq : Nat) (x33_8 : Bool), v33 = .bool x33_8 ∧ Aside0 (laws_FnCookiesSay.j1 kq a0 l1 x33_8 = some r) ∧ Aside0 (kq ≤ kj2) ∧ Aside0 (Below w.heap.size w wc))
        case first =>
          have H := HC9.out
          clear HC9
          by_cases c11 : (t228.length : Int) = 1
          · rw [if_pos c11] at H
            have c11b0 : ((t228.length : Int) == 1) = true := beq_iff_eq.mpr c11
            have c11b1 : ((t228.length : Int) != 1) = false := bne_eq_false_iff_eq.mpr c11
            clear c11
            (first | rw [c11b0] | (simp only [i64_w, i32_w]; rw [c11b0]) | (rw [Go.Proofs.YtipmmjbjgbfgjaaX.isEmpty_eq]; rw [c11b0]) | skip)
            by_cases c12 : 0 < (t228.length : Int)
            · rw [if_pos c12] at H
              have c12b0 : decide (0 < (t228.length : Int)) = true := decide_eq_true c12
              have c12b1 : decide (0 < t228.length) = true := decide_eq_true (by omega)
              clear c12
              by_cases c13 : ((rd_T40 t228 0).f0).toList = ([97] : List UInt8)
              · rw [if_pos c13] at H
                have c13b0 : (((rd_T40 t228 0).f0).toList == ([97] : List UInt8)) = true := beq_iff_eq.mpr c13
                have c13b1 : (((rd_T40 t228 0).f0).toList != ([97] : List UInt8)) = false := bne_eq_false_iff_eq.mpr c13
                clear c13
                replace H := Option.bind_eq_some_iff.mp H
                obtain ⟨t232, A140, H⟩ := H
                replace H : (laws_FnCookiesSay.j1 kj2 a0 l1 (t232.toList != ([97, 61, 98] : List UInt8))) = some r := H
                have A14 := Aside0.mk A140
                clear A140
                have H' := Aside0.mk H
                clear H
                obtain ⟨Ao15, co15, eo15⟩ := Kd.R_slice HO230.out
                subst eo15
                have p231 : 0 ≤ (0 : Int) := (by omega)
                have q231 : 0 < (t228.length : Int) := of_decide_eq_true (by first | (with_reducible assumption) | assumption)
                obtain ⟨ad231, e231, hx231_0, hx231_1, hx231_2⟩ := at_T40 (Kd.R_reads' HO230.out).2.2 0 p231 q231
                cases e231
                have qi231 : (0 < t228.length) = True := eq_true (by omega)
                (try rw [show ((0 : Int)).toNat = 0 from rfl] at hx231_0)
                (try rw [show 0 * 3 = 0 from rfl] at hx231_0)
                (try rw [Addr.add_zero'] at hx231_0)
                (try rw [show ((0 : Int)).toNat = 0 from rfl] at hx231_1)
                (try rw [show 0 * 3 = 0 from rfl] at hx231_1)
                (try rw [Addr.add_zero'] at hx231_1)
                (try rw [show ((0 : Int)).toNat = 0 from rfl] at hx231_2)
                (try rw [show 0 * 3 = 0 from rfl] at hx231_2)
                (try rw [Addr.add_zero'] at hx231_2)
                replace p231 := eq_true p231
                replace q231 := eq_true q231
                go_wp2_with (first | (go_at_call 31; (with_reducible refine (impl_CookiesText.calls _ _ t228 t232 _ ?side1 ?side2 A14.out).mono ?_); (case side1 => repeat (first | exact (Kd.R_reads' HO230.out).2.2 | (with_reducible refine Kd.C_alloc ?_ _) | (with_reducible refine Kd.C_drewN ?_ _) | (with_reducible refine Kd.C_drew ?_))); (case side2 => exact (Kd.R_reads' HO230.out).2.1); rintro e w16 ⟨rfl, hb⟩; have n0_ := Aside0.mk (Kd.R_below (by (with_reducible repeat (first | apply Kd.R_alloc | apply Kd.R_drewN | apply Kd.R_drew)); exact HO230.out) hb); have n1_ := Aside0.mk (below_step (by repeat (first | (with_reducible first | exact HB.out | apply below_alloc | apply pw_below_drewN | apply below_drew1) | exact HB.out)) hb); clear HO230; clear HB; have HO230 := n0_; have HB := n1_; clear n0_ n1_; (try clear hb); (try clear hb2); (try clear hk); (try clear hi)))
                go_meet
                case rel => exact ⟨_, ((t232.toList != ([97, 61, 98] : List UInt8))), (by first | rfl | (simp; done) | (simp [*]; done) | (simp [Go.Proofs.YtipmmjbjgbfgjaaX.isEmpty_ne]; done)), H', ⟨by have := HJ2.out; first | omega | exact Nat.le_refl _⟩, ⟨by repeat (first | (with_reducible first | exact HB.out | apply below_alloc | apply pw_below_drewN | apply below_drew1) | exact HB.out)⟩⟩
              · rw [if_neg c13] at H
                have c13b0 : (((rd_T40 t228 0).f0).toList == ([97] : List UInt8)) = false := beq_eq_false_iff_ne.mpr c13
                have c13b1 : (((rd_T40 t228 0).f0).toList != ([97] : List UInt8)) = true := bne_iff_ne.mpr c13
                have H' := Aside0.mk H
                clear H
                obtain ⟨Ao17, co17, eo17⟩ := Kd.R_slice HO230.out
                subst eo17
                have p231 : 0 ≤ (0 : Int) := (by omega)
                have q231 : 0 < (t228.length : Int) := of_decide_eq_true (by first | (with_reducible assumption) | assumption)
                obtain ⟨ad231, e231, hx231_0, hx231_1, hx231_2⟩ := at_T40 (Kd.R_reads' HO230.out).2.2 0 p231 q231
                cases e231
                have qi231 : (0 < t228.length) = True := eq_true (by omega)
                (try rw [show ((0 : Int)).toNat = 0 from rfl] at hx231_0)
                (try rw [show 0 * 3 = 0 from rfl] at hx231_0)
                (try rw [Addr.add_zero'] at hx231_0)
                (try rw [show ((0 : Int)).toNat = 0 from rfl] at hx231_1)
                (try rw [show 0 * 3 = 0 from rfl] at hx231_1)
                (try rw [Addr.add_zero'] at hx231_1)
                (try rw [show ((0 : Int)).toNat = 0 from rfl] at hx231_2)
                (try rw [show 0 * 3 = 0 from rfl] at hx231_2)
                (try rw [Addr.add_zero'] at hx231_2)
                replace p231 := eq_true p231
                replace q231 := eq_true q231
                go_wp2
                go_meet
                case rel => exact ⟨_, (true), (by first | rfl | (simp; done) | (simp [*]; done) | (simp [Go.Proofs.YtipmmjbjgbfgjaaX.isEmpty_ne]; done)), H', ⟨by have := HJ2.out; first | omega | exact Nat.le_refl _⟩, ⟨by repeat (first | (with_reducible first | exact HB.out | apply below_alloc | apply pw_below_drewN | apply below_drew1) | exact HB.out)⟩⟩
            · rw [if_neg c12] at H
              exact absurd H (by simp)
          · rw [if_neg c11] at H
            have c11b0 : ((t228.length : Int) == 1) = false := beq_eq_false_iff_ne.mpr c11
            have c11b1 : ((t228.length : Int) != 1) = true := bne_iff_ne.mpr c11
            (first | rw [c11b0] | (simp only [i64_w, i32_w]; rw [c11b0]) | (rw [Go.Proofs.YtipmmjbjgbfgjaaX.isEmpty_eq]; rw [c11b0]) | skip)
            have H' := Aside0.mk H
            clear H
            obtain ⟨Ao18, co18, eo18⟩ := Kd.R_slice HO230.out
            subst eo18
            go_wp2
            go_meet
            case rel => exact ⟨_, (true), (by first | rfl | (simp; done) | (simp [*]; done) | (simp [Go.Proofs.YtipmmjbjgbfgjaaX.isEmpty_ne]; done)), H', ⟨by have := HJ2.out; first | omega | exact Nat.le_refl _⟩, ⟨by repeat (first | (with_reducible first | exact HB.out | apply below_alloc | apply pw_below_drewN | apply below_drew1) | exact HB.out)⟩⟩
        case rest =>
          clear HC9
          try clear c1
          try clear c2
          try clear p2
          try clear q2
          try clear hx2
          try clear qi2
          try clear c4
          try clear c4b0
          try clear c4b1
          try clear c7
          try clear c8
          try clear c11
          try clear c11b0
          try clear c11b1
          try clear c12
          try clear c12b0
          try clear c12b1
          try clear c13
          try clear c13b0
          try clear c13b1
          try clear hx231_0
          try clear hx231_1
          try clear hx231_2
          try clear p2
          try clear p231
          try clear q231
          obtain ⟨kq, x33_8, rfl, HA, HJ8, HB⟩ := hcut
          cases kq with
          | zero => exact absurd HA.out (by simp [laws_FnCookiesSay.j1])
          | succ kj8 =>
            have H := HA.out
            clear HA
            simp only [laws_FnCookiesSay.j1] at H
            by_cases c19 : x33_8 = true
            · subst c19
              have H1 : (some false) = some r := by rw [if_pos rfl] at H; exact H
              clear H
              have H := H1
              clear H1
              obtain rfl := Option.some.inj H
              go_wp2
              go_ret
              exact ⟨by first | rfl | (simp [errW_none, errW_some] <;> rfl) | (simp [*, errW_none, errW_some] <;> rfl), by repeat (first | (with_reducible first | exact HB.out | apply below_alloc | apply pw_below_drewN | apply below_drew1) | exact HB.out)⟩
            · replace c19 := Bool.eq_false_iff.mpr c19
              subst c19
              have H1 : ((laws_short.f kj8 (([a0] : List ByteArray))).bind fun t236 => (if t236 = true then ((laws_few.f kj8 l1).bind fun t237 => (laws_FnCookiesSay.j2 kj8 a0 l1 (!t237))) else (laws_FnCookiesSay.j2 kj8 a0 l1 true))) = some r := by rw [if_neg (show ¬ (false = true) by decide)] at H; exact H
              clear H
              have H := H1
              clear H1
              have HC20 := Aside0.mk H
              clear H
              go_upto_region 6 with (fail)
              go_cut [42] (fun v42 wc => ∃ (kq : Nat) (x42_19 : Bool), v42 = .bool x42_19 ∧ Aside0 (laws_FnCookiesSay.j2 kq a0 l1 x42_19 = some r) ∧ Aside0 (kq ≤ kj8) ∧ Aside0 (Below w.heap.size w wc))
              case first =>
                have H := HC20.out
                clear HC20
                obtain ⟨y233, hy233⟩ : ∃ y_ : List ByteArray, y_ = (([a0] : List ByteArray)) := ⟨_, rfl⟩
                replace H : ((laws_short.f kj8 y233).bind fun t236 => (if t236 = true then ((laws_few.f kj8 l1).bind fun t237 => (laws_FnCookiesSay.j2 kj8 a0 l1 (!t237))) else (laws_FnCookiesSay.j2 kj8 a0 l1 true))) = some r := by first | (rw [hy233]; with_reducible exact H) | (have H2_ := (Option.bind_some _ _).symm.trans H; rw [hy233]; with_reducible exact H2_) | (have H2_ := (Option.bind_some _ _).symm.trans H; with_reducible exact H2_) | with_reducible exact H | (rw [hy233]; exact H) | exact H
                have Ny233 := Aside0.mk hy233
                clear hy233
                replace H := Option.bind_eq_some_iff.mp H
                obtain ⟨t236, A210, H⟩ := H
                replace H : (if t236 = true then ((laws_few.f kj8 l1).bind fun t237 => (laws_FnCookiesSay.j2 kj8 a0 l1 (!t237))) else (laws_FnCookiesSay.j2 kj8 a0 l1 true)) = some r := H
                have A21 := Aside0.mk A210
                clear A210
                by_cases c22 : t236 = true
                · subst c22
                  have H1 : ((laws_few.f kj8 l1).bind fun t237 => (laws_FnCookiesSay.j2 kj8 a0 l1 (!t237))) = some r := by rw [if_pos rfl] at H; exact H
                  clear H
                  have H := H1
                  clear H1
                  replace H := Option.bind_eq_some_iff.mp H
                  obtain ⟨t237, A230, H⟩ := H
                  replace H : (laws_FnCookiesSay.j2 kj8 a0 l1 (!t237)) = some r := H
                  have A23 := Aside0.mk A230
                  clear A230
                  have H' := Aside0.mk H
                  clear H
                  go_wp2_with (first | ((with_reducible refine gate_dst (N := 35) rfl ?_); refine Kd.R_lit Kd.string _ 9 ?hg (N := 35) ?hd (xs := ([a0] : List ByteArray)) (inner := [.string a0]) (ok := fun _ => True) (okp := fun _ => True) ?hr ?hp (fun _ hk => hk) trivial (Below.refl _ _) (Nat.le_refl _) (by simp) ?_; (case hd => rfl); (case hg => rfl); (case hr => first | (go_simp; done) | (go_simp; rfl)); (case hp => exact (Reps.one (show Kd.M Kd.string _ _ _ a0 [.string a0] from rfl) (Reps.none _ _))); intro v234 w24 ho25 hb hg_ hnew_; clear hg_ hnew_; (first | rw [← Ny233.out] at ho25 | (simp only [Int.reduceToNat] at ho25; rw [← Ny233.out] at ho25)); have n0_ := Aside0.mk (Kd.R_lower ho25 (below_size (by repeat (first | (with_reducible first | exact HB.out | apply below_alloc | apply pw_below_drewN | apply below_drew1) | exact HB.out)))); have n1_ := Aside0.mk (below_step (by repeat (first | (with_reducible first | exact HB.out | apply below_alloc | apply pw_below_drewN | apply below_drew1) | exact HB.out)) hb); clear HB; have HO235 := n0_; have HB := n1_; clear n0_ n1_; clear hb ho25; obtain ⟨Ao26, co26, eo26⟩ := Kd.R_slice HO235.out; subst eo26) | ((with_reducible refine gate_callee (f := 13) rfl ?_); refine goesL_ (some 36) rfl rfl Try.func13 (by kernel_rfl) rfl #[.slice Ao26 y233.length co26] rfl (by (try simp only [List.map_toArray, List.map_cons, List.map_nil]); first | done | rfl | (simp only [List.length_drop, List.length_take]; rfl)) ?_; (with_reducible refine (laws_short.calls kj8 _ _ y233 true _ ?side1 ?side2 A21.out).mono ?_); (case side1 => repeat (first | exact (Kd.R_reads' HO235.out).2.2 | (with_reducible refine Kd.C_alloc ?_ _) | (with_reducible refine Kd.C_drewN ?_ _) | (with_reducible refine Kd.C_drew ?_))); (case side2 => exact (Kd.R_reads' HO235.out).2.1); rintro e w' ⟨rfl, ⟨nd, rfl⟩⟩; refine ⟨_, rfl, ?_⟩) | (go_at_call 29; (with_reducible refine (laws_few.calls kj8 _ _ l1 t237 _ ?side1 ?side2 A23.out).mono ?_); (case side1 => repeat (first | exact (Kd.C_below HR1.out (by repeat (first | (with_reducible first | exact HB.out | apply below_alloc | apply pw_below_drewN | apply below_drew1) | exact HB.out))) | (with_reducible refine Kd.C_alloc ?_ _) | (with_reducible refine Kd.C_drewN ?_ _) | (with_reducible refine Kd.C_drew ?_))); (case side2 => exact HC1.out); rintro e w27 ⟨rfl, hb⟩; have n0_ := Aside0.mk (Kd.R_below (by (with_reducible repeat (first | apply Kd.R_alloc | apply Kd.R_drewN | apply Kd.R_drew)); exact HO235.out) hb); have n1_ := Aside0.mk (below_step (by repeat (first | (with_reducible first | exact HB.out | apply below_alloc | apply pw_below_drewN | apply below_drew1) | exact HB.out)) hb); clear HO235; clear HB; have HO235 := n0_; have HB := n1_; clear n0_ n1_; (try clear hb); (try clear hb2); (try clear hk); (try clear hi)))
                  go_meet
                  case rel => exact ⟨_, (!t237), (by first | rfl | (simp; done) | (simp [*]; done) | (simp [Go.Proofs.YtipmmjbjgbfgjaaX.isEmpty_ne]; done)), H', ⟨by have := HJ2.out; have := HJ8.out; first | omega | exact Nat.le_refl _⟩, ⟨by repeat (first | (with_reducible first | exact HB.out | apply below_alloc | apply pw_below_drewN | apply below_drew1) | exact HB.out)⟩⟩
                · replace c22 := Bool.eq_false_iff.mpr c22
                  subst c22
                  have H1 : (laws_FnCookiesSay.j2 kj8 a0 l1 true) = some r := by rw [if_neg (show ¬ (false = true) by decide)] at H; exact H
                  clear H
                  have H := H1
                  clear H1
                  have H' := Aside0.mk H
                  clear H
                  go_wp2_with (first | ((with_reducible refine gate_dst (N := 35) rfl ?_); refine Kd.R_lit Kd.string _ 9 ?hg (N := 35) ?hd (xs := ([a0] : List ByteArray)) (inner := [.string a0]) (ok := fun _ => True) (okp := fun _ => True) ?hr ?hp (fun _ hk => hk) trivial (Below.refl _ _) (Nat.le_refl _) (by simp) ?_; (case hd => rfl); (case hg => rfl); (case hr => first | (go_simp; done) | (go_simp; rfl)); (case hp => exact (Reps.one (show Kd.M Kd.string _ _ _ a0 [.string a0] from rfl) (Reps.none _ _))); intro v234 w28 ho29 hb hg_ hnew_; clear hg_ hnew_; (first | rw [← Ny233.out] at ho29 | (simp only [Int.reduceToNat] at ho29; rw [← Ny233.out] at ho29)); have n0_ := Aside0.mk (Kd.R_lower ho29 (below_size (by repeat (first | (with_reducible first | exact HB.out | apply below_alloc | apply pw_below_drewN | apply below_drew1) | exact HB.out)))); have n1_ := Aside0.mk (below_step (by repeat (first | (with_reducible first | exact HB.out | apply below_alloc | apply pw_below_drewN | apply below_drew1) | exact HB.out)) hb); clear HB; have HO235 := n0_; have HB := n1_; clear n0_ n1_; clear hb ho29; obtain ⟨Ao30, co30, eo30⟩ := Kd.R_slice HO235.out; subst eo30) | ((with_reducible refine gate_callee (f := 13) rfl ?_); refine goesL_ (some 36) rfl rfl Try.func13 (by kernel_rfl) rfl #[.slice Ao30 y233.length co30] rfl (by (try simp only [List.map_toArray, List.map_cons, List.map_nil]); first | done | rfl | (simp only [List.length_drop, List.length_take]; rfl)) ?_; (with_reducible refine (laws_short.calls kj8 _ _ y233 false _ ?side1 ?side2 A21.out).mono ?_); (case side1 => repeat (first | exact (Kd.R_reads' HO235.out).2.2 | (with_reducible refine Kd.C_alloc ?_ _) | (with_reducible refine Kd.C_drewN ?_ _) | (with_reducible refine Kd.C_drew ?_))); (case side2 => exact (Kd.R_reads' HO235.out).2.1); rintro e w' ⟨rfl, ⟨nd, rfl⟩⟩; refine ⟨_, rfl, ?_⟩))
                  go_meet
                  case rel => exact ⟨_, (true), (by first | rfl | (simp; done) | (simp [*]; done) | (simp [Go.Proofs.YtipmmjbjgbfgjaaX.isEmpty_ne]; done)), H', ⟨by have := HJ2.out; have := HJ8.out; first | omega | exact Nat.le_refl _⟩, ⟨by repeat (first | (with_reducible first | exact HB.out | apply below_alloc | apply pw_below_drewN | apply below_drew1) | exact HB.out)⟩⟩
              case rest =>
                clear HC20
                try clear c1
                try clear c2
                try clear p2
                try clear q2
                try clear hx2
                try clear qi2
                try clear c4
                try clear c4b0
                try clear c4b1
                try clear c7
                try clear c8
                try clear c11
                try clear c11b0
                try clear c11b1
                try clear c12
                try clear c12b0
                try clear c12b1
                try clear c13
                try clear c13b0
                try clear c13b1
                try clear c19
                try clear c22
                try clear p23
                try clear q23
                try clear hx23
                try clear qi23
                try clear c28
                try clear hx231_0
                try clear hx231_1
                try clear hx231_2
                try clear p2
                try clear p231
                try clear q2
                try clear q231
                obtain ⟨kq, x42_19, rfl, HA, HJ19, HB⟩ := hcut
                cases kq with
                | zero => exact absurd HA.out (by simp [laws_FnCookiesSay.j2])
                | succ kj19 =>
                  have H := HA.out
                  clear HA
                  simp only [laws_FnCookiesSay.j2] at H
                  by_cases c31 : x42_19 = true
                  · subst c31
                    have H1 : (some true) = some r := by rw [if_pos rfl] at H; exact H
                    clear H
                    have H := H1
                    clear H1
                    obtain rfl := Option.some.inj H
                    go_wp2
                    go_ret
                    exact ⟨by first | rfl | (simp [errW_none, errW_some] <;> rfl) | (simp [*, errW_none, errW_some] <;> rfl), by repeat (first | (with_reducible first | exact HB.out | apply below_alloc | apply pw_below_drewN | apply below_drew1) | exact HB.out)⟩
                  · replace c31 := Bool.eq_false_iff.mpr c31
                    subst c31
                    have H1 : ((spec_RequestCookies.f kj19 a0).bind fun bt238 => (if bt238.2 = 1 then ((impl_RequestCookies.f a0).bind fun t242 => ((laws_alikeArgs.f kj19 t242 bt238.1).bind fun t245 => (laws_FnCookiesSay.j3 kj19 l1 (!t245)))) else (laws_FnCookiesSay.j3 kj19 l1 false))) = some r := by rw [if_neg (show ¬ (false = true) by decide)] at H; exact H
                    clear H
                    have H := H1
                    clear H1
                    replace H := Option.bind_eq_some_iff.mp H
                    obtain ⟨⟨t238, t239⟩, A320, H⟩ := H
                    replace H : (if t239 = 1 then ((impl_RequestCookies.f a0).bind fun t242 => ((laws_alikeArgs.f kj19 t242 t238).bind fun t245 => (laws_FnCookiesSay.j3 kj19 l1 (!t245)))) else (laws_FnCookiesSay.j3 kj19 l1 false)) = some r := H
                    have A32 := Aside0.mk A320
                    clear A320
                    have HC33 := Aside0.mk H
                    clear H
                    go_upto_region 9 with (first | ((with_reducible refine gate_callee (f := 32) rfl ?_); refine goesL_ (some 45) rfl rfl Try.func32 (by kernel_rfl) rfl #[.string a0] rfl (by (try simp only [List.map_toArray, List.map_cons, List.map_nil]); first | done | rfl | (simp only [List.length_drop, List.length_take]; rfl)) ?_; (with_reducible refine (spec_RequestCookies.calls kj19 a0 t238 t239 _ A32.out).mono ?_); rintro e w34 ⟨v240, rfl, ho0, hb⟩; refine ⟨_, rfl, ?_⟩; have n0_ := Aside0.mk (Kd.R_lower ho0 (below_size (by repeat (first | (with_reducible first | exact HB.out | apply below_alloc | apply pw_below_drewN | apply below_drew1) | exact HB.out)))); have n1_ := Aside0.mk (below_step (by repeat (first | (with_reducible first | exact HB.out | apply below_alloc | apply pw_below_drewN | apply below_drew1) | exact HB.out)) hb); clear HB; have HO241 := n0_; have HB := n1_; clear n0_ n1_; (try clear hb); (try clear hb2); (try clear hk); (try clear hi); (try clear ho0)))
                    (try simp only [Act.put, List.setIfInBounds_toArray, List.set_cons_zero, List.set_cons_succ])
                    go_cut [56] (fun v56 wc => ∃ (kq : Nat) (x56_32 : Bool), v56 = .bool x56_32 ∧ Aside0 (laws_FnCookiesSay.j3 kq l1 x56_32 = some r) ∧ Aside0 (kq ≤ kj19) ∧ Aside0 (Below w.heap.size w wc))
                    case first =>
                      have H := HC33.out
                      clear HC33
                      by_cases c35 : t239 = 1
                      · rw [if_pos c35] at H
                        have c35b0 : (t239 == 1) = true := beq_iff_eq.mpr c35
                        have c35b1 : (t239 != 1) = false := bne_eq_false_iff_eq.mpr c35
                        clear c35
                        (first | rw [c35b0] | (simp only [i64_w, i32_w]; rw [c35b0]) | (rw [Go.Proofs.YtipmmjbjgbfgjaaX.isEmpty_eq]; rw [c35b0]) | skip)
                        replace H := Option.bind_eq_some_iff.mp H
                        obtain ⟨t242, A360, H⟩ := H
                        replace H : ((laws_alikeArgs.f kj19 t242 t238).bind fun t245 => (laws_FnCookiesSay.j3 kj19 l1 (!t245))) = some r := H
                        have A36 := Aside0.mk A360
                        clear A360
                        replace H := Option.bind_eq_some_iff.mp H
                        obtain ⟨t245, A370, H⟩ := H
                        replace H : (laws_FnCookiesSay.j3 kj19 l1 (!t245)) = some r := H
                        have A37 := Aside0.mk A370
                        clear A370
                        have H' := Aside0.mk H
                        clear H
                        go_wp2_with (first | (go_at_call 28; (with_reducible refine (impl_RequestCookies.calls a0 t242 _ A36.out).mono ?_); rintro e w38 ⟨v243, rfl, ho0, hb⟩; have n0_ := Aside0.mk (Kd.R_below (by (with_reducible repeat (first | apply Kd.R_alloc | apply Kd.R_drewN | apply Kd.R_drew)); exact HO241.out) hb); have n1_ := Aside0.mk (Kd.R_lower ho0 (below_size (by repeat (first | (with_reducible first | exact HB.out | apply below_alloc | apply pw_below_drewN | apply below_drew1) | exact HB.out)))); have n2_ := Aside0.mk (below_step (by repeat (first | (with_reducible first | exact HB.out | apply below_alloc | apply pw_below_drewN | apply below_drew1) | exact HB.out)) hb); clear HO241; clear HB; have HO241 := n0_; have HO244 := n1_; have HB := n2_; clear n0_ n1_ n2_; (try clear hb); (try clear hb2); (try clear hk); (try clear hi); (try clear ho0); obtain ⟨Ao39, co39, eo39⟩ := Kd.R_slice HO244.out; subst eo39; obtain ⟨Ao40, co40, eo40⟩ := Kd.R_slice HO241.out; subst eo40) | (go_at_call 33; (with_reducible refine (laws_alikeArgs.calls kj19 _ _ t242 _ _ t238 t245 _ ?side1 ?side2 ?side3 ?side4 A37.out).mono ?_); (case side1 => repeat (first | exact (Kd.R_reads' HO244.out).2.2 | (with_reducible refine Kd.C_alloc ?_ _) | (with_reducible refine Kd.C_drewN ?_ _) | (with_reducible refine Kd.C_drew ?_))); (case side2 => exact (Kd.R_reads' HO244.out).2.1); (case side3 => repeat (first | exact (Kd.R_reads' HO241.out).2.2 | (with_reducible refine Kd.C_alloc ?_ _) | (with_reducible refine Kd.C_drewN ?_ _) | (with_reducible refine Kd.C_drew ?_))); (case side4 => exact (Kd.R_reads' HO241.out).2.1); rintro e w' ⟨rfl, ⟨nd, rfl⟩⟩))
                        go_meet
                        case rel => exact ⟨_, (!t245), (by first | rfl | (simp; done) | (simp [*]; done) | (simp [Go.Proofs.YtipmmjbjgbfgjaaX.isEmpty_ne]; done)), H', ⟨by have := HJ2.out; have := HJ8.out; have := HJ19.out; first | omega | exact Nat.le_refl _⟩, ⟨by repeat (first | (with_reducible first | exact HB.out | apply below_alloc | apply pw_below_drewN | apply below_drew1) | exact HB.out)⟩⟩
                      · rw [if_neg c35] at H
                        have c35b0 : (t239 == 1) = false := beq_eq_false_iff_ne.mpr c35
                        have c35b1 : (t239 != 1) = true := bne_iff_ne.mpr c35
                        (first | rw [c35b0] | (simp only [i64_w, i32_w]; rw [c35b0]) | (rw [Go.Proofs.YtipmmjbjgbfgjaaX.isEmpty_eq]; rw [c35b0]) | skip)
                        have H' := Aside0.mk H
                        clear H
                        go_wp2
                        go_meet
                        case rel => exact ⟨_, (false), (by first | rfl | (simp; done) | (simp [*]; done) | (simp [Go.Proofs.YtipmmjbjgbfgjaaX.isEmpty_ne]; done)), H', ⟨by have := HJ2.out; have := HJ8.out; have := HJ19.out; first | omega | exact Nat.le_refl _⟩, ⟨by repeat (first | (with_reducible first | exact HB.out | apply below_alloc | apply pw_below_drewN | apply below_drew1) | exact HB.out)⟩⟩
                    case rest =>
                      clear HC33
                      try clear c1
                      try clear c2
                      try clear p2
                      try clear q2
                      try clear hx2
                      try clear qi2
                      try clear c3
                      try clear c4
                      try clear c4b0
                      try clear c4b1
                      try clear c7
                      try clear c8
                      try clear c11
                      try clear c11b0
                      try clear c11b1
                      try clear c12
                      try clear c12b0
                      try clear c12b1
                      try clear c13
                      try clear c13b0
                      try clear c13b1
                      try clear c19
                      try clear c22
                      try clear p23
                      try clear q23
                      try clear hx23
                      try clear qi23
                      try clear c28
                      try clear c31
                      try clear c32
                      try clear c35
                      try clear c35b0
                      try clear c35b1
                      try clear hx231_0
                      try clear hx231_1
                      try clear hx231_2
                      try clear p2
                      try clear p23
                      try clear p231
                      try clear q2
                      try clear q23
                      try clear q231
                      obtain ⟨kq, x56_32, rfl, HA, HJ32, HB⟩ := hcut
                      cases kq with
                      | zero => exact absurd HA.out (by simp [laws_FnCookiesSay.j3])
                      | succ kj32 =>
                        have H := HA.out
                        clear HA
                        simp only [laws_FnCookiesSay.j3] at H
                        by_cases c41 : x56_32 = true
                        · subst c41
                          have H1 : (some false) = some r := by rw [if_pos rfl] at H; exact H
                          clear H
                          have H := H1
                          clear H1
                          obtain rfl := Option.some.inj H
                          go_wp2
                          go_ret
                          exact ⟨by first | rfl | (simp [errW_none, errW_some] <;> rfl) | (simp [*, errW_none, errW_some] <;> rfl), by repeat (first | (with_reducible first | exact HB.out | apply below_alloc | apply pw_below_drewN | apply below_drew1) | exact HB.out)⟩
                        · replace c41 := Bool.eq_false_iff.mpr c41
                          subst c41
                          have H1 : ((laws_argsOf.f kj32 l1).bind fun t246 => ((spec_CookiesText.f kj32 t246).bind fun bt249 => (if bt249.2 = 1 then ((impl_CookiesText.f l1).bind fun t251 => (some (t251.toList == bt249.1.toList))) else (some true)))) = some r := by rw [if_neg (show ¬ (false = true) by decide)] at H; exact H
                          clear H
                          have H := H1
                          clear H1
                          replace H := Option.bind_eq_some_iff.mp H
                          obtain ⟨t246, A420, H⟩ := H
                          replace H : ((spec_CookiesText.f kj32 t246).bind fun bt249 => (if bt249.2 = 1 then ((impl_CookiesText.f l1).bind fun t251 => (some (t251.toList == bt249.1.toList))) else (some true))) = some r := H
                          have A42 := Aside0.mk A420
                          clear A420
                          replace H := Option.bind_eq_some_iff.mp H
                          obtain ⟨⟨t249, t250⟩, A430, H⟩ := H
                          replace H : (if t250 = 1 then ((impl_CookiesText.f l1).bind fun t251 => (some (t251.toList == t249.toList))) else (some true)) = some r := H
                          have A43 := Aside0.mk A430
                          clear A430
                          by_cases c44 : t250 = 1
                          · rw [if_pos c44] at H
                            have c44b0 : (t250 == 1) = true := beq_iff_eq.mpr c44
                            have c44b1 : (t250 != 1) = false := bne_eq_false_iff_eq.mpr c44
                            clear c44
                            replace H := Option.bind_eq_some_iff.mp H
                            obtain ⟨t251, A450, H⟩ := H
                            replace H : (some (t251.toList == t249.toList)) = some r := H
                            have A45 := Aside0.mk A450
                            clear A450
                            obtain rfl := Option.some.inj H
                            go_wp2_with (first | ((with_reducible refine gate_callee (f := 35) rfl ?_); refine goesL_ (some 59) rfl rfl Try.func35 (by kernel_rfl) rfl #[.slice A1 l1.length c1] rfl (by (try simp only [List.map_toArray, List.map_cons, List.map_nil]); first | done | rfl | (simp only [List.length_drop, List.length_take]; rfl)) ?_; (with_reducible refine (laws_argsOf.calls kj32 _ _ l1 t246 _ ?side1 ?side2 A42.out).mono ?_); (case side1 => repeat (first | exact (Kd.C_below HR1.out HB.out) | (with_reducible refine Kd.C_alloc ?_ _) | (with_reducible refine Kd.C_drewN ?_ _) | (with_reducible refine Kd.C_drew ?_))); (case side2 => exact HC1.out); rintro e w46 ⟨v247, rfl, ho0, hb⟩; refine ⟨_, rfl, ?_⟩; have n0_ := Aside0.mk (Kd.R_lower ho0 (below_size (by repeat (first | (with_reducible first | exact HB.out | apply below_alloc | apply pw_below_drewN | apply below_drew1) | exact HB.out)))); have n1_ := Aside0.mk (below_step (by repeat (first | (with_reducible first | exact HB.out | apply below_alloc | apply pw_below_drewN | apply below_drew1) | exact HB.out)) hb); clear HB; have HO248 := n0_; have HB := n1_; clear n0_ n1_; (try clear hb); (try clear hb2); (try clear hk); (try clear hi); (try clear ho0); obtain ⟨Ao47, co47, eo47⟩ := Kd.R_slice HO248.out; subst eo47) | ((with_reducible refine gate_callee (f := 34) rfl ?_); refine goesL_ (some 60) rfl rfl Try.func34 (by kernel_rfl) rfl #[.slice Ao47 t246.length co47] rfl (by (try simp only [List.map_toArray, List.map_cons, List.map_nil]); first | done | rfl | (simp only [List.length_drop, List.length_take]; rfl)) ?_; (with_reducible refine (spec_CookiesText.calls kj32 _ _ t246 t249 t250 _ ?side1 ?side2 A43.out).mono ?_); (case side1 => repeat (first | exact (Kd.R_reads' HO248.out).2.2 | (with_reducible refine Kd.C_alloc ?_ _) | (with_reducible refine Kd.C_drewN ?_ _) | (with_reducible refine Kd.C_drew ?_))); (case side2 => exact (Kd.R_reads' HO248.out).2.1); rintro e w48 ⟨rfl, hb⟩; refine ⟨_, rfl, ?_⟩; have n0_ := Aside0.mk (Kd.R_below (by (with_reducible repeat (first | apply Kd.R_alloc | apply Kd.R_drewN | apply Kd.R_drew)); exact HO248.out) hb); have n1_ := Aside0.mk (below_step (by repeat (first | (with_reducible first | exact HB.out | apply below_alloc | apply pw_below_drewN | apply below_drew1) | exact HB.out)) hb); clear HO248; clear HB; have HO248 := n0_; have HB := n1_; clear n0_ n1_; (try clear hb); (try clear hb2); (try clear hk); (try clear hi)) | (go_at_call 31; (with_reducible refine (impl_CookiesText.calls _ _ l1 t251 _ ?side1 ?side2 A45.out).mono ?_); (case side1 => repeat (first | exact (Kd.C_below HR1.out HB.out) | (with_reducible refine Kd.C_alloc ?_ _) | (with_reducible refine Kd.C_drewN ?_ _) | (with_reducible refine Kd.C_drew ?_))); (case side2 => exact HC1.out); rintro e w49 ⟨rfl, hb⟩; have n0_ := Aside0.mk (Kd.R_below (by (with_reducible repeat (first | apply Kd.R_alloc | apply Kd.R_drewN | apply Kd.R_drew)); exact HO248.out) hb); have n1_ := Aside0.mk (below_step (by repeat (first | (with_reducible first | exact HB.out | apply below_alloc | apply pw_below_drewN | apply below_drew1) | exact HB.out)) hb); clear HO248; clear HB; have HO248 := n0_; have HB := n1_; clear n0_ n1_; (try clear hb); (try clear hb2); (try clear hk); (try clear hi)))
                            go_ret
                            exact ⟨by first | rfl | (simp [errW_none, errW_some] <;> rfl) | (simp [*, errW_none, errW_some] <;> rfl), by repeat (first | (with_reducible first | exact HB.out | apply below_alloc | apply pw_below_drewN | apply below_drew1) | exact HB.out)⟩
                          · rw [if_neg c44] at H
                            have c44b0 : (t250 == 1) = false := beq_eq_false_iff_ne.mpr c44
                            have c44b1 : (t250 != 1) = true := bne_iff_ne.mpr c44
                            obtain rfl := Option.some.inj H
                            go_wp2_with (first | ((with_reducible refine gate_callee (f := 35) rfl ?_); refine goesL_ (some 59) rfl rfl Try.func35 (by kernel_rfl) rfl #[.slice A1 l1.length c1] rfl (by (try simp only [List.map_toArray, List.map_cons, List.map_nil]); first | done | rfl | (simp only [List.length_drop, List.length_take]; rfl)) ?_; (with_reducible refine (laws_argsOf.calls kj32 _ _ l1 t246 _ ?side1 ?side2 A42.out).mono ?_); (case side1 => repeat (first | exact (Kd.C_below HR1.out HB.out) | (with_reducible refine Kd.C_alloc ?_ _) | (with_reducible refine Kd.C_drewN ?_ _) | (with_reducible refine Kd.C_drew ?_))); (case side2 => exact HC1.out); rintro e w50 ⟨v247, rfl, ho0, hb⟩; refine ⟨_, rfl, ?_⟩; have n0_ := Aside0.mk (Kd.R_lower ho0 (below_size (by repeat (first | (with_reducible first | exact HB.out | apply below_alloc | apply pw_below_drewN | apply below_drew1) | exact HB.out)))); have n1_ := Aside0.mk (below_step (by repeat (first | (with_reducible first | exact HB.out | apply below_alloc | apply pw_below_drewN | apply below_drew1) | exact HB.out)) hb); clear HB; have HO248 := n0_; have HB := n1_; clear n0_ n1_; (try clear hb); (try clear hb2); (try clear hk); (try clear hi); (try clear ho0); obtain ⟨Ao51, co51, eo51⟩ := Kd.R_slice HO248.out; subst eo51) | ((with_reducible refine gate_callee (f := 34) rfl ?_); refine goesL_ (some 60) rfl rfl Try.func34 (by kernel_rfl) rfl #[.slice Ao51 t246.length co51] rfl (by (try simp only [List.map_toArray, List.map_cons, List.map_nil]); first | done | rfl | (simp only [List.length_drop, List.length_take]; rfl)) ?_; (with_reducible refine (spec_CookiesText.calls kj32 _ _ t246 t249 t250 _ ?side1 ?side2 A43.out).mono ?_); (case side1 => repeat (first | exact (Kd.R_reads' HO248.out).2.2 | (with_reducible refine Kd.C_alloc ?_ _) | (with_reducible refine Kd.C_drewN ?_ _) | (with_reducible refine Kd.C_drew ?_))); (case side2 => exact (Kd.R_reads' HO248.out).2.1); rintro e w52 ⟨rfl, hb⟩; refine ⟨_, rfl, ?_⟩; have n0_ := Aside0.mk (Kd.R_below (by (with_reducible repeat (first | apply Kd.R_alloc | apply Kd.R_drewN | apply Kd.R_drew)); exact HO248.out) hb); have n1_ := Aside0.mk (below_step (by repeat (first | (with_reducible first | exact HB.out | apply below_alloc | apply pw_below_drewN | apply below_drew1) | exact HB.out)) hb); clear HO248; clear HB; have HO248 := n0_; have HB := n1_; clear n0_ n1_; (try clear hb); (try clear hb2); (try clear hk); (try clear hi)))
                            go_ret
                            exact ⟨by first | rfl | (simp [errW_none, errW_some] <;> rfl) | (simp [*, errW_none, errW_some] <;> rfl), by repeat (first | (with_reducible first | exact HB.out | apply below_alloc | apply pw_below_drewN | apply below_drew1) | exact HB.out)⟩

end Go.Proofs.Ytipmmjbjgbfgjaa.Q
