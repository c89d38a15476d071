import Derived.Test.YtjklempjljikpaaQ0
import Derived.Test.YtjklempjljikpaaQ3
import Derived.Test.YtjklempjljikpaaQ5
-- Written by a program of this session out of the translation, with the kit's printer. Not trusted: Lean checks it.
namespace Go.Proofs.Ytjklempjljikpaa.Q
open Go.RowKit Go.Proofs.YtjklempjljikpaaW.PrintWords Go.Proofs.YtjklempjljikpaaW.PrintLast Go.Proofs.YtjklempjljikpaaW.PrintMore
attribute [local go_sem] max2_int min2_int max_two min_two max_three min_three max_four min_four   -- for this text's walks alone
set_option linter.unusedVariables false
set_option linter.unusedSimpArgs false

/-! ### bytes_LastIndex: function 64 -/
def bytes_LastIndex.f (k : Nat) (l0 : List Int) (l1 : List Int) : Option (Int) := if (l1.length : Int) = 0 then (some (l0.length : Int)) else (if (l1.length : Int) = 1 then (if 0 < (l1.length : Int) then ((bytealg_LastIndexByte.f k l0 (rd l1 0)).bind fun t146 => (some t146)) else (none)) else (if (l1.length : Int) = (l0.length : Int) then ((bytes_Equal.f l0 l1).bind fun t147 => (if t147 = true then (some 0) else (some (-1)))) else (if (l1.length : Int) > (l0.length : Int) then (some (-1)) else ((bytealg_LastIndexRabinKarp_byte.f k l0 l1).bind fun t148 => (some t148)))))
theorem bytes_LastIndex.mono : ∀ a0 a1 k, LeO (bytes_LastIndex.f k a0 a1) (bytes_LastIndex.f (k + 1) a0 a1) := by
  intro a0 a1 k
  unfold bytes_LastIndex.f
  repeat' first
      | (with_reducible exact bytealg_LastIndexByte.mono _ _ _)
      | (with_reducible exact bytealg_LastIndexRabinKarp_byte.mono _ _ _)
      | (with_reducible exact LeO.refl _)
      | (with_reducible exact LeO.none _)
      | (with_reducible refine LeO.ite ?_ ?_)
      | (with_reducible refine LeO.bind ?_ (fun _ => ?_))
      | exact bytealg_LastIndexByte.mono _ _ _
      | exact bytealg_LastIndexRabinKarp_byte.mono _ _ _
      | exact LeO.none _
      | refine LeO.ite ?_ ?_
      | refine LeO.bind ?_ (fun _ => ?_)
set_option maxHeartbeats 8000000 in
set_option maxRecDepth 100000 in
theorem bytes_LastIndex.calls (k : Nat) (A0 : Option Addr) (c0 : Nat) (l0 : List Int) (A1 : Option Addr) (c1 : Nat) (l1 : List Int) (r : Int) (w : World) (hr0 : Kd.C (Kd.int .u8) w A0 l0.length l0) (hc0 : l0.length ≤ c0) (hr1 : Kd.C (Kd.int .u8) w A1 l1.length l1) (hc1 : l1.length ≤ c1) (h : bytes_LastIndex.f k l0 l1 = some r) :
    Calls Try.prog 64 #[.slice A0 l0.length c0, .slice A1 l1.length c1] w fun e w' => e = .returned (.int .i64 r) ∧ Drawn0 w w' := by
  have HR0 := Aside0.mk hr0
  have HC0 := Aside0.mk hc0
  clear hr0 hc0
  have HR1 := Aside0.mk hr1
  have HC1 := Aside0.mk hc1
  clear hr1 hc1
  have H : (if (l1.length : Int) = 0 then (some (l0.length : Int)) else (if (l1.length : Int) = 1 then (if 0 < (l1.length : Int) then ((bytealg_LastIndexByte.f k l0 (rd l1 0)).bind fun t146 => (some t146)) else (none)) else (if (l1.length : Int) = (l0.length : Int) then ((bytes_Equal.f l0 l1).bind fun t147 => (if t147 = true then (some 0) else (some (-1)))) else (if (l1.length : Int) > (l0.length : Int) then (some (-1)) else ((bytealg_LastIndexRabinKarp_byte.f k l0 l1).bind fun t148 => (some t148)))))) = some r := h
  clear h
  by_cases c3 : (l1.length : Int) = 0
  · rw [if_pos c3] at H
    have c3b0 : ((l1.length : Int) == 0) = true := beq_iff_eq.mpr c3
    have c3b1 : ((l1.length : Int) != 0) = false := bne_eq_false_iff_eq.mpr c3
    clear c3
    obtain rfl := Option.some.inj H
    go_enter Try.func64, Try.ntmps64
    go_wp2
    go_ret
    exact ⟨by first | rfl | (simp; done) | (simp [*]; done) | (simp [Go.Proofs.YtjklempjljikpaaX.isEmpty_ne]; done), by repeat (first | exact Drawn0.refl _ | apply Drawn0.step)⟩
  · rw [if_neg c3] at H
    have c3b0 : ((l1.length : Int) == 0) = false := beq_eq_false_iff_ne.mpr c3
    have c3b1 : ((l1.length : Int) != 0) = true := bne_iff_ne.mpr c3
    have c3b2 : ¬ (l1 = []) := fun h_ => c3 (by rw [h_]; rfl)
    by_cases c4 : (l1.length : Int) = 1
    · rw [if_pos c4] at H
      have c4b0 : ((l1.length : Int) == 1) = true := beq_iff_eq.mpr c4
      have c4b1 : ((l1.length : Int) != 1) = false := bne_eq_false_iff_eq.mpr c4
      clear c4
      by_cases c5 : 0 < (l1.length : Int)
      · rw [if_pos c5] at H
        have c5b0 : decide (0 < (l1.length : Int)) = true := decide_eq_true c5
        have c5b1 : decide (0 < l1.length) = true := decide_eq_true (by omega)
        clear c5
        replace H := Option.bind_eq_some_iff.mp H
        obtain ⟨t146, A60, H⟩ := H
        replace H : (some t146) = some r := H
        have A6 := Aside0.mk A60
        clear A60
        obtain rfl := Option.some.inj H
        have p145 : 0 ≤ (0 : Int) := (by omega)
        have q145 : 0 < (l1.length : Int) := of_decide_eq_true (by first | (with_reducible assumption) | assumption)
        obtain ⟨ad145, e145, hx145_0⟩ := Kd.at_int HR1.out 0 p145 q145
        cases e145
        have qi145 : (0 < l1.length) = True := eq_true (by omega)
        (try rw [show ((0 : Int)).toNat = 0 from rfl] at hx145_0)
        (try rw [Addr.add_zero'] at hx145_0)
        replace p145 := eq_true p145
        replace q145 := eq_true q145
        go_enter Try.func64, Try.ntmps64
        go_wp2_with (first | ((with_reducible refine gate_callee (f := 71) rfl ?_); refine goesL_ (some 20) rfl rfl Try.func71 (by kernel_rfl) rfl #[.slice A0 l0.length c0, .int .u8 (rd l1 0)] rfl (by (try simp only [List.map_toArray, List.map_cons, List.map_nil]); first | done | rfl | (simp only [List.length_drop, List.length_take]; rfl)) ?_; (with_reducible refine (bytealg_LastIndexByte.calls k _ _ l0 (rd l1 0) t146 _ ?side1 ?side2 A6.out).mono ?_); (case side1 => repeat (first | exact HR0.out | (with_reducible refine Kd.C_alloc ?_ _) | (with_reducible refine Kd.C_drewN ?_ _) | (with_reducible refine Kd.C_drew ?_))); (case side2 => exact HC0.out); rintro e w' ⟨rfl, ⟨nd, rfl⟩⟩; refine ⟨_, rfl, ?_⟩))
        go_ret
        exact ⟨by first | rfl | (simp; done) | (simp [*]; done) | (simp [Go.Proofs.YtjklempjljikpaaX.isEmpty_ne]; done), by repeat (first | exact Drawn0.refl _ | apply Drawn0.step)⟩
      · rw [if_neg c5] at H
        exact absurd H (by simp)
    · rw [if_neg c4] at H
      have c4b0 : ((l1.length : Int) == 1) = false := beq_eq_false_iff_ne.mpr c4
      have c4b1 : ((l1.length : Int) != 1) = true := bne_iff_ne.mpr c4
      by_cases c7 : (l1.length : Int) = (l0.length : Int)
      · rw [if_pos c7] at H
        have c7b0 : ((l1.length : Int) == (l0.length : Int)) = true := beq_iff_eq.mpr c7
        have c7b1 : ((l1.length : Int) != (l0.length : Int)) = false := bne_eq_false_iff_eq.mpr c7
        have c7b2 : (l1.length == l0.length) = true := by first | simpa using c7 | (simp at c7 ⊢; omega)
        clear c7
        replace H := Option.bind_eq_some_iff.mp H
        obtain ⟨t147, A80, H⟩ := H
        replace H : (if t147 = true then (some 0) else (some (-1))) = some r := H
        have A8 := Aside0.mk A80
        clear A80
        by_cases c9 : t147 = true
        · subst c9
          have H1 : (some 0) = some r := by rw [if_pos rfl] at H; exact H
          clear H
          have H := H1
          clear H1
          obtain rfl := Option.some.inj H
          go_enter Try.func64, Try.ntmps64
          go_wp2_with (first | ((with_reducible refine gate_callee (f := 72) rfl ?_); refine goesL_ (some 28) rfl rfl Try.func72 (by kernel_rfl) rfl #[.slice A0 l0.length c0, .slice A1 l1.length c1] rfl (by (try simp only [List.map_toArray, List.map_cons, List.map_nil]); first | done | rfl | (simp only [List.length_drop, List.length_take]; rfl)) ?_; (with_reducible refine (bytes_Equal.calls _ _ l0 _ _ l1 true _ ?side1 ?side2 ?side3 ?side4 A8.out).mono ?_); (case side1 => repeat (first | exact HR0.out | (with_reducible refine Kd.C_alloc ?_ _) | (with_reducible refine Kd.C_drewN ?_ _) | (with_reducible refine Kd.C_drew ?_))); (case side2 => exact HC0.out); (case side3 => repeat (first | exact HR1.out | (with_reducible refine Kd.C_alloc ?_ _) | (with_reducible refine Kd.C_drewN ?_ _) | (with_reducible refine Kd.C_drew ?_))); (case side4 => exact HC1.out); rintro e w' ⟨rfl, ⟨nd, rfl⟩⟩; refine ⟨_, rfl, ?_⟩))
          go_ret
          exact ⟨by first | rfl | (simp; done) | (simp [*]; done) | (simp [Go.Proofs.YtjklempjljikpaaX.isEmpty_ne]; done), by repeat (first | exact Drawn0.refl _ | apply Drawn0.step)⟩
        · replace c9 := Bool.eq_false_iff.mpr c9
          subst c9
          have H1 : (some (-1)) = some r := by rw [if_neg (show ¬ (false = true) by decide)] at H; exact H
          clear H
          have H := H1
          clear H1
          obtain rfl := Option.some.inj H
          go_enter Try.func64, Try.ntmps64
          go_wp2_with (first | ((with_reducible refine gate_callee (f := 72) rfl ?_); refine goesL_ (some 28) rfl rfl Try.func72 (by kernel_rfl) rfl #[.slice A0 l0.length c0, .slice A1 l1.length c1] rfl (by (try simp only [List.map_toArray, List.map_cons, List.map_nil]); first | done | rfl | (simp only [List.length_drop, List.length_take]; rfl)) ?_; (with_reducible refine (bytes_Equal.calls _ _ l0 _ _ l1 false _ ?side1 ?side2 ?side3 ?side4 A8.out).mono ?_); (case side1 => repeat (first | exact HR0.out | (with_reducible refine Kd.C_alloc ?_ _) | (with_reducible refine Kd.C_drewN ?_ _) | (with_reducible refine Kd.C_drew ?_))); (case side2 => exact HC0.out); (case side3 => repeat (first | exact HR1.out | (with_reducible refine Kd.C_alloc ?_ _) | (with_reducible refine Kd.C_drewN ?_ _) | (with_reducible refine Kd.C_drew ?_))); (case side4 => exact HC1.out); rintro e w' ⟨rfl, ⟨nd, rfl⟩⟩; refine ⟨_, rfl, ?_⟩))
          go_ret
          exact ⟨by first | rfl | (simp; done) | (simp [*]; done) | (simp [Go.Proofs.YtjklempjljikpaaX.isEmpty_ne]; done), by repeat (first | exact Drawn0.refl _ | apply Drawn0.step)⟩
      · rw [if_neg c7] at H
        have c7b0 : ((l1.length : Int) == (l0.length : Int)) = false := beq_eq_false_iff_ne.mpr c7
        have c7b1 : ((l1.length : Int) != (l0.length : Int)) = true := bne_iff_ne.mpr c7
        have c7b2 : (l1.length == l0.length) = false := by first | simpa using c7 | (simp at c7 ⊢; omega)
        by_cases c10 : (l1.length : Int) > (l0.length : Int)
        · rw [if_pos c10] at H
          have c10b0 : decide ((l0.length : Int) < (l1.length : Int)) = true := decide_eq_true c10
          have c10b1 : decide (l0.length < l1.length) = true := decide_eq_true (Int.ofNat_lt.mp c10)
          clear c10
          obtain rfl := Option.some.inj H
          go_enter Try.func64, Try.ntmps64
          go_wp2
          go_ret
          exact ⟨by first | rfl | (simp; done) | (simp [*]; done) | (simp [Go.Proofs.YtjklempjljikpaaX.isEmpty_ne]; done), by repeat (first | exact Drawn0.refl _ | apply Drawn0.step)⟩
        · rw [if_neg c10] at H
          have c10b0 : decide ((l0.length : Int) < (l1.length : Int)) = false := decide_eq_false c10
          have c10b1 : decide (l0.length < l1.length) = false := decide_eq_false (fun h => c10 (Int.ofNat_lt.mpr h))
          clear c10
          replace H := Option.bind_eq_some_iff.mp H
          obtain ⟨t148, A110, H⟩ := H
          replace H : (some t148) = some r := H
          have A11 := Aside0.mk A110
          clear A110
          obtain rfl := Option.some.inj H
          go_enter Try.func64, Try.ntmps64
          go_wp2_with (first | ((with_reducible refine gate_callee (f := 73) rfl ?_); refine goesL_ (some 36) rfl rfl Try.func73 (by kernel_rfl) rfl #[.slice A0 l0.length c0, .slice A1 l1.length c1] rfl (by (try simp only [List.map_toArray, List.map_cons, List.map_nil]); first | done | rfl | (simp only [List.length_drop, List.length_take]; rfl)) ?_; (with_reducible refine (bytealg_LastIndexRabinKarp_byte.calls k _ _ l0 _ _ l1 t148 _ ?side1 ?side2 ?side3 ?side4 A11.out).mono ?_); (case side1 => repeat (first | exact HR0.out | (with_reducible refine Kd.C_alloc ?_ _) | (with_reducible refine Kd.C_drewN ?_ _) | (with_reducible refine Kd.C_drew ?_))); (case side2 => exact HC0.out); (case side3 => repeat (first | exact HR1.out | (with_reducible refine Kd.C_alloc ?_ _) | (with_reducible refine Kd.C_drewN ?_ _) | (with_reducible refine Kd.C_drew ?_))); (case side4 => exact HC1.out); rintro e w' ⟨rfl, ⟨nd, rfl⟩⟩; refine ⟨_, rfl, ?_⟩))
          go_ret
          exact ⟨by first | rfl | (simp; done) | (simp [*]; done) | (simp [Go.Proofs.YtjklempjljikpaaX.isEmpty_ne]; done), by repeat (first | exact Drawn0.refl _ | apply Drawn0.step)⟩

/-! ### hertzstr_StrSlashDotDot: function 65 -/
-- no contract here

/-! ### hertzstr_StrSlash: function 66 -/
-- no contract here

-- NOT PRINTED: function 49 (hertzproto_normalizePath)

end Go.Proofs.Ytjklempjljikpaa.Q
