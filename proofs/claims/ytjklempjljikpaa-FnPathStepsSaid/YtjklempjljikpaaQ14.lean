import Derived.Test.YtjklempjljikpaaQ0
import Derived.Test.YtjklempjljikpaaQ8
import Derived.Test.YtjklempjljikpaaQ10
import Derived.Test.YtjklempjljikpaaQ12
-- Written by a program of this session out of the translation, with the kit's printer. Not trusted: Lean checks it.
namespace Go.Proofs.Ytjklempjljikpaa.Q
open Go.RowKit Go.Proofs.YtjklempjljikpaaW.PrintWords Go.Proofs.YtjklempjljikpaaW.PrintLast Go.Proofs.YtjklempjljikpaaW.PrintMore
attribute [local go_sem] max2_int min2_int max_two min_two max_three min_three max_four min_four   -- for this text's walks alone
set_option linter.unusedVariables false
set_option linter.unusedSimpArgs false

/-! ### laws_FnPathSteps: function 6 -/
mutual
def laws_FnPathSteps.j0 : Nat → List ByteArray → Int → ByteArray → Bool → Option (Bool)
  | 0, _, _, _, _ => none
  | k + 1, x0, x1, x2, x18 => if x18 = true then (some true) else ((laws_cleans.f).bind fun t194 => (if t194 = true then (if x1 < 0 then (laws_FnPathSteps.j1 k x0 x1 x2 true) else (if x1 > (x0.length : Int) then (laws_FnPathSteps.j1 k x0 x1 x2 true) else (if (x0.length : Int) > 20 then (laws_FnPathSteps.j1 k x0 x1 x2 true) else ((laws_word.f k x2).bind fun t195 => (if t195 = true then (if (x0.length : Int) = 0 then (laws_FnPathSteps.j1 k x0 x1 x2 true) else ((some (([] : List ByteArray) : List ByteArray)).bind fun y196 => (if y196.length + x0.length < 8796093022208 then ((some (y196 ++ x0 : List ByteArray)).bind fun y199 => (if y199.length < 8796093022208 then ((laws_short.f k (y199 ++ [x2])).bind fun t205 => (laws_FnPathSteps.j1 k x0 x1 x2 (!t205))) else (none))) else (none)))) else (laws_FnPathSteps.j1 k x0 x1 x2 true)))))) else (some false)))
def laws_FnPathSteps.j1 : Nat → List ByteArray → Int → ByteArray → Bool → Option (Bool)
  | 0, _, _, _, _ => none
  | k + 1, x0, x1, x2, x53 => if x53 = true then (some true) else (laws_FnPathSteps.l0 k x0 x1 x2 (⟨#[]⟩ : ByteArray) (⟨#[]⟩ : ByteArray) x0 (x0.length : Int) 0)
def laws_FnPathSteps.l0 : Nat → List ByteArray → Int → ByteArray → ByteArray → ByteArray → List ByteArray → Int → Int → Option (Bool)
  | 0, _, _, _, _, _, _, _, _ => none
  | k + 1, x0, x1, x2, x7, x8, x54, x55, x56 => if x56 < x55 then (if 0 ≤ x56 then (if x56 < (x54.length : Int) then ((laws_word.f k (rdOf ByteArray.empty x54 x56)).bind fun t208 => (if t208 = true then (if x56 = x1 then (if 1 + x2.size ≤ 9223372036854775807 then (if 1 + x2.size + 3 ≤ 9223372036854775807 then (if x8.size + (1 + x2.size + 3) ≤ 9223372036854775807 then (if 1 + (rdOf ByteArray.empty x54 x56).size ≤ 9223372036854775807 then (if x7.size + (1 + (rdOf ByteArray.empty x54 x56).size) ≤ 9223372036854775807 then (if x8.size + (1 + x2.size + 3) + (1 + (rdOf ByteArray.empty x54 x56).size) ≤ 9223372036854775807 then (laws_FnPathSteps.l0 k x0 x1 x2 (x7 ++ ((⟨#[47]⟩ : ByteArray) ++ (rdOf ByteArray.empty x54 x56))) ((x8 ++ (((⟨#[47]⟩ : ByteArray) ++ x2) ++ (⟨#[47, 46, 46]⟩ : ByteArray))) ++ ((⟨#[47]⟩ : ByteArray) ++ (rdOf ByteArray.empty x54 x56))) x54 x55 (wrap64 (x56 + 1))) else (none)) else (none)) else (none)) else (none)) else (none)) else (none)) else (if 1 + (rdOf ByteArray.empty x54 x56).size ≤ 9223372036854775807 then (if x7.size + (1 + (rdOf ByteArray.empty x54 x56).size) ≤ 9223372036854775807 then (if x8.size + (1 + (rdOf ByteArray.empty x54 x56).size) ≤ 9223372036854775807 then (laws_FnPathSteps.l0 k x0 x1 x2 (x7 ++ ((⟨#[47]⟩ : ByteArray) ++ (rdOf ByteArray.empty x54 x56))) (x8 ++ ((⟨#[47]⟩ : ByteArray) ++ (rdOf ByteArray.empty x54 x56))) x54 x55 (wrap64 (x56 + 1))) else (none)) else (none)) else (none))) else (some true))) else (none)) else (none)) else (if x1 = (x0.length : Int) then (some true) else ((impl_CleanPath.f x8).bind fun t206 => (some (t206.toList == x7.toList))))
end
def laws_FnPathSteps.f (k : Nat) (l0 : List ByteArray) (a1 : Int) (a2 : ByteArray) : Option (Bool) := (laws_zzFits1.f k l0).bind fun t193 => (if t193 = true then (laws_FnPathSteps.j0 k l0 a1 a2 (decide ((a2.size : Int) > 2147483647))) else (laws_FnPathSteps.j0 k l0 a1 a2 true))
theorem laws_FnPathSteps.mono_l : ∀ k, (∀ y0 y1 y2 y3, LeO (laws_FnPathSteps.j0 k y0 y1 y2 y3) (laws_FnPathSteps.j0 (k + 1) y0 y1 y2 y3)) ∧ (∀ y0 y1 y2 y3, LeO (laws_FnPathSteps.j1 k y0 y1 y2 y3) (laws_FnPathSteps.j1 (k + 1) y0 y1 y2 y3)) ∧ (∀ y0 y1 y2 y3 y4 y5 y6 y7, LeO (laws_FnPathSteps.l0 k y0 y1 y2 y3 y4 y5 y6 y7) (laws_FnPathSteps.l0 (k + 1) y0 y1 y2 y3 y4 y5 y6 y7))
  | 0 => ⟨fun _ _ _ _ r h => by simp [laws_FnPathSteps.j0] at h, fun _ _ _ _ r h => by simp [laws_FnPathSteps.j1] at h, fun _ _ _ _ _ _ _ _ r h => by simp [laws_FnPathSteps.l0] at h⟩
  | k + 1 => by
    obtain ⟨ih0, ih1, ih2⟩ := laws_FnPathSteps.mono_l k
    refine ⟨?_, ?_, ?_⟩
    · intro y0 y1 y2 y3
      unfold laws_FnPathSteps.j0
      repeat' first
      | (with_reducible exact ih0 _ _ _ _)
      | (with_reducible exact ih1 _ _ _ _)
      | (with_reducible exact ih2 _ _ _ _ _ _ _ _)
      | (with_reducible exact laws_short.mono _ _)
      | (with_reducible exact laws_word.mono _ _)
      | (with_reducible exact laws_zzFits1.mono _ _)
      | (with_reducible exact LeO.refl _)
      | (with_reducible exact LeO.none _)
      | (with_reducible refine LeO.ite ?_ ?_)
      | (with_reducible refine LeO.bind ?_ (fun _ => ?_))
      | exact ih0 _ _ _ _
      | exact ih1 _ _ _ _
      | exact ih2 _ _ _ _ _ _ _ _
      | exact laws_short.mono _ _
      | exact laws_word.mono _ _
      | exact laws_zzFits1.mono _ _
      | exact LeO.none _
      | refine LeO.ite ?_ ?_
      | refine LeO.bind ?_ (fun _ => ?_)
    · intro y0 y1 y2 y3
      unfold laws_FnPathSteps.j1
      repeat' first
      | (with_reducible exact ih0 _ _ _ _)
      | (with_reducible exact ih1 _ _ _ _)
      | (with_reducible exact ih2 _ _ _ _ _ _ _ _)
      | (with_reducible exact laws_short.mono _ _)
      | (with_reducible exact laws_word.mono _ _)
      | (with_reducible exact laws_zzFits1.mono _ _)
      | (with_reducible exact LeO.refl _)
      | (with_reducible exact LeO.none _)
      | (with_reducible refine LeO.ite ?_ ?_)
      | (with_reducible refine LeO.bind ?_ (fun _ => ?_))
      | exact ih0 _ _ _ _
      | exact ih1 _ _ _ _
      | exact ih2 _ _ _ _ _ _ _ _
      | exact laws_short.mono _ _
      | exact laws_word.mono _ _
      | exact laws_zzFits1.mono _ _
      | exact LeO.none _
      | refine LeO.ite ?_ ?_
      | refine LeO.bind ?_ (fun _ => ?_)
    · intro y0 y1 y2 y3 y4 y5 y6 y7
      unfold laws_FnPathSteps.l0
      repeat' first
      | (with_reducible exact ih0 _ _ _ _)
      | (with_reducible exact ih1 _ _ _ _)
      | (with_reducible exact ih2 _ _ _ _ _ _ _ _)
      | (with_reducible exact laws_short.mono _ _)
      | (with_reducible exact laws_word.mono _ _)
      | (with_reducible exact laws_zzFits1.mono _ _)
      | (with_reducible exact LeO.refl _)
      | (with_reducible exact LeO.none _)
      | (with_reducible refine LeO.ite ?_ ?_)
      | (with_reducible refine LeO.bind ?_ (fun _ => ?_))
      | exact ih0 _ _ _ _
      | exact ih1 _ _ _ _
      | exact ih2 _ _ _ _ _ _ _ _
      | exact laws_short.mono _ _
      | exact laws_word.mono _ _
      | exact laws_zzFits1.mono _ _
      | exact LeO.none _
      | refine LeO.ite ?_ ?_
      | refine LeO.bind ?_ (fun _ => ?_)
theorem laws_FnPathSteps.mono : ∀ a0 a1 a2 k, LeO (laws_FnPathSteps.f k a0 a1 a2) (laws_FnPathSteps.f (k + 1) a0 a1 a2) := by
  intro a0 a1 a2 k
  obtain ⟨ih0, ih1, ih2⟩ := laws_FnPathSteps.mono_l k
  unfold laws_FnPathSteps.f
  repeat' first
      | (with_reducible exact ih0 _ _ _ _)
      | (with_reducible exact ih1 _ _ _ _)
      | (with_reducible exact ih2 _ _ _ _ _ _ _ _)
      | (with_reducible exact laws_short.mono _ _)
      | (with_reducible exact laws_word.mono _ _)
      | (with_reducible exact laws_zzFits1.mono _ _)
      | (with_reducible exact LeO.refl _)
      | (with_reducible exact LeO.none _)
      | (with_reducible refine LeO.ite ?_ ?_)
      | (with_reducible refine LeO.bind ?_ (fun _ => ?_))
      | exact ih0 _ _ _ _
      | exact ih1 _ _ _ _
      | exact ih2 _ _ _ _ _ _ _ _
      | exact laws_short.mono _ _
      | exact laws_word.mono _ _
      | exact laws_zzFits1.mono _ _
      | exact LeO.none _
      | refine LeO.ite ?_ ?_
      | refine LeO.bind ?_ (fun _ => ?_)
set_option maxHeartbeats 8000000 in
set_option maxRecDepth 100000 in
theorem laws_FnPathSteps.calls (k : Nat) (A0 : Option Addr) (c0 : Nat) (l0 : List ByteArray) (a1 : Int) (a2 : ByteArray) (r : Bool) (w : World) (hr0 : Kd.C Kd.string w A0 l0.length l0) (hc0 : l0.length ≤ c0) (h : laws_FnPathSteps.f k l0 a1 a2 = some r) :
    Calls Try.prog 6 #[.slice A0 l0.length c0, .int .i64 a1, .string a2] w fun e w' => e = .returned (.bool r) ∧ Below w.heap.size w w' := by
  have HR0 := Aside0.mk hr0
  have HC0 := Aside0.mk hc0
  clear hr0 hc0
  have HB := Aside0.mk (Below.refl w.heap.size w)
  have H : ((laws_zzFits1.f k l0).bind fun t193 => (if t193 = true then (laws_FnPathSteps.j0 k l0 a1 a2 (decide ((a2.size : Int) > 2147483647))) else (laws_FnPathSteps.j0 k l0 a1 a2 true))) = some r := h
  clear h
  have HC4 := Aside0.mk H
  clear H
  go_enter Try.func6, Try.ntmps6
  go_upto_region 1 with (fail)
  go_cut [18] (fun v18 wc => ∃ (kq : Nat) (x18_3 : Bool), v18 = .bool x18_3 ∧ Aside0 (laws_FnPathSteps.j0 kq l0 a1 a2 x18_3 = some r) ∧ Aside0 (kq ≤ k) ∧ Aside0 (Below w.heap.size w wc))
  case first =>
    have H := HC4.out
    clear HC4
    replace H := Option.bind_eq_some_iff.mp H
    obtain ⟨t193, A50, H⟩ := H
    replace H : (if t193 = true then (laws_FnPathSteps.j0 k l0 a1 a2 (decide ((a2.size : Int) > 2147483647))) else (laws_FnPathSteps.j0 k l0 a1 a2 true)) = some r := H
    have A5 := Aside0.mk A50
    clear A50
    by_cases c6 : t193 = true
    · subst c6
      have H1 : (laws_FnPathSteps.j0 k l0 a1 a2 (decide ((a2.size : Int) > 2147483647))) = some r := by rw [if_pos rfl] at H; exact H
      clear H
      have H := H1
      clear H1
      have H' := Aside0.mk H
      clear H
      go_wp2_with (first | ((with_reducible refine gate_callee (f := 20) rfl ?_); refine goesL_ (some 12) rfl rfl Try.func20 (by kernel_rfl) rfl #[.slice A0 l0.length c0] rfl (by (try simp only [List.map_toArray, List.map_cons, List.map_nil]); first | done | rfl | (simp only [List.length_drop, List.length_take]; rfl)) ?_; (with_reducible refine (laws_zzFits1.calls k _ _ l0 true _ ?side1 ?side2 A5.out).mono ?_); (case side1 => repeat (first | exact (Kd.C_below HR0.out HB.out) | (with_reducible refine Kd.C_alloc ?_ _) | (with_reducible refine Kd.C_drewN ?_ _) | (with_reducible refine Kd.C_drew ?_))); (case side2 => exact HC0.out); rintro e w' ⟨rfl, ⟨nd, rfl⟩⟩; refine ⟨_, rfl, ?_⟩))
      go_meet
      case rel => exact ⟨_, (decide ((a2.size : Int) > 2147483647)), (by first | rfl | (simp; done) | (simp [*]; done) | (simp [Go.Proofs.YtjklempjljikpaaX.isEmpty_ne]; done)), H', ⟨by first | omega | exact Nat.le_refl _⟩, ⟨by repeat (first | (with_reducible first | exact HB.out | apply below_alloc | apply pw_below_drewN | apply below_drew1) | exact HB.out)⟩⟩
    · replace c6 := Bool.eq_false_iff.mpr c6
      subst c6
      have H1 : (laws_FnPathSteps.j0 k l0 a1 a2 true) = some r := by rw [if_neg (show ¬ (false = true) by decide)] at H; exact H
      clear H
      have H := H1
      clear H1
      have H' := Aside0.mk H
      clear H
      go_wp2_with (first | ((with_reducible refine gate_callee (f := 20) rfl ?_); refine goesL_ (some 12) rfl rfl Try.func20 (by kernel_rfl) rfl #[.slice A0 l0.length c0] rfl (by (try simp only [List.map_toArray, List.map_cons, List.map_nil]); first | done | rfl | (simp only [List.length_drop, List.length_take]; rfl)) ?_; (with_reducible refine (laws_zzFits1.calls k _ _ l0 false _ ?side1 ?side2 A5.out).mono ?_); (case side1 => repeat (first | exact (Kd.C_below HR0.out HB.out) | (with_reducible refine Kd.C_alloc ?_ _) | (with_reducible refine Kd.C_drewN ?_ _) | (with_reducible refine Kd.C_drew ?_))); (case side2 => exact HC0.out); rintro e w' ⟨rfl, ⟨nd, rfl⟩⟩; refine ⟨_, rfl, ?_⟩))
      go_meet
      case rel => exact ⟨_, (true), (by first | rfl | (simp; done) | (simp [*]; done) | (simp [Go.Proofs.YtjklempjljikpaaX.isEmpty_ne]; done)), H', ⟨by first | omega | exact Nat.le_refl _⟩, ⟨by repeat (first | (with_reducible first | exact HB.out | apply below_alloc | apply pw_below_drewN | apply below_drew1) | exact HB.out)⟩⟩
  case rest =>
    clear HC4
    try clear c2
    try clear p2
    try clear c6
    obtain ⟨kq, x18_3, rfl, HA, HJ3, HB⟩ := hcut
    cases kq with
    | zero => exact absurd HA.out (by simp [laws_FnPathSteps.j0])
    | succ kj3 =>
      have H := HA.out
      clear HA
      simp only [laws_FnPathSteps.j0] at H
      by_cases c7 : x18_3 = true
      · subst c7
        have H1 : (some true) = some r := by rw [if_pos rfl] at H; exact H
        clear H
        have H := H1
        clear H1
        obtain rfl := Option.some.inj H
        go_wp2
        go_ret
        exact ⟨by first | rfl | (simp [errW_none, errW_some] <;> rfl) | (simp [*, errW_none, errW_some] <;> rfl), by repeat (first | (with_reducible first | exact HB.out | apply below_alloc | apply pw_below_drewN | apply below_drew1) | exact HB.out)⟩
      · replace c7 := Bool.eq_false_iff.mpr c7
        subst c7
        have H1 : ((laws_cleans.f).bind fun t194 => (if t194 = true then (if a1 < 0 then (laws_FnPathSteps.j1 kj3 l0 a1 a2 true) else (if a1 > (l0.length : Int) then (laws_FnPathSteps.j1 kj3 l0 a1 a2 true) else (if (l0.length : Int) > 20 then (laws_FnPathSteps.j1 kj3 l0 a1 a2 true) else ((laws_word.f kj3 a2).bind fun t195 => (if t195 = true then (if (l0.length : Int) = 0 then (laws_FnPathSteps.j1 kj3 l0 a1 a2 true) else ((some (([] : List ByteArray) : List ByteArray)).bind fun y196 => (if y196.length + l0.length < 8796093022208 then ((some (y196 ++ l0 : List ByteArray)).bind fun y199 => (if y199.length < 8796093022208 then ((laws_short.f kj3 (y199 ++ [a2])).bind fun t205 => (laws_FnPathSteps.j1 kj3 l0 a1 a2 (!t205))) else (none))) else (none)))) else (laws_FnPathSteps.j1 kj3 l0 a1 a2 true)))))) else (some false))) = some r := by rw [if_neg (show ¬ (false = true) by decide)] at H; exact H
        clear H
        have H := H1
        clear H1
        replace H := Option.bind_eq_some_iff.mp H
        obtain ⟨t194, A80, H⟩ := H
        replace H : (if t194 = true then (if a1 < 0 then (laws_FnPathSteps.j1 kj3 l0 a1 a2 true) else (if a1 > (l0.length : Int) then (laws_FnPathSteps.j1 kj3 l0 a1 a2 true) else (if (l0.length : Int) > 20 then (laws_FnPathSteps.j1 kj3 l0 a1 a2 true) else ((laws_word.f kj3 a2).bind fun t195 => (if t195 = true then (if (l0.length : Int) = 0 then (laws_FnPathSteps.j1 kj3 l0 a1 a2 true) else ((some (([] : List ByteArray) : List ByteArray)).bind fun y196 => (if y196.length + l0.length < 8796093022208 then ((some (y196 ++ l0 : List ByteArray)).bind fun y199 => (if y199.length < 8796093022208 then ((laws_short.f kj3 (y199 ++ [a2])).bind fun t205 => (laws_FnPathSteps.j1 kj3 l0 a1 a2 (!t205))) else (none))) else (none)))) else (laws_FnPathSteps.j1 kj3 l0 a1 a2 true)))))) else (some false)) = some r := H
        have A8 := Aside0.mk A80
        clear A80
        by_cases c9 : t194 = true
        · subst c9
          have H1 : (if a1 < 0 then (laws_FnPathSteps.j1 kj3 l0 a1 a2 true) else (if a1 > (l0.length : Int) then (laws_FnPathSteps.j1 kj3 l0 a1 a2 true) else (if (l0.length : Int) > 20 then (laws_FnPathSteps.j1 kj3 l0 a1 a2 true) else ((laws_word.f kj3 a2).bind fun t195 => (if t195 = true then (if (l0.length : Int) = 0 then (laws_FnPathSteps.j1 kj3 l0 a1 a2 true) else ((some (([] : List ByteArray) : List ByteArray)).bind fun y196 => (if y196.length + l0.length < 8796093022208 then ((some (y196 ++ l0 : List ByteArray)).bind fun y199 => (if y199.length < 8796093022208 then ((laws_short.f kj3 (y199 ++ [a2])).bind fun t205 => (laws_FnPathSteps.j1 kj3 l0 a1 a2 (!t205))) else (none))) else (none)))) else (laws_FnPathSteps.j1 kj3 l0 a1 a2 true)))))) = some r := by rw [if_pos rfl] at H; exact H
          clear H
          have H := H1
          clear H1
          have HC10 := Aside0.mk H
          clear H
          go_upto_region 5 with (first | ((with_reducible refine gate_callee (f := 13) rfl ?_); refine goesL_ (some 19) rfl rfl Try.func13 (by kernel_rfl) rfl #[] rfl (by (try simp only [List.map_toArray, List.map_cons, List.map_nil]); first | done | rfl | (simp only [List.length_drop, List.length_take]; rfl)) ?_; (with_reducible refine (laws_cleans.calls  true _ A8.out).mono ?_); rintro e w11 ⟨rfl, hb⟩; refine ⟨_, rfl, ?_⟩; have n0_ := Aside0.mk (below_step (by repeat (first | (with_reducible first | exact HB.out | apply below_alloc | apply pw_below_drewN | apply below_drew1) | exact HB.out)) hb); clear HB; have HB := n0_; clear n0_; (try clear hb); (try clear hb2); (try clear hk); (try clear hi)))
          (try simp only [Act.put, List.setIfInBounds_toArray, List.set_cons_zero, List.set_cons_succ])
          go_cut [53] (fun v53 wc => ∃ (kq : Nat) (x53_9 : Bool), v53 = .bool x53_9 ∧ Aside0 (laws_FnPathSteps.j1 kq l0 a1 a2 x53_9 = some r) ∧ Aside0 (kq ≤ kj3) ∧ Aside0 (Below w.heap.size w wc))
          case first =>
            have H := HC10.out
            clear HC10
            by_cases c12 : a1 < 0
            · rw [if_pos c12] at H
              have c12b0 : decide (a1 < 0) = true := decide_eq_true c12
              clear c12
              (first | rw [c12b0] | (simp only [i64_w, i32_w]; rw [c12b0]) | skip)
              have H' := Aside0.mk H
              clear H
              go_wp2
              go_meet
              case rel => exact ⟨_, (true), (by first | rfl | (simp; done) | (simp [*]; done) | (simp [Go.Proofs.YtjklempjljikpaaX.isEmpty_ne]; done)), H', ⟨by have := HJ3.out; first | omega | exact Nat.le_refl _⟩, ⟨by repeat (first | (with_reducible first | exact HB.out | apply below_alloc | apply pw_below_drewN | apply below_drew1) | exact HB.out)⟩⟩
            · rw [if_neg c12] at H
              have c12b0 : decide (a1 < 0) = false := decide_eq_false c12
              clear c12
              (first | rw [c12b0] | (simp only [i64_w, i32_w]; rw [c12b0]) | skip)
              by_cases c13 : a1 > (l0.length : Int)
              · rw [if_pos c13] at H
                have c13b0 : decide ((l0.length : Int) < a1) = true := decide_eq_true c13
                clear c13
                have H' := Aside0.mk H
                clear H
                go_wp2
                go_meet
                case rel => exact ⟨_, (true), (by first | rfl | (simp; done) | (simp [*]; done) | (simp [Go.Proofs.YtjklempjljikpaaX.isEmpty_ne]; done)), H', ⟨by have := HJ3.out; first | omega | exact Nat.le_refl _⟩, ⟨by repeat (first | (with_reducible first | exact HB.out | apply below_alloc | apply pw_below_drewN | apply below_drew1) | exact HB.out)⟩⟩
              · rw [if_neg c13] at H
                have c13b0 : decide ((l0.length : Int) < a1) = false := decide_eq_false c13
                clear c13
                by_cases c14 : (l0.length : Int) > 20
                · rw [if_pos c14] at H
                  have c14b0 : decide (20 < (l0.length : Int)) = true := decide_eq_true c14
                  have c14b1 : decide (20 < l0.length) = true := decide_eq_true (by omega)
                  clear c14
                  have H' := Aside0.mk H
                  clear H
                  go_wp2
                  go_meet
                  case rel => exact ⟨_, (true), (by first | rfl | (simp; done) | (simp [*]; done) | (simp [Go.Proofs.YtjklempjljikpaaX.isEmpty_ne]; done)), H', ⟨by have := HJ3.out; first | omega | exact Nat.le_refl _⟩, ⟨by repeat (first | (with_reducible first | exact HB.out | apply below_alloc | apply pw_below_drewN | apply below_drew1) | exact HB.out)⟩⟩
                · rw [if_neg c14] at H
                  have c14b0 : decide (20 < (l0.length : Int)) = false := decide_eq_false c14
                  have c14b1 : decide (20 < l0.length) = false := decide_eq_false (by omega)
                  clear c14
                  replace H := Option.bind_eq_some_iff.mp H
                  obtain ⟨t195, A150, H⟩ := H
                  replace H : (if t195 = true then (if (l0.length : Int) = 0 then (laws_FnPathSteps.j1 kj3 l0 a1 a2 true) else ((some (([] : List ByteArray) : List ByteArray)).bind fun y196 => (if y196.length + l0.length < 8796093022208 then ((some (y196 ++ l0 : List ByteArray)).bind fun y199 => (if y199.length < 8796093022208 then ((laws_short.f kj3 (y199 ++ [a2])).bind fun t205 => (laws_FnPathSteps.j1 kj3 l0 a1 a2 (!t205))) else (none))) else (none)))) else (laws_FnPathSteps.j1 kj3 l0 a1 a2 true)) = some r := H
                  have A15 := Aside0.mk A150
                  clear A150
                  by_cases c16 : t195 = true
                  · subst c16
                    have H1 : (if (l0.length : Int) = 0 then (laws_FnPathSteps.j1 kj3 l0 a1 a2 true) else ((some (([] : List ByteArray) : List ByteArray)).bind fun y196 => (if y196.length + l0.length < 8796093022208 then ((some (y196 ++ l0 : List ByteArray)).bind fun y199 => (if y199.length < 8796093022208 then ((laws_short.f kj3 (y199 ++ [a2])).bind fun t205 => (laws_FnPathSteps.j1 kj3 l0 a1 a2 (!t205))) else (none))) else (none)))) = some r := by rw [if_pos rfl] at H; exact H
                    clear H
                    have H := H1
                    clear H1
                    by_cases c17 : (l0.length : Int) = 0
                    · rw [if_pos c17] at H
                      have c17b0 : ((l0.length : Int) == 0) = true := beq_iff_eq.mpr c17
                      have c17b1 : ((l0.length : Int) != 0) = false := bne_eq_false_iff_eq.mpr c17
                      clear c17
                      have H' := Aside0.mk H
                      clear H
                      go_wp2_with (first | (go_at_call 21; (with_reducible refine (laws_word.calls kj3 a2 true _ A15.out).mono ?_); rintro e w' ⟨rfl, ⟨nd, rfl⟩⟩))
                      go_meet
                      case rel => exact ⟨_, (true), (by first | rfl | (simp; done) | (simp [*]; done) | (simp [Go.Proofs.YtjklempjljikpaaX.isEmpty_ne]; done)), H', ⟨by have := HJ3.out; first | omega | exact Nat.le_refl _⟩, ⟨by repeat (first | (with_reducible first | exact HB.out | apply below_alloc | apply pw_below_drewN | apply below_drew1) | exact HB.out)⟩⟩
                    · rw [if_neg c17] at H
                      have c17b0 : ((l0.length : Int) == 0) = false := beq_eq_false_iff_ne.mpr c17
                      have c17b1 : ((l0.length : Int) != 0) = true := bne_iff_ne.mpr c17
                      have c17b2 : ¬ (l0 = []) := fun h_ => c17 (by rw [h_]; rfl)
                      obtain ⟨y196, hy196⟩ : ∃ y_ : List ByteArray, y_ = (([] : List ByteArray)) := ⟨_, rfl⟩
                      replace H : (if y196.length + l0.length < 8796093022208 then ((some (y196 ++ l0 : List ByteArray)).bind fun y199 => (if y199.length < 8796093022208 then ((laws_short.f kj3 (y199 ++ [a2])).bind fun t205 => (laws_FnPathSteps.j1 kj3 l0 a1 a2 (!t205))) else (none))) else (none)) = some r := by first | (rw [hy196]; with_reducible exact H) | (have H2_ := (Option.bind_some _ _).symm.trans H; rw [hy196]; with_reducible exact H2_) | (have H2_ := (Option.bind_some _ _).symm.trans H; with_reducible exact H2_) | with_reducible exact H | (rw [hy196]; exact H) | exact H
                      have Ny196 := Aside0.mk hy196
                      clear hy196
                      by_cases c18 : y196.length + l0.length < 8796093022208
                      · rw [if_pos c18] at H
                        have LMc18 := Aside0.mk c18
                        clear c18
                        obtain ⟨y199, hy199⟩ : ∃ y_ : List ByteArray, y_ = (y196 ++ l0) := ⟨_, rfl⟩
                        replace H : (if y199.length < 8796093022208 then ((laws_short.f kj3 (y199 ++ [a2])).bind fun t205 => (laws_FnPathSteps.j1 kj3 l0 a1 a2 (!t205))) else (none)) = some r := by first | (rw [hy199]; with_reducible exact H) | (have H2_ := (Option.bind_some _ _).symm.trans H; rw [hy199]; with_reducible exact H2_) | (have H2_ := (Option.bind_some _ _).symm.trans H; with_reducible exact H2_) | with_reducible exact H | (rw [hy199]; exact H) | exact H
                        have Ny199 := Aside0.mk hy199
                        clear hy199
                        by_cases c19 : y199.length < 8796093022208
                        · rw [if_pos c19] at H
                          have LMc19 := Aside0.mk c19
                          clear c19
                          obtain ⟨y202, hy202⟩ : ∃ y_ : List ByteArray, y_ = (y199 ++ [a2]) := ⟨_, rfl⟩
                          replace H : ((laws_short.f kj3 y202).bind fun t205 => (laws_FnPathSteps.j1 kj3 l0 a1 a2 (!t205))) = some r := by first | (rw [hy202]; with_reducible exact H) | (have H2_ := (Option.bind_some _ _).symm.trans H; rw [hy202]; with_reducible exact H2_) | (have H2_ := (Option.bind_some _ _).symm.trans H; with_reducible exact H2_) | with_reducible exact H | (rw [hy202]; exact H) | exact H
                          have Ny202 := Aside0.mk hy202
                          clear hy202
                          replace H := Option.bind_eq_some_iff.mp H
                          obtain ⟨t205, A200, H⟩ := H
                          replace H : (laws_FnPathSteps.j1 kj3 l0 a1 a2 (!t205)) = some r := H
                          have A20 := Aside0.mk A200
                          clear A200
                          have H' := Aside0.mk H
                          clear H
                          go_wp2_with (first | (go_at_call 21; (with_reducible refine (laws_word.calls kj3 a2 true _ A15.out).mono ?_); rintro e w' ⟨rfl, ⟨nd, rfl⟩⟩) | ((with_reducible refine gate_dst (N := 45) rfl ?_); (try (refine gate_guard (by rfl) ?_; dsimp only)); refine Kd.R_lit Kd.string _ 9 ?hg (N := 45) ?hd (xs := ([] : List ByteArray)) (inner := []) (ok := fun _ => True) (okp := fun _ => True) ?hr ?hp (fun _ hk => hk) trivial (Below.refl _ _) (Nat.le_refl _) (by simp) ?_; (case hd => rfl); (case hg => rfl); (case hr => first | (go_simp; done) | (go_simp; rfl)); (case hp => exact (Reps.none _ _)); intro v197 w21 ho22 hb hg_ hnew_; clear hg_ hnew_; (first | rw [← Ny196.out] at ho22 | (simp only [Int.reduceToNat] at ho22; rw [← Ny196.out] at ho22)); have n0_ := Aside0.mk (Kd.R_lower ho22 (below_size (by repeat (first | (with_reducible first | exact HB.out | apply below_alloc | apply pw_below_drewN | apply below_drew1) | exact HB.out)))); have n1_ := Aside0.mk (below_step (by repeat (first | (with_reducible first | exact HB.out | apply below_alloc | apply pw_below_drewN | apply below_drew1) | exact HB.out)) hb); clear HB; have HO198 := n0_; have HB := n1_; clear n0_ n1_; clear hb ho22) | ((with_reducible refine gate_builtin (b := .append) (xs := #[.tmp 45, .tmp 46]) rfl ?_); (try (refine gate_guard (by rfl) ?_; dsimp only)); at_builtin; refine Kd.R_append_rows Kd.string (w0 := w) w.heap.size rfl (.tmp 45) (.tmp 46) 30 9 (.string ⟨#[]⟩) 16 rfl Try.underlying30 info9 rfl (by decide) (by omega) v197 y196 l0 _ _ _ (fun _ => True) (fun _ => False) rfl rfl ?aO ?aR (fun _ _ h => h) (fun _ h => h.elim) ?aF ?aB ?aS ?aL ?_; (case aR => repeat (first | exact (Kd.C_below HR0.out HB.out) | (with_reducible refine Kd.C_alloc ?_ _) | (with_reducible refine Kd.C_drewN ?_ _) | (with_reducible refine Kd.C_drew ?_))); (case aB => exact (by repeat (first | (with_reducible first | exact HB.out | apply below_alloc | apply pw_below_drewN | apply below_drew1) | exact HB.out))); (case aF => exact (fun _ _ => trivial)); (case aO => exact (by (with_reducible repeat (first | apply Kd.R_alloc | apply Kd.R_drewN | apply Kd.R_drew)); exact HO198.out)); (case aS => exact (below_size (by repeat (first | (with_reducible first | exact HB.out | apply below_alloc | apply pw_below_drewN | apply below_drew1) | exact HB.out)))); (case aL => have := LMc18.out; omega); intro v200 w23 ho hb hg hat; rw [← Ny199.out] at ho; have n0_ := Aside0.mk (hb); have n1_ := Aside0.mk (ho); clear HB; clear HO198; have HB := n0_; have HO201 := n1_; clear n0_ n1_; clear ho hb hg hat) | ((with_reducible refine gate_builtin (b := .append) (xs := #[.tmp 47, .tmp 49]) rfl ?_); (try (refine gate_guard (by rfl) ?_; dsimp only)); at_builtin; refine Kd.R_append Kd.string (w0 := w) w.heap.size rfl (.tmp 47) (.tmp 49) 30 9 (.string ⟨#[]⟩) 16 rfl Try.underlying30 info9 rfl (by decide) (by omega) v200 y199 a2 [.string a2] (fun _ => True) (fun _ => False) rfl rfl ?aP (fun _ hk => hk.elim) ?aF ?aO ?aB ?aS ?aL ?_; (case aP => exact rfl); (case aB => exact (by repeat (first | (with_reducible first | exact HB.out | apply below_alloc | apply pw_below_drewN | apply below_drew1) | exact HB.out))); (case aF => exact (fun _ _ => trivial)); (case aO => exact (by (with_reducible repeat (first | apply Kd.R_alloc | apply Kd.R_drewN | apply Kd.R_drew)); exact HO201.out)); (case aS => exact (below_size (by repeat (first | (with_reducible first | exact HB.out | apply below_alloc | apply pw_below_drewN | apply below_drew1) | exact HB.out)))); (case aL => have := LMc19.out; omega); intro v203 w24 ho hb hg hat; rw [← Ny202.out] at ho; have n0_ := Aside0.mk (hb); have n1_ := Aside0.mk (ho); clear HB; clear HO201; have HB := n0_; have HO204 := n1_; clear n0_ n1_; clear ho hb hg hat; obtain ⟨Ao25, co25, eo25⟩ := Kd.R_slice HO204.out; subst eo25) | (go_at_call 14; (with_reducible refine (laws_short.calls kj3 _ _ y202 t205 _ ?side1 ?side2 A20.out).mono ?_); (case side1 => repeat (first | exact (Kd.R_reads' HO204.out).2.2 | (with_reducible refine Kd.C_alloc ?_ _) | (with_reducible refine Kd.C_drewN ?_ _) | (with_reducible refine Kd.C_drew ?_))); (case side2 => exact (Kd.R_reads' HO204.out).2.1); rintro e w' ⟨rfl, ⟨nd, rfl⟩⟩))
                          go_meet
                          case rel => exact ⟨_, (!t205), (by first | rfl | (simp; done) | (simp [*]; done) | (simp [Go.Proofs.YtjklempjljikpaaX.isEmpty_ne]; done)), H', ⟨by have := HJ3.out; first | omega | exact Nat.le_refl _⟩, ⟨by repeat (first | (with_reducible first | exact HB.out | apply below_alloc | apply pw_below_drewN | apply below_drew1) | exact HB.out)⟩⟩
                        · rw [if_neg c19] at H
                          exact absurd H (by simp)
                      · rw [if_neg c18] at H
                        exact absurd H (by simp)
                  · replace c16 := Bool.eq_false_iff.mpr c16
                    subst c16
                    have H1 : (laws_FnPathSteps.j1 kj3 l0 a1 a2 true) = some r := by rw [if_neg (show ¬ (false = true) by decide)] at H; exact H
                    clear H
                    have H := H1
                    clear H1
                    have H' := Aside0.mk H
                    clear H
                    go_wp2_with (first | (go_at_call 21; (with_reducible refine (laws_word.calls kj3 a2 false _ A15.out).mono ?_); rintro e w' ⟨rfl, ⟨nd, rfl⟩⟩))
                    go_meet
                    case rel => exact ⟨_, (true), (by first | rfl | (simp; done) | (simp [*]; done) | (simp [Go.Proofs.YtjklempjljikpaaX.isEmpty_ne]; done)), H', ⟨by have := HJ3.out; first | omega | exact Nat.le_refl _⟩, ⟨by repeat (first | (with_reducible first | exact HB.out | apply below_alloc | apply pw_below_drewN | apply below_drew1) | exact HB.out)⟩⟩
          case rest =>
            clear HC10
            try clear c1
            try clear c2
            try clear p2
            try clear c6
            try clear c7
            try clear c9
            try clear c12
            try clear c12b0
            try clear c13
            try clear c13b0
            try clear c14
            try clear c14b0
            try clear c14b1
            try clear c16
            try clear c17
            try clear c17b0
            try clear c17b1
            try clear c17b2
            try clear c18
            try clear c19
            try clear c20
            try clear p2
            obtain ⟨kq, x53_9, rfl, HA, HJ9, HB⟩ := hcut
            cases kq with
            | zero => exact absurd HA.out (by simp [laws_FnPathSteps.j1])
            | succ kj9 =>
              have H := HA.out
              clear HA
              simp only [laws_FnPathSteps.j1] at H
              by_cases c26 : x53_9 = true
              · subst c26
                have H1 : (some true) = some r := by rw [if_pos rfl] at H; exact H
                clear H
                have H := H1
                clear H1
                obtain rfl := Option.some.inj H
                go_wp2
                go_ret
                exact ⟨by first | rfl | (simp [errW_none, errW_some] <;> rfl) | (simp [*, errW_none, errW_some] <;> rfl), by repeat (first | (with_reducible first | exact HB.out | apply below_alloc | apply pw_below_drewN | apply below_drew1) | exact HB.out)⟩
              · replace c26 := Bool.eq_false_iff.mpr c26
                subst c26
                have H1 : (laws_FnPathSteps.l0 kj9 l0 a1 a2 (⟨#[]⟩ : ByteArray) (⟨#[]⟩ : ByteArray) l0 (l0.length : Int) 0) = some r := by rw [if_neg (show ¬ (false = true) by decide)] at H; exact H
                clear H
                have H := H1
                clear H1
                have H' := Aside0.mk H
                clear H
                go_wp2
                go_loopg [7, 8, 56] kj9 (fun kq v7 v8 v56 w' => ∃ (x7_3 : ByteArray) (x8_3 : ByteArray) (x56_3 : Int), v7 = .string x7_3 ∧ v8 = .string x8_3 ∧ v56 = .int .i64 x56_3 ∧ Aside0 (laws_FnPathSteps.l0 kq l0 a1 a2 x7_3 x8_3 l0 (l0.length : Int) x56_3 = some r) ∧ Aside0 (kq ≤ kj9) ∧ Aside0 (Below w.heap.size w w'))
                case atStart => exact ⟨((⟨#[]⟩ : ByteArray)), ((⟨#[]⟩ : ByteArray)), (0), (by first | rfl | (simp; done) | (simp [*]; done) | (simp [Go.Proofs.YtjklempjljikpaaX.isEmpty_ne]; done)), (by first | rfl | (simp; done) | (simp [*]; done) | (simp [Go.Proofs.YtjklempjljikpaaX.isEmpty_ne]; done)), (by first | rfl | (simp; done) | (simp [*]; done) | (simp [Go.Proofs.YtjklempjljikpaaX.isEmpty_ne]; done)), H', ⟨Nat.le_refl _⟩, ⟨by repeat (first | (with_reducible first | exact HB.out | apply below_alloc | apply pw_below_drewN | apply below_drew1) | exact HB.out)⟩⟩
                case round =>
                  clear H'
                  try clear c1
                  try clear c2
                  try clear p2
                  try clear c6
                  try clear c7
                  try clear c9
                  try clear c12
                  try clear c12b0
                  try clear c13
                  try clear c13b0
                  try clear c14
                  try clear c14b0
                  try clear c14b1
                  try clear c16
                  try clear c17
                  try clear c17b0
                  try clear c17b1
                  try clear c17b2
                  try clear c18
                  try clear c19
                  try clear c20
                  try clear c26
                  try clear p2
                  obtain ⟨x7_3, x8_3, x56_3, rfl, rfl, rfl, HA, HK3, HB⟩ := hrel
                  cases gk with
                  | zero => exact absurd HA.out (by simp [laws_FnPathSteps.l0])
                  | succ k3 =>
                    have H := HA.out
                    clear HA
                    simp only [laws_FnPathSteps.l0] at H
                    by_cases c27 : x56_3 < (l0.length : Int)
                    · rw [if_pos c27] at H
                      have c27b0 : decide (x56_3 < (l0.length : Int)) = true := decide_eq_true c27
                      clear c27
                      by_cases c28 : 0 ≤ x56_3
                      · rw [if_pos c28] at H
                        have c28b0 : decide (0 ≤ x56_3) = true := decide_eq_true c28
                        clear c28
                        by_cases c29 : x56_3 < (l0.length : Int)
                        · rw [if_pos c29] at H
                          have c29b0 : decide (x56_3 < (l0.length : Int)) = true := decide_eq_true c29
                          clear c29
                          replace H := Option.bind_eq_some_iff.mp H
                          obtain ⟨t208, A300, H⟩ := H
                          replace H : (if t208 = true then (if x56_3 = a1 then (if 1 + a2.size ≤ 9223372036854775807 then (if 1 + a2.size + 3 ≤ 9223372036854775807 then (if x8_3.size + (1 + a2.size + 3) ≤ 9223372036854775807 then (if 1 + (rdOf ByteArray.empty l0 x56_3).size ≤ 9223372036854775807 then (if x7_3.size + (1 + (rdOf ByteArray.empty l0 x56_3).size) ≤ 9223372036854775807 then (if x8_3.size + (1 + a2.size + 3) + (1 + (rdOf ByteArray.empty l0 x56_3).size) ≤ 9223372036854775807 then (laws_FnPathSteps.l0 k3 l0 a1 a2 (x7_3 ++ ((⟨#[47]⟩ : ByteArray) ++ (rdOf ByteArray.empty l0 x56_3))) ((x8_3 ++ (((⟨#[47]⟩ : ByteArray) ++ a2) ++ (⟨#[47, 46, 46]⟩ : ByteArray))) ++ ((⟨#[47]⟩ : ByteArray) ++ (rdOf ByteArray.empty l0 x56_3))) l0 (l0.length : Int) (wrap64 (x56_3 + 1))) else (none)) else (none)) else (none)) else (none)) else (none)) else (none)) else (if 1 + (rdOf ByteArray.empty l0 x56_3).size ≤ 9223372036854775807 then (if x7_3.size + (1 + (rdOf ByteArray.empty l0 x56_3).size) ≤ 9223372036854775807 then (if x8_3.size + (1 + (rdOf ByteArray.empty l0 x56_3).size) ≤ 9223372036854775807 then (laws_FnPathSteps.l0 k3 l0 a1 a2 (x7_3 ++ ((⟨#[47]⟩ : ByteArray) ++ (rdOf ByteArray.empty l0 x56_3))) (x8_3 ++ ((⟨#[47]⟩ : ByteArray) ++ (rdOf ByteArray.empty l0 x56_3))) l0 (l0.length : Int) (wrap64 (x56_3 + 1))) else (none)) else (none)) else (none))) else (some true)) = some r := H
                          have A30 := Aside0.mk A300
                          clear A300
                          by_cases c31 : t208 = true
                          · subst c31
                            have H1 : (if x56_3 = a1 then (if 1 + a2.size ≤ 9223372036854775807 then (if 1 + a2.size + 3 ≤ 9223372036854775807 then (if x8_3.size + (1 + a2.size + 3) ≤ 9223372036854775807 then (if 1 + (rdOf ByteArray.empty l0 x56_3).size ≤ 9223372036854775807 then (if x7_3.size + (1 + (rdOf ByteArray.empty l0 x56_3).size) ≤ 9223372036854775807 then (if x8_3.size + (1 + a2.size + 3) + (1 + (rdOf ByteArray.empty l0 x56_3).size) ≤ 9223372036854775807 then (laws_FnPathSteps.l0 k3 l0 a1 a2 (x7_3 ++ ((⟨#[47]⟩ : ByteArray) ++ (rdOf ByteArray.empty l0 x56_3))) ((x8_3 ++ (((⟨#[47]⟩ : ByteArray) ++ a2) ++ (⟨#[47, 46, 46]⟩ : ByteArray))) ++ ((⟨#[47]⟩ : ByteArray) ++ (rdOf ByteArray.empty l0 x56_3))) l0 (l0.length : Int) (wrap64 (x56_3 + 1))) else (none)) else (none)) else (none)) else (none)) else (none)) else (none)) else (if 1 + (rdOf ByteArray.empty l0 x56_3).size ≤ 9223372036854775807 then (if x7_3.size + (1 + (rdOf ByteArray.empty l0 x56_3).size) ≤ 9223372036854775807 then (if x8_3.size + (1 + (rdOf ByteArray.empty l0 x56_3).size) ≤ 9223372036854775807 then (laws_FnPathSteps.l0 k3 l0 a1 a2 (x7_3 ++ ((⟨#[47]⟩ : ByteArray) ++ (rdOf ByteArray.empty l0 x56_3))) (x8_3 ++ ((⟨#[47]⟩ : ByteArray) ++ (rdOf ByteArray.empty l0 x56_3))) l0 (l0.length : Int) (wrap64 (x56_3 + 1))) else (none)) else (none)) else (none))) = some r := by rw [if_pos rfl] at H; exact H
                            clear H
                            have H := H1
                            clear H1
                            by_cases c32 : x56_3 = a1
                            · rw [if_pos c32] at H
                              have c32b0 : (x56_3 == a1) = true := beq_iff_eq.mpr c32
                              have c32b1 : (x56_3 != a1) = false := bne_eq_false_iff_eq.mpr c32
                              clear c32
                              by_cases c33 : 1 + a2.size ≤ 9223372036854775807
                              · rw [if_pos c33] at H
                                have c33b0 := eq_true c33
                                have c33b1 : decide (1 + a2.size ≤ 9223372036854775807) = true := decide_eq_true c33
                                try have c33b2 : (9223372036854775807 < 1 + a2.size) = False := eq_false (Nat.not_lt.2 c33)
                                by_cases c34 : 1 + a2.size + 3 ≤ 9223372036854775807
                                · rw [if_pos c34] at H
                                  have c34b0 := eq_true c34
                                  have c34b1 : decide (1 + a2.size + 3 ≤ 9223372036854775807) = true := decide_eq_true c34
                                  try have c34b2 : (9223372036854775807 < 1 + a2.size + 3) = False := eq_false (Nat.not_lt.2 c34)
                                  by_cases c35 : x8_3.size + (1 + a2.size + 3) ≤ 9223372036854775807
                                  · rw [if_pos c35] at H
                                    have c35b0 := eq_true c35
                                    have c35b1 : decide (x8_3.size + (1 + a2.size + 3) ≤ 9223372036854775807) = true := decide_eq_true c35
                                    try have c35b2 : (9223372036854775807 < x8_3.size + (1 + a2.size + 3)) = False := eq_false (Nat.not_lt.2 c35)
                                    by_cases c36 : 1 + (rdOf ByteArray.empty l0 x56_3).size ≤ 9223372036854775807
                                    · rw [if_pos c36] at H
                                      have c36b0 := eq_true c36
                                      have c36b1 : decide (1 + (rdOf ByteArray.empty l0 x56_3).size ≤ 9223372036854775807) = true := decide_eq_true c36
                                      try have c36b2 : (9223372036854775807 < 1 + (rdOf ByteArray.empty l0 x56_3).size) = False := eq_false (Nat.not_lt.2 c36)
                                      by_cases c37 : x7_3.size + (1 + (rdOf ByteArray.empty l0 x56_3).size) ≤ 9223372036854775807
                                      · rw [if_pos c37] at H
                                        have c37b0 := eq_true c37
                                        have c37b1 : decide (x7_3.size + (1 + (rdOf ByteArray.empty l0 x56_3).size) ≤ 9223372036854775807) = true := decide_eq_true c37
                                        try have c37b2 : (9223372036854775807 < x7_3.size + (1 + (rdOf ByteArray.empty l0 x56_3).size)) = False := eq_false (Nat.not_lt.2 c37)
                                        by_cases c38 : x8_3.size + (1 + a2.size + 3) + (1 + (rdOf ByteArray.empty l0 x56_3).size) ≤ 9223372036854775807
                                        · rw [if_pos c38] at H
                                          have c38b0 := eq_true c38
                                          have c38b1 : decide (x8_3.size + (1 + a2.size + 3) + (1 + (rdOf ByteArray.empty l0 x56_3).size) ≤ 9223372036854775807) = true := decide_eq_true c38
                                          try have c38b2 : (9223372036854775807 < x8_3.size + (1 + a2.size + 3) + (1 + (rdOf ByteArray.empty l0 x56_3).size)) = False := eq_false (Nat.not_lt.2 c38)
                                          have H' := Aside0.mk H
                                          clear H
                                          have p207 : 0 ≤ (x56_3 : Int) := of_decide_eq_true (by first | (with_reducible assumption) | assumption)
                                          have q207 : x56_3 < (l0.length : Int) := of_decide_eq_true (by first | (with_reducible assumption) | assumption)
                                          obtain ⟨ad207, e207, hx207_0⟩ := Kd.at_string HR0.out x56_3 p207 q207
                                          cases e207
                                          replace hx207_0 := (HB.out.cell (World.block_lt_of_cell? w _ hx207_0)).trans hx207_0
                                          replace p207 := eq_true p207
                                          replace q207 := eq_true q207
                                          go_wp2_with (first | ((with_reducible refine gate_callee (f := 21) rfl ?_); refine goesL_ (some 62) rfl rfl Try.func21 (by kernel_rfl) rfl #[.string (rdOf ByteArray.empty l0 x56_3)] rfl (by (try simp only [List.map_toArray, List.map_cons, List.map_nil]); first | done | rfl | (simp only [List.length_drop, List.length_take]; rfl)) ?_; (with_reducible refine (laws_word.calls k3 (rdOf ByteArray.empty l0 x56_3) true _ A30.out).mono ?_); rintro e w' ⟨rfl, ⟨nd, rfl⟩⟩; refine ⟨_, rfl, ?_⟩))
                                          any_goals (try (exfalso; have zc27b0 := of_decide_eq_true c27b0; have zc28b0 := of_decide_eq_true c28b0; have zc29b0 := of_decide_eq_true c29b0; have zc33b1 := of_decide_eq_true c33b1; have zc34b1 := of_decide_eq_true c34b1; have zc35b1 := of_decide_eq_true c35b1; have zc36b1 := of_decide_eq_true c36b1; have zc37b1 := of_decide_eq_true c37b1; have zc38b1 := of_decide_eq_true c38b1; omega))
                                          go_roundg k3
                                          case measure => have := HJ3.out; have := HJ9.out; have := HK3.out; omega
                                          case rel => exact ⟨(x7_3 ++ ((⟨#[47]⟩ : ByteArray) ++ (rdOf ByteArray.empty l0 x56_3))), ((x8_3 ++ (((⟨#[47]⟩ : ByteArray) ++ a2) ++ (⟨#[47, 46, 46]⟩ : ByteArray))) ++ ((⟨#[47]⟩ : ByteArray) ++ (rdOf ByteArray.empty l0 x56_3))), (wrap64 (x56_3 + 1)), (by first | rfl | (simp; done) | (simp [*]; done) | (simp [Go.Proofs.YtjklempjljikpaaX.isEmpty_ne]; done)), (by first | rfl | (simp; done) | (simp [*]; done) | (simp [Go.Proofs.YtjklempjljikpaaX.isEmpty_ne]; done)), (by first | rfl | (simp; done) | (simp [*]; done) | (simp [Go.Proofs.YtjklempjljikpaaX.isEmpty_ne]; done)), H', ⟨by have := HJ3.out; have := HJ9.out; have := HK3.out; omega⟩, ⟨by repeat (first | (with_reducible first | exact HB.out | apply below_alloc | apply pw_below_drewN | apply below_drew1) | exact HB.out)⟩⟩
                                        · rw [if_neg c38] at H
                                          exact absurd H (by simp)
                                      · rw [if_neg c37] at H
                                        exact absurd H (by simp)
                                    · rw [if_neg c36] at H
                                      exact absurd H (by simp)
                                  · rw [if_neg c35] at H
                                    exact absurd H (by simp)
                                · rw [if_neg c34] at H
                                  exact absurd H (by simp)
                              · rw [if_neg c33] at H
                                exact absurd H (by simp)
                            · rw [if_neg c32] at H
                              have c32b0 : (x56_3 == a1) = false := beq_eq_false_iff_ne.mpr c32
                              have c32b1 : (x56_3 != a1) = true := bne_iff_ne.mpr c32
                              by_cases c39 : 1 + (rdOf ByteArray.empty l0 x56_3).size ≤ 9223372036854775807
                              · rw [if_pos c39] at H
                                have c39b0 := eq_true c39
                                have c39b1 : decide (1 + (rdOf ByteArray.empty l0 x56_3).size ≤ 9223372036854775807) = true := decide_eq_true c39
                                try have c39b2 : (9223372036854775807 < 1 + (rdOf ByteArray.empty l0 x56_3).size) = False := eq_false (Nat.not_lt.2 c39)
                                by_cases c40 : x7_3.size + (1 + (rdOf ByteArray.empty l0 x56_3).size) ≤ 9223372036854775807
                                · rw [if_pos c40] at H
                                  have c40b0 := eq_true c40
                                  have c40b1 : decide (x7_3.size + (1 + (rdOf ByteArray.empty l0 x56_3).size) ≤ 9223372036854775807) = true := decide_eq_true c40
                                  try have c40b2 : (9223372036854775807 < x7_3.size + (1 + (rdOf ByteArray.empty l0 x56_3).size)) = False := eq_false (Nat.not_lt.2 c40)
                                  by_cases c41 : x8_3.size + (1 + (rdOf ByteArray.empty l0 x56_3).size) ≤ 9223372036854775807
                                  · rw [if_pos c41] at H
                                    have c41b0 := eq_true c41
                                    have c41b1 : decide (x8_3.size + (1 + (rdOf ByteArray.empty l0 x56_3).size) ≤ 9223372036854775807) = true := decide_eq_true c41
                                    try have c41b2 : (9223372036854775807 < x8_3.size + (1 + (rdOf ByteArray.empty l0 x56_3).size)) = False := eq_false (Nat.not_lt.2 c41)
                                    have H' := Aside0.mk H
                                    clear H
                                    have p207 : 0 ≤ (x56_3 : Int) := of_decide_eq_true (by first | (with_reducible assumption) | assumption)
                                    have q207 : x56_3 < (l0.length : Int) := of_decide_eq_true (by first | (with_reducible assumption) | assumption)
                                    obtain ⟨ad207, e207, hx207_0⟩ := Kd.at_string HR0.out x56_3 p207 q207
                                    cases e207
                                    replace hx207_0 := (HB.out.cell (World.block_lt_of_cell? w _ hx207_0)).trans hx207_0
                                    replace p207 := eq_true p207
                                    replace q207 := eq_true q207
                                    go_wp2_with (first | ((with_reducible refine gate_callee (f := 21) rfl ?_); refine goesL_ (some 62) rfl rfl Try.func21 (by kernel_rfl) rfl #[.string (rdOf ByteArray.empty l0 x56_3)] rfl (by (try simp only [List.map_toArray, List.map_cons, List.map_nil]); first | done | rfl | (simp only [List.length_drop, List.length_take]; rfl)) ?_; (with_reducible refine (laws_word.calls k3 (rdOf ByteArray.empty l0 x56_3) true _ A30.out).mono ?_); rintro e w' ⟨rfl, ⟨nd, rfl⟩⟩; refine ⟨_, rfl, ?_⟩))
                                    any_goals (try (exfalso; have zc27b0 := of_decide_eq_true c27b0; have zc28b0 := of_decide_eq_true c28b0; have zc29b0 := of_decide_eq_true c29b0; have zc39b1 := of_decide_eq_true c39b1; have zc40b1 := of_decide_eq_true c40b1; have zc41b1 := of_decide_eq_true c41b1; omega))
                                    go_roundg k3
                                    case measure => have := HJ3.out; have := HJ9.out; have := HK3.out; omega
                                    case rel => exact ⟨(x7_3 ++ ((⟨#[47]⟩ : ByteArray) ++ (rdOf ByteArray.empty l0 x56_3))), (x8_3 ++ ((⟨#[47]⟩ : ByteArray) ++ (rdOf ByteArray.empty l0 x56_3))), (wrap64 (x56_3 + 1)), (by first | rfl | (simp; done) | (simp [*]; done) | (simp [Go.Proofs.YtjklempjljikpaaX.isEmpty_ne]; done)), (by first | rfl | (simp; done) | (simp [*]; done) | (simp [Go.Proofs.YtjklempjljikpaaX.isEmpty_ne]; done)), (by first | rfl | (simp; done) | (simp [*]; done) | (simp [Go.Proofs.YtjklempjljikpaaX.isEmpty_ne]; done)), H', ⟨by have := HJ3.out; have := HJ9.out; have := HK3.out; omega⟩, ⟨by repeat (first | (with_reducible first | exact HB.out | apply below_alloc | apply pw_below_drewN | apply below_drew1) | exact HB.out)⟩⟩
                                  · rw [if_neg c41] at H
                                    exact absurd H (by simp)
                                · rw [if_neg c40] at H
                                  exact absurd H (by simp)
                              · rw [if_neg c39] at H
                                exact absurd H (by simp)
                          · replace c31 := Bool.eq_false_iff.mpr c31
                            subst c31
                            have H1 : (some true) = some r := by rw [if_neg (show ¬ (false = true) by decide)] at H; exact H
                            clear H
                            have H := H1
                            clear H1
                            obtain rfl := Option.some.inj H
                            have p207 : 0 ≤ (x56_3 : Int) := of_decide_eq_true (by first | (with_reducible assumption) | assumption)
                            have q207 : x56_3 < (l0.length : Int) := of_decide_eq_true (by first | (with_reducible assumption) | assumption)
                            obtain ⟨ad207, e207, hx207_0⟩ := Kd.at_string HR0.out x56_3 p207 q207
                            cases e207
                            replace hx207_0 := (HB.out.cell (World.block_lt_of_cell? w _ hx207_0)).trans hx207_0
                            replace p207 := eq_true p207
                            replace q207 := eq_true q207
                            go_wp2_with (first | ((with_reducible refine gate_callee (f := 21) rfl ?_); refine goesL_ (some 62) rfl rfl Try.func21 (by kernel_rfl) rfl #[.string (rdOf ByteArray.empty l0 x56_3)] rfl (by (try simp only [List.map_toArray, List.map_cons, List.map_nil]); first | done | rfl | (simp only [List.length_drop, List.length_take]; rfl)) ?_; (with_reducible refine (laws_word.calls k3 (rdOf ByteArray.empty l0 x56_3) false _ A30.out).mono ?_); rintro e w' ⟨rfl, ⟨nd, rfl⟩⟩; refine ⟨_, rfl, ?_⟩))
                            go_ret
                            exact ⟨by first | rfl | (simp [errW_none, errW_some] <;> rfl) | (simp [*, errW_none, errW_some] <;> rfl), by repeat (first | (with_reducible first | exact HB.out | apply below_alloc | apply pw_below_drewN | apply below_drew1) | exact HB.out)⟩
                        · rw [if_neg c29] at H
                          exact absurd H (by simp)
                      · rw [if_neg c28] at H
                        exact absurd H (by simp)
                    · rw [if_neg c27] at H
                      have c27b0 : decide (x56_3 < (l0.length : Int)) = false := decide_eq_false c27
                      clear c27
                      by_cases c42 : a1 = (l0.length : Int)
                      · rw [if_pos c42] at H
                        have c42b0 : (a1 == (l0.length : Int)) = true := beq_iff_eq.mpr c42
                        have c42b1 : (a1 != (l0.length : Int)) = false := bne_eq_false_iff_eq.mpr c42
                        clear c42
                        obtain rfl := Option.some.inj H
                        go_wp2
                        go_ret
                        exact ⟨by first | rfl | (simp [errW_none, errW_some] <;> rfl) | (simp [*, errW_none, errW_some] <;> rfl), by repeat (first | (with_reducible first | exact HB.out | apply below_alloc | apply pw_below_drewN | apply below_drew1) | exact HB.out)⟩
                      · rw [if_neg c42] at H
                        have c42b0 : (a1 == (l0.length : Int)) = false := beq_eq_false_iff_ne.mpr c42
                        have c42b1 : (a1 != (l0.length : Int)) = true := bne_iff_ne.mpr c42
                        replace H := Option.bind_eq_some_iff.mp H
                        obtain ⟨t206, A430, H⟩ := H
                        replace H : (some (t206.toList == x7_3.toList)) = some r := H
                        have A43 := Aside0.mk A430
                        clear A430
                        obtain rfl := Option.some.inj H
                        go_wp2_with (first | (go_at_call 16; (with_reducible refine (impl_CleanPath.calls x8_3 t206 _ A43.out).mono ?_); rintro e w44 ⟨rfl, hb⟩; have n0_ := Aside0.mk (below_step (by repeat (first | (with_reducible first | exact HB.out | apply below_alloc | apply pw_below_drewN | apply below_drew1) | exact HB.out)) hb); clear HB; have HB := n0_; clear n0_; (try clear hb); (try clear hb2); (try clear hk); (try clear hi)))
                        go_ret
                        exact ⟨by first | rfl | (simp [errW_none, errW_some] <;> rfl) | (simp [*, errW_none, errW_some] <;> rfl), by repeat (first | (with_reducible first | exact HB.out | apply below_alloc | apply pw_below_drewN | apply below_drew1) | exact HB.out)⟩
        · replace c9 := Bool.eq_false_iff.mpr c9
          subst c9
          have H1 : (some false) = some r := by rw [if_neg (show ¬ (false = true) by decide)] at H; exact H
          clear H
          have H := H1
          clear H1
          obtain rfl := Option.some.inj H
          go_wp2_with (first | ((with_reducible refine gate_callee (f := 13) rfl ?_); refine goesL_ (some 19) rfl rfl Try.func13 (by kernel_rfl) rfl #[] rfl (by (try simp only [List.map_toArray, List.map_cons, List.map_nil]); first | done | rfl | (simp only [List.length_drop, List.length_take]; rfl)) ?_; (with_reducible refine (laws_cleans.calls  false _ A8.out).mono ?_); rintro e w45 ⟨rfl, hb⟩; refine ⟨_, rfl, ?_⟩; have n0_ := Aside0.mk (below_step (by repeat (first | (with_reducible first | exact HB.out | apply below_alloc | apply pw_below_drewN | apply below_drew1) | exact HB.out)) hb); clear HB; have HB := n0_; clear n0_; (try clear hb); (try clear hb2); (try clear hk); (try clear hi)))
          go_ret
          exact ⟨by first | rfl | (simp [errW_none, errW_some] <;> rfl) | (simp [*, errW_none, errW_some] <;> rfl), by repeat (first | (with_reducible first | exact HB.out | apply below_alloc | apply pw_below_drewN | apply below_drew1) | exact HB.out)⟩

end Go.Proofs.Ytjklempjljikpaa.Q
