import Derived.Test.YtjklempjljikpaaQ0
import Derived.Test.YtjklempjljikpaaQ8
import Derived.Test.YtjklempjljikpaaQ10
import Derived.Test.YtjklempjljikpaaQ12
-- Written by a program of this session out of the translation, with the kit's printer. Not trusted: Lean checks it.
namespace Go.Proofs.Ytjklempjljikpaa.Q
open Go.RowKit Go.Proofs.YtjklempjljikpaaW.PrintWords Go.Proofs.YtjklempjljikpaaW.PrintLast Go.Proofs.YtjklempjljikpaaW.PrintMore
attribute [local go_sem] max2_int min2_int max_two min_two max_three min_three max_four min_four   -- for this text's walks alone
set_option linter.unusedVariables false
set_option linter.unusedSimpArgs false

/-! ### laws_FnPathPlain: function 5 -/
mutual
def laws_FnPathPlain.l0 : Nat → ByteArray → List ByteArray → Int → Int → Option (Bool)
  | 0, _, _, _, _ => none
  | k + 1, x3, x11, x12, x13 => if x13 < x12 then (if 0 ≤ x13 then (if x13 < (x11.length : Int) then ((laws_word.f k (rdOf ByteArray.empty x11 x13)).bind fun t190 => (if t190 = true then (if 1 + (rdOf ByteArray.empty x11 x13).size ≤ 9223372036854775807 then (if x3.size + (1 + (rdOf ByteArray.empty x11 x13).size) ≤ 9223372036854775807 then (laws_FnPathPlain.l0 k (x3 ++ ((⟨#[47]⟩ : ByteArray) ++ (rdOf ByteArray.empty x11 x13))) x11 x12 (wrap64 (x13 + 1))) else (none)) else (none)) else (some true))) else (none)) else (none)) else (if x3.toList = ([] : List UInt8) then (laws_FnPathPlain.j1 k x3 true) else (laws_FnPathPlain.j1 k x3 (decide ((x3.size : Int) > 2000))))
def laws_FnPathPlain.j1 : Nat → ByteArray → Bool → Option (Bool)
  | 0, _, _ => none
  | k + 1, x3, x31 => if x31 = true then (some true) else ((impl_CleanPath.f x3).bind fun t191 => (if t191.toList = x3.toList then (if x3.size + 1 ≤ 9223372036854775807 then ((impl_CleanPath.f (x3 ++ (⟨#[47]⟩ : ByteArray))).bind fun t192 => (some (t192.toList == (x3 ++ (⟨#[47]⟩ : ByteArray)).toList))) else (none)) else (some false)))
end
def laws_FnPathPlain.f (k : Nat) (l0 : List ByteArray) : Option (Bool) := (laws_zzFits1.f k l0).bind fun t187 => (if t187 = true then ((laws_cleans.f).bind fun t188 => (if t188 = true then (laws_FnPathPlain.l0 k (⟨#[]⟩ : ByteArray) l0 (l0.length : Int) 0) else (some false))) else (some true))
theorem laws_FnPathPlain.mono_l : ∀ k, (∀ y0 y1 y2 y3, LeO (laws_FnPathPlain.l0 k y0 y1 y2 y3) (laws_FnPathPlain.l0 (k + 1) y0 y1 y2 y3)) ∧ (∀ y0 y1, LeO (laws_FnPathPlain.j1 k y0 y1) (laws_FnPathPlain.j1 (k + 1) y0 y1))
  | 0 => ⟨fun _ _ _ _ r h => by simp [laws_FnPathPlain.l0] at h, fun _ _ r h => by simp [laws_FnPathPlain.j1] at h⟩
  | k + 1 => by
    obtain ⟨ih0, ih1⟩ := laws_FnPathPlain.mono_l k
    refine ⟨?_, ?_⟩
    · intro y0 y1 y2 y3
      unfold laws_FnPathPlain.l0
      repeat' first
      | (with_reducible exact ih0 _ _ _ _)
      | (with_reducible exact ih1 _ _)
      | (with_reducible exact laws_word.mono _ _)
      | (with_reducible exact laws_zzFits1.mono _ _)
      | (with_reducible exact LeO.refl _)
      | (with_reducible exact LeO.none _)
      | (with_reducible refine LeO.ite ?_ ?_)
      | (with_reducible refine LeO.bind ?_ (fun _ => ?_))
      | exact ih0 _ _ _ _
      | exact ih1 _ _
      | exact laws_word.mono _ _
      | exact laws_zzFits1.mono _ _
      | exact LeO.none _
      | refine LeO.ite ?_ ?_
      | refine LeO.bind ?_ (fun _ => ?_)
    · intro y0 y1
      unfold laws_FnPathPlain.j1
      repeat' first
      | (with_reducible exact ih0 _ _ _ _)
      | (with_reducible exact ih1 _ _)
      | (with_reducible exact laws_word.mono _ _)
      | (with_reducible exact laws_zzFits1.mono _ _)
      | (with_reducible exact LeO.refl _)
      | (with_reducible exact LeO.none _)
      | (with_reducible refine LeO.ite ?_ ?_)
      | (with_reducible refine LeO.bind ?_ (fun _ => ?_))
      | exact ih0 _ _ _ _
      | exact ih1 _ _
      | exact laws_word.mono _ _
      | exact laws_zzFits1.mono _ _
      | exact LeO.none _
      | refine LeO.ite ?_ ?_
      | refine LeO.bind ?_ (fun _ => ?_)
theorem laws_FnPathPlain.mono : ∀ a0 k, LeO (laws_FnPathPlain.f k a0) (laws_FnPathPlain.f (k + 1) a0) := by
  intro a0 k
  obtain ⟨ih0, ih1⟩ := laws_FnPathPlain.mono_l k
  unfold laws_FnPathPlain.f
  repeat' first
      | (with_reducible exact ih0 _ _ _ _)
      | (with_reducible exact ih1 _ _)
      | (with_reducible exact laws_word.mono _ _)
      | (with_reducible exact laws_zzFits1.mono _ _)
      | (with_reducible exact LeO.refl _)
      | (with_reducible exact LeO.none _)
      | (with_reducible refine LeO.ite ?_ ?_)
      | (with_reducible refine LeO.bind ?_ (fun _ => ?_))
      | exact ih0 _ _ _ _
      | exact ih1 _ _
      | exact laws_word.mono _ _
      | exact laws_zzFits1.mono _ _
      | exact LeO.none _
      | refine LeO.ite ?_ ?_
      | refine LeO.bind ?_ (fun _ => ?_)
set_option maxHeartbeats 8000000 in
set_option maxRecDepth 100000 in
theorem laws_FnPathPlain.calls (k : Nat) (A0 : Option Addr) (c0 : Nat) (l0 : List ByteArray) (r : Bool) (w : World) (hr0 : Kd.C Kd.string w A0 l0.length l0) (hc0 : l0.length ≤ c0) (h : laws_FnPathPlain.f k l0 = some r) :
    Calls Try.prog 5 #[.slice A0 l0.length c0] w fun e w' => e = .returned (.bool r) ∧ Below w.heap.size w w' := by
  have HR0 := Aside0.mk hr0
  have HC0 := Aside0.mk hc0
  clear hr0 hc0
  have HB := Aside0.mk (Below.refl w.heap.size w)
  have H : ((laws_zzFits1.f k l0).bind fun t187 => (if t187 = true then ((laws_cleans.f).bind fun t188 => (if t188 = true then (laws_FnPathPlain.l0 k (⟨#[]⟩ : ByteArray) l0 (l0.length : Int) 0) else (some false))) else (some true))) = some r := h
  clear h
  replace H := Option.bind_eq_some_iff.mp H
  obtain ⟨t187, A20, H⟩ := H
  replace H : (if t187 = true then ((laws_cleans.f).bind fun t188 => (if t188 = true then (laws_FnPathPlain.l0 k (⟨#[]⟩ : ByteArray) l0 (l0.length : Int) 0) else (some false))) else (some true)) = some r := H
  have A2 := Aside0.mk A20
  clear A20
  by_cases c3 : t187 = true
  · subst c3
    have H1 : ((laws_cleans.f).bind fun t188 => (if t188 = true then (laws_FnPathPlain.l0 k (⟨#[]⟩ : ByteArray) l0 (l0.length : Int) 0) else (some false))) = some r := by rw [if_pos rfl] at H; exact H
    clear H
    have H := H1
    clear H1
    replace H := Option.bind_eq_some_iff.mp H
    obtain ⟨t188, A40, H⟩ := H
    replace H : (if t188 = true then (laws_FnPathPlain.l0 k (⟨#[]⟩ : ByteArray) l0 (l0.length : Int) 0) else (some false)) = some r := H
    have A4 := Aside0.mk A40
    clear A40
    by_cases c5 : t188 = true
    · subst c5
      have H1 : (laws_FnPathPlain.l0 k (⟨#[]⟩ : ByteArray) l0 (l0.length : Int) 0) = some r := by rw [if_pos rfl] at H; exact H
      clear H
      have H := H1
      clear H1
      have H' := Aside0.mk H
      clear H
      go_enter Try.func5, Try.ntmps5
      go_wp2_with (first | ((with_reducible refine gate_callee (f := 20) rfl ?_); refine goesL_ (some 7) rfl rfl Try.func20 (by kernel_rfl) rfl #[.slice A0 l0.length c0] rfl (by (try simp only [List.map_toArray, List.map_cons, List.map_nil]); first | done | rfl | (simp only [List.length_drop, List.length_take]; rfl)) ?_; (with_reducible refine (laws_zzFits1.calls k _ _ l0 true _ ?side1 ?side2 A2.out).mono ?_); (case side1 => repeat (first | exact HR0.out | (with_reducible refine Kd.C_alloc ?_ _) | (with_reducible refine Kd.C_drewN ?_ _) | (with_reducible refine Kd.C_drew ?_))); (case side2 => exact HC0.out); rintro e w' ⟨rfl, ⟨nd, rfl⟩⟩; refine ⟨_, rfl, ?_⟩) | ((with_reducible refine gate_callee (f := 13) rfl ?_); refine goesL_ (some 9) rfl rfl Try.func13 (by kernel_rfl) rfl #[] rfl (by (try simp only [List.map_toArray, List.map_cons, List.map_nil]); first | done | rfl | (simp only [List.length_drop, List.length_take]; rfl)) ?_; (with_reducible refine (laws_cleans.calls  true _ A4.out).mono ?_); rintro e w6 ⟨rfl, hb⟩; refine ⟨_, rfl, ?_⟩; have n0_ := Aside0.mk (below_step (by repeat (first | (with_reducible first | exact HB.out | apply below_alloc | apply pw_below_drewN | apply below_drew1) | exact HB.out)) hb); clear HB; have HB := n0_; clear n0_; (try clear hb); (try clear hb2); (try clear hk); (try clear hi)))
      go_loopg [3, 13] k (fun kq v3 v13 w' => ∃ (x3_1 : ByteArray) (x13_1 : Int), v3 = .string x3_1 ∧ v13 = .int .i64 x13_1 ∧ Aside0 (laws_FnPathPlain.l0 kq x3_1 l0 (l0.length : Int) x13_1 = some r) ∧ Aside0 (kq ≤ k) ∧ Aside0 (Below w.heap.size w w'))
      case atStart => exact ⟨((⟨#[]⟩ : ByteArray)), (0), (by first | rfl | (simp; done) | (simp [*]; done) | (simp [Go.Proofs.YtjklempjljikpaaX.isEmpty_ne]; done)), (by first | rfl | (simp; done) | (simp [*]; done) | (simp [Go.Proofs.YtjklempjljikpaaX.isEmpty_ne]; done)), H', ⟨Nat.le_refl _⟩, ⟨by repeat (first | (with_reducible first | exact HB.out | apply below_alloc | apply pw_below_drewN | apply below_drew1) | exact HB.out)⟩⟩
      case round =>
        clear H'
        try clear c1
        try clear c2
        try clear p2
        try clear c3
        try clear c5
        obtain ⟨x3_1, x13_1, rfl, rfl, HA, HK1, HB⟩ := hrel
        cases gk with
        | zero => exact absurd HA.out (by simp [laws_FnPathPlain.l0])
        | succ k1 =>
          have H := HA.out
          clear HA
          simp only [laws_FnPathPlain.l0] at H
          by_cases c7 : x13_1 < (l0.length : Int)
          · rw [if_pos c7] at H
            have c7b0 : decide (x13_1 < (l0.length : Int)) = true := decide_eq_true c7
            clear c7
            by_cases c8 : 0 ≤ x13_1
            · rw [if_pos c8] at H
              have c8b0 : decide (0 ≤ x13_1) = true := decide_eq_true c8
              clear c8
              by_cases c9 : x13_1 < (l0.length : Int)
              · rw [if_pos c9] at H
                have c9b0 : decide (x13_1 < (l0.length : Int)) = true := decide_eq_true c9
                clear c9
                replace H := Option.bind_eq_some_iff.mp H
                obtain ⟨t190, A100, H⟩ := H
                replace H : (if t190 = true then (if 1 + (rdOf ByteArray.empty l0 x13_1).size ≤ 9223372036854775807 then (if x3_1.size + (1 + (rdOf ByteArray.empty l0 x13_1).size) ≤ 9223372036854775807 then (laws_FnPathPlain.l0 k1 (x3_1 ++ ((⟨#[47]⟩ : ByteArray) ++ (rdOf ByteArray.empty l0 x13_1))) l0 (l0.length : Int) (wrap64 (x13_1 + 1))) else (none)) else (none)) else (some true)) = some r := H
                have A10 := Aside0.mk A100
                clear A100
                by_cases c11 : t190 = true
                · subst c11
                  have H1 : (if 1 + (rdOf ByteArray.empty l0 x13_1).size ≤ 9223372036854775807 then (if x3_1.size + (1 + (rdOf ByteArray.empty l0 x13_1).size) ≤ 9223372036854775807 then (laws_FnPathPlain.l0 k1 (x3_1 ++ ((⟨#[47]⟩ : ByteArray) ++ (rdOf ByteArray.empty l0 x13_1))) l0 (l0.length : Int) (wrap64 (x13_1 + 1))) else (none)) else (none)) = some r := by rw [if_pos rfl] at H; exact H
                  clear H
                  have H := H1
                  clear H1
                  by_cases c12 : 1 + (rdOf ByteArray.empty l0 x13_1).size ≤ 9223372036854775807
                  · rw [if_pos c12] at H
                    have c12b0 := eq_true c12
                    have c12b1 : decide (1 + (rdOf ByteArray.empty l0 x13_1).size ≤ 9223372036854775807) = true := decide_eq_true c12
                    try have c12b2 : (9223372036854775807 < 1 + (rdOf ByteArray.empty l0 x13_1).size) = False := eq_false (Nat.not_lt.2 c12)
                    by_cases c13 : x3_1.size + (1 + (rdOf ByteArray.empty l0 x13_1).size) ≤ 9223372036854775807
                    · rw [if_pos c13] at H
                      have c13b0 := eq_true c13
                      have c13b1 : decide (x3_1.size + (1 + (rdOf ByteArray.empty l0 x13_1).size) ≤ 9223372036854775807) = true := decide_eq_true c13
                      try have c13b2 : (9223372036854775807 < x3_1.size + (1 + (rdOf ByteArray.empty l0 x13_1).size)) = False := eq_false (Nat.not_lt.2 c13)
                      have H' := Aside0.mk H
                      clear H
                      have p189 : 0 ≤ (x13_1 : Int) := of_decide_eq_true (by first | (with_reducible assumption) | assumption)
                      have q189 : x13_1 < (l0.length : Int) := of_decide_eq_true (by first | (with_reducible assumption) | assumption)
                      obtain ⟨ad189, e189, hx189_0⟩ := Kd.at_string HR0.out x13_1 p189 q189
                      cases e189
                      replace hx189_0 := (HB.out.cell (World.block_lt_of_cell? w _ hx189_0)).trans hx189_0
                      replace p189 := eq_true p189
                      replace q189 := eq_true q189
                      go_wp2_with (first | ((with_reducible refine gate_callee (f := 21) rfl ?_); refine goesL_ (some 18) rfl rfl Try.func21 (by kernel_rfl) rfl #[.string (rdOf ByteArray.empty l0 x13_1)] rfl (by (try simp only [List.map_toArray, List.map_cons, List.map_nil]); first | done | rfl | (simp only [List.length_drop, List.length_take]; rfl)) ?_; (with_reducible refine (laws_word.calls k1 (rdOf ByteArray.empty l0 x13_1) true _ A10.out).mono ?_); rintro e w' ⟨rfl, ⟨nd, rfl⟩⟩; refine ⟨_, rfl, ?_⟩))
                      any_goals (try (exfalso; have zc7b0 := of_decide_eq_true c7b0; have zc8b0 := of_decide_eq_true c8b0; have zc9b0 := of_decide_eq_true c9b0; have zc12b1 := of_decide_eq_true c12b1; have zc13b1 := of_decide_eq_true c13b1; omega))
                      go_roundg k1
                      case measure => have := HK1.out; omega
                      case rel => exact ⟨(x3_1 ++ ((⟨#[47]⟩ : ByteArray) ++ (rdOf ByteArray.empty l0 x13_1))), (wrap64 (x13_1 + 1)), (by first | rfl | (simp; done) | (simp [*]; done) | (simp [Go.Proofs.YtjklempjljikpaaX.isEmpty_ne]; done)), (by first | rfl | (simp; done) | (simp [*]; done) | (simp [Go.Proofs.YtjklempjljikpaaX.isEmpty_ne]; done)), H', ⟨by have := HK1.out; omega⟩, ⟨by repeat (first | (with_reducible first | exact HB.out | apply below_alloc | apply pw_below_drewN | apply below_drew1) | exact HB.out)⟩⟩
                    · rw [if_neg c13] at H
                      exact absurd H (by simp)
                  · rw [if_neg c12] at H
                    exact absurd H (by simp)
                · replace c11 := Bool.eq_false_iff.mpr c11
                  subst c11
                  have H1 : (some true) = some r := by rw [if_neg (show ¬ (false = true) by decide)] at H; exact H
                  clear H
                  have H := H1
                  clear H1
                  obtain rfl := Option.some.inj H
                  have p189 : 0 ≤ (x13_1 : Int) := of_decide_eq_true (by first | (with_reducible assumption) | assumption)
                  have q189 : x13_1 < (l0.length : Int) := of_decide_eq_true (by first | (with_reducible assumption) | assumption)
                  obtain ⟨ad189, e189, hx189_0⟩ := Kd.at_string HR0.out x13_1 p189 q189
                  cases e189
                  replace hx189_0 := (HB.out.cell (World.block_lt_of_cell? w _ hx189_0)).trans hx189_0
                  replace p189 := eq_true p189
                  replace q189 := eq_true q189
                  go_wp2_with (first | ((with_reducible refine gate_callee (f := 21) rfl ?_); refine goesL_ (some 18) rfl rfl Try.func21 (by kernel_rfl) rfl #[.string (rdOf ByteArray.empty l0 x13_1)] rfl (by (try simp only [List.map_toArray, List.map_cons, List.map_nil]); first | done | rfl | (simp only [List.length_drop, List.length_take]; rfl)) ?_; (with_reducible refine (laws_word.calls k1 (rdOf ByteArray.empty l0 x13_1) false _ A10.out).mono ?_); rintro e w' ⟨rfl, ⟨nd, rfl⟩⟩; refine ⟨_, rfl, ?_⟩))
                  go_ret
                  exact ⟨by first | rfl | (simp [errW_none, errW_some] <;> rfl) | (simp [*, errW_none, errW_some] <;> rfl), by repeat (first | (with_reducible first | exact HB.out | apply below_alloc | apply pw_below_drewN | apply below_drew1) | exact HB.out)⟩
              · rw [if_neg c9] at H
                exact absurd H (by simp)
            · rw [if_neg c8] at H
              exact absurd H (by simp)
          · rw [if_neg c7] at H
            have c7b0 : decide (x13_1 < (l0.length : Int)) = false := decide_eq_false c7
            clear c7
            have HC14 := Aside0.mk H
            clear H
            go_upto_region 13 with (fail)
            go_cut [31] (fun v31 wc => ∃ (kq : Nat) (x31_13 : Bool), v31 = .bool x31_13 ∧ Aside0 (laws_FnPathPlain.j1 kq x3_1 x31_13 = some r) ∧ Aside0 (kq ≤ k1) ∧ Aside0 (Below w.heap.size w wc))
            case first =>
              have H := HC14.out
              clear HC14
              by_cases c15 : x3_1.toList = ([] : List UInt8)
              · rw [if_pos c15] at H
                have c15b0 : (x3_1.toList == ([] : List UInt8)) = true := beq_iff_eq.mpr c15
                have c15b1 : (x3_1.toList != ([] : List UInt8)) = false := bne_eq_false_iff_eq.mpr c15
                clear c15
                (first | rw [c15b0] | (simp only [i64_w, i32_w]; rw [c15b0]) | skip)
                have H' := Aside0.mk H
                clear H
                go_wp2
                go_meet
                case rel => exact ⟨_, (true), (by first | rfl | (simp; done) | (simp [*]; done) | (simp [Go.Proofs.YtjklempjljikpaaX.isEmpty_ne]; done)), H', ⟨by have := HK1.out; first | omega | exact Nat.le_refl _⟩, ⟨by repeat (first | (with_reducible first | exact HB.out | apply below_alloc | apply pw_below_drewN | apply below_drew1) | exact HB.out)⟩⟩
              · rw [if_neg c15] at H
                have c15b0 : (x3_1.toList == ([] : List UInt8)) = false := beq_eq_false_iff_ne.mpr c15
                have c15b1 : (x3_1.toList != ([] : List UInt8)) = true := bne_iff_ne.mpr c15
                (first | rw [c15b0] | (simp only [i64_w, i32_w]; rw [c15b0]) | skip)
                have H' := Aside0.mk H
                clear H
                go_wp2
                go_meet
                case rel => exact ⟨_, (decide ((x3_1.size : Int) > 2000)), (by first | rfl | (simp; done) | (simp [*]; done) | (simp [Go.Proofs.YtjklempjljikpaaX.isEmpty_ne]; done)), H', ⟨by have := HK1.out; first | omega | exact Nat.le_refl _⟩, ⟨by repeat (first | (with_reducible first | exact HB.out | apply below_alloc | apply pw_below_drewN | apply below_drew1) | exact HB.out)⟩⟩
            case rest =>
              clear HC14
              try clear c1
              try clear p1
              try clear q1
              try clear hx1
              try clear c2
              try clear p2
              try clear c3
              try clear c5
              try clear p6
              try clear c7
              try clear c7b0
              try clear c8
              try clear c8b0
              try clear c9
              try clear c9b0
              try clear c11
              try clear c12
              try clear c12b0
              try clear c12b1
              try clear c12b2
              try clear c13
              try clear c13b0
              try clear c13b1
              try clear c13b2
              try clear c15
              try clear c15b0
              try clear c15b1
              try clear hx189_0
              try clear p189
              try clear p2
              try clear q189
              obtain ⟨kq, x31_13, rfl, HA, HJ13, HB⟩ := hcut
              cases kq with
              | zero => exact absurd HA.out (by simp [laws_FnPathPlain.j1])
              | succ kj13 =>
                have H := HA.out
                clear HA
                simp only [laws_FnPathPlain.j1] at H
                by_cases c16 : x31_13 = true
                · subst c16
                  have H1 : (some true) = some r := by rw [if_pos rfl] at H; exact H
                  clear H
                  have H := H1
                  clear H1
                  obtain rfl := Option.some.inj H
                  go_wp2
                  go_ret
                  exact ⟨by first | rfl | (simp [errW_none, errW_some] <;> rfl) | (simp [*, errW_none, errW_some] <;> rfl), by repeat (first | (with_reducible first | exact HB.out | apply below_alloc | apply pw_below_drewN | apply below_drew1) | exact HB.out)⟩
                · replace c16 := Bool.eq_false_iff.mpr c16
                  subst c16
                  have H1 : ((impl_CleanPath.f x3_1).bind fun t191 => (if t191.toList = x3_1.toList then (if x3_1.size + 1 ≤ 9223372036854775807 then ((impl_CleanPath.f (x3_1 ++ (⟨#[47]⟩ : ByteArray))).bind fun t192 => (some (t192.toList == (x3_1 ++ (⟨#[47]⟩ : ByteArray)).toList))) else (none)) else (some false))) = some r := by rw [if_neg (show ¬ (false = true) by decide)] at H; exact H
                  clear H
                  have H := H1
                  clear H1
                  replace H := Option.bind_eq_some_iff.mp H
                  obtain ⟨t191, A170, H⟩ := H
                  replace H : (if t191.toList = x3_1.toList then (if x3_1.size + 1 ≤ 9223372036854775807 then ((impl_CleanPath.f (x3_1 ++ (⟨#[47]⟩ : ByteArray))).bind fun t192 => (some (t192.toList == (x3_1 ++ (⟨#[47]⟩ : ByteArray)).toList))) else (none)) else (some false)) = some r := H
                  have A17 := Aside0.mk A170
                  clear A170
                  by_cases c18 : t191.toList = x3_1.toList
                  · rw [if_pos c18] at H
                    have c18b0 : (t191.toList == x3_1.toList) = true := beq_iff_eq.mpr c18
                    have c18b1 : (t191.toList != x3_1.toList) = false := bne_eq_false_iff_eq.mpr c18
                    clear c18
                    by_cases c19 : x3_1.size + 1 ≤ 9223372036854775807
                    · rw [if_pos c19] at H
                      have c19b0 := eq_true c19
                      have c19b1 : decide (x3_1.size + 1 ≤ 9223372036854775807) = true := decide_eq_true c19
                      try have c19b2 : (9223372036854775807 < x3_1.size + 1) = False := eq_false (Nat.not_lt.2 c19)
                      replace H := Option.bind_eq_some_iff.mp H
                      obtain ⟨t192, A200, H⟩ := H
                      replace H : (some (t192.toList == (x3_1 ++ (⟨#[47]⟩ : ByteArray)).toList)) = some r := H
                      have A20 := Aside0.mk A200
                      clear A200
                      obtain rfl := Option.some.inj H
                      go_wp2_with (first | ((with_reducible refine gate_callee (f := 16) rfl ?_); refine goesL_ (some 33) rfl rfl Try.func16 (by kernel_rfl) rfl #[.string x3_1] rfl (by (try simp only [List.map_toArray, List.map_cons, List.map_nil]); first | done | rfl | (simp only [List.length_drop, List.length_take]; rfl)) ?_; (with_reducible refine (impl_CleanPath.calls x3_1 t191 _ A17.out).mono ?_); rintro e w21 ⟨rfl, hb⟩; refine ⟨_, rfl, ?_⟩; have n0_ := Aside0.mk (below_step (by repeat (first | (with_reducible first | exact HB.out | apply below_alloc | apply pw_below_drewN | apply below_drew1) | exact HB.out)) hb); clear HB; have HB := n0_; clear n0_; (try clear hb); (try clear hb2); (try clear hk); (try clear hi)) | (go_at_call 16; (with_reducible refine (impl_CleanPath.calls (x3_1 ++ (⟨#[47]⟩ : ByteArray)) t192 _ A20.out).mono ?_); rintro e w22 ⟨rfl, hb⟩; have n0_ := Aside0.mk (below_step (by repeat (first | (with_reducible first | exact HB.out | apply below_alloc | apply pw_below_drewN | apply below_drew1) | exact HB.out)) hb); clear HB; have HB := n0_; clear n0_; (try clear hb); (try clear hb2); (try clear hk); (try clear hi)))
                      any_goals (try (exfalso; have zc19b1 := of_decide_eq_true c19b1; omega))
                      go_ret
                      exact ⟨by first | rfl | (simp [errW_none, errW_some] <;> rfl) | (simp [*, errW_none, errW_some] <;> rfl), by repeat (first | (with_reducible first | exact HB.out | apply below_alloc | apply pw_below_drewN | apply below_drew1) | exact HB.out)⟩
                    · rw [if_neg c19] at H
                      exact absurd H (by simp)
                  · rw [if_neg c18] at H
                    have c18b0 : (t191.toList == x3_1.toList) = false := beq_eq_false_iff_ne.mpr c18
                    have c18b1 : (t191.toList != x3_1.toList) = true := bne_iff_ne.mpr c18
                    obtain rfl := Option.some.inj H
                    go_wp2_with (first | ((with_reducible refine gate_callee (f := 16) rfl ?_); refine goesL_ (some 33) rfl rfl Try.func16 (by kernel_rfl) rfl #[.string x3_1] rfl (by (try simp only [List.map_toArray, List.map_cons, List.map_nil]); first | done | rfl | (simp only [List.length_drop, List.length_take]; rfl)) ?_; (with_reducible refine (impl_CleanPath.calls x3_1 t191 _ A17.out).mono ?_); rintro e w23 ⟨rfl, hb⟩; refine ⟨_, rfl, ?_⟩; have n0_ := Aside0.mk (below_step (by repeat (first | (with_reducible first | exact HB.out | apply below_alloc | apply pw_below_drewN | apply below_drew1) | exact HB.out)) hb); clear HB; have HB := n0_; clear n0_; (try clear hb); (try clear hb2); (try clear hk); (try clear hi)))
                    go_ret
                    exact ⟨by first | rfl | (simp [errW_none, errW_some] <;> rfl) | (simp [*, errW_none, errW_some] <;> rfl), by repeat (first | (with_reducible first | exact HB.out | apply below_alloc | apply pw_below_drewN | apply below_drew1) | exact HB.out)⟩
    · replace c5 := Bool.eq_false_iff.mpr c5
      subst c5
      have H1 : (some false) = some r := by rw [if_neg (show ¬ (false = true) by decide)] at H; exact H
      clear H
      have H := H1
      clear H1
      obtain rfl := Option.some.inj H
      go_enter Try.func5, Try.ntmps5
      go_wp2_with (first | ((with_reducible refine gate_callee (f := 20) rfl ?_); refine goesL_ (some 7) rfl rfl Try.func20 (by kernel_rfl) rfl #[.slice A0 l0.length c0] rfl (by (try simp only [List.map_toArray, List.map_cons, List.map_nil]); first | done | rfl | (simp only [List.length_drop, List.length_take]; rfl)) ?_; (with_reducible refine (laws_zzFits1.calls k _ _ l0 true _ ?side1 ?side2 A2.out).mono ?_); (case side1 => repeat (first | exact HR0.out | (with_reducible refine Kd.C_alloc ?_ _) | (with_reducible refine Kd.C_drewN ?_ _) | (with_reducible refine Kd.C_drew ?_))); (case side2 => exact HC0.out); rintro e w' ⟨rfl, ⟨nd, rfl⟩⟩; refine ⟨_, rfl, ?_⟩) | ((with_reducible refine gate_callee (f := 13) rfl ?_); refine goesL_ (some 9) rfl rfl Try.func13 (by kernel_rfl) rfl #[] rfl (by (try simp only [List.map_toArray, List.map_cons, List.map_nil]); first | done | rfl | (simp only [List.length_drop, List.length_take]; rfl)) ?_; (with_reducible refine (laws_cleans.calls  false _ A4.out).mono ?_); rintro e w24 ⟨rfl, hb⟩; refine ⟨_, rfl, ?_⟩; have n0_ := Aside0.mk (below_step (by repeat (first | (with_reducible first | exact HB.out | apply below_alloc | apply pw_below_drewN | apply below_drew1) | exact HB.out)) hb); clear HB; have HB := n0_; clear n0_; (try clear hb); (try clear hb2); (try clear hk); (try clear hi)))
      go_ret
      exact ⟨by first | rfl | (simp [errW_none, errW_some] <;> rfl) | (simp [*, errW_none, errW_some] <;> rfl), by repeat (first | (with_reducible first | exact HB.out | apply below_alloc | apply pw_below_drewN | apply below_drew1) | exact HB.out)⟩
  · replace c3 := Bool.eq_false_iff.mpr c3
    subst c3
    have H1 : (some true) = some r := by rw [if_neg (show ¬ (false = true) by decide)] at H; exact H
    clear H
    have H := H1
    clear H1
    obtain rfl := Option.some.inj H
    go_enter Try.func5, Try.ntmps5
    go_wp2_with (first | ((with_reducible refine gate_callee (f := 20) rfl ?_); refine goesL_ (some 7) rfl rfl Try.func20 (by kernel_rfl) rfl #[.slice A0 l0.length c0] rfl (by (try simp only [List.map_toArray, List.map_cons, List.map_nil]); first | done | rfl | (simp only [List.length_drop, List.length_take]; rfl)) ?_; (with_reducible refine (laws_zzFits1.calls k _ _ l0 false _ ?side1 ?side2 A2.out).mono ?_); (case side1 => repeat (first | exact HR0.out | (with_reducible refine Kd.C_alloc ?_ _) | (with_reducible refine Kd.C_drewN ?_ _) | (with_reducible refine Kd.C_drew ?_))); (case side2 => exact HC0.out); rintro e w' ⟨rfl, ⟨nd, rfl⟩⟩; refine ⟨_, rfl, ?_⟩))
    go_ret
    exact ⟨by first | rfl | (simp [errW_none, errW_some] <;> rfl) | (simp [*, errW_none, errW_some] <;> rfl), by repeat (first | (with_reducible first | exact HB.out | apply below_alloc | apply pw_below_drewN | apply below_drew1) | exact HB.out)⟩

end Go.Proofs.Ytjklempjljikpaa.Q
