-- Written by a program of this session out of the translation, with the kit's printer. Not trusted: Lean checks it.
import Derived.Test.YtjmcndbkmknemaaQ0
import Derived.Test.YtjmcndbkmknemaaQ23
import Derived.Test.YtjmcndbkmknemaaQ24
namespace Go.Proofs.Ytjmcndbkmknemaa.Q
open Go.RowKit Go.Proofs.YtjmcndbkmknemaaW.PrintWords Go.Proofs.YtjmcndbkmknemaaW.PrintLast Go.Proofs.YtjmcndbkmknemaaW.PrintMore
attribute [local go_sem] max2_int min2_int max_two min_two max_three min_three max_four min_four   -- for this text's walks alone
set_option linter.unusedVariables false
set_option linter.unusedSimpArgs false

/-! ### spec_quoted: function 56 -/
mutual
def spec_quoted.l0 : Nat → ByteArray → ByteArray → ByteArray → ByteArray → Int → Option (ByteArray)
  | 0, _, _, _, _, _ => none
  | k + 1, x0, x1, x2, x7, x8 => if x8 < (x0.size : Int) then (if 0 ≤ x8 then ((spec_unreserved.f (bt x0 x8)).bind fun t236 => (if t236 = true then (spec_quoted.j1 k x0 x1 x2 x7 x8 (bt x0 x8) true) else ((spec_indexOf.f k x1 (bt x0 x8)).bind fun t237 => (spec_quoted.j1 k x0 x1 x2 x7 x8 (bt x0 x8) (decide (t237 ≥ 0)))))) else (none)) else (some x7)
def spec_quoted.j1 : Nat → ByteArray → ByteArray → ByteArray → ByteArray → Int → Int → Bool → Option (ByteArray)
  | 0, _, _, _, _, _, _, _ => none
  | k + 1, x0, x1, x2, x7, x8, x9, x35 => if x35 = true then (if 0 ≤ x8 then (if x8 ≤ (wrap64 (x8 + 1)) then (if (wrap64 (x8 + 1)) ≤ (x0.size : Int) then (if x7.size + ((min ((wrap64 (x8 + 1)) : Int).toNat x0.size - (x8 : Int).toNat)) ≤ 9223372036854775807 then (spec_quoted.l0 k x0 x1 x2 (x7 ++ (x0.extract (x8 : Int).toNat ((wrap64 (x8 + 1)) : Int).toNat)) (wrap64 (x8 + 1))) else (none)) else (none)) else (none)) else (none)) else (if x9 = 32 then (if x2.toList = ([] : List UInt8) then (if 0 ≤ (x9 / 16) then (if (x9 / 16) ≤ (((x9 / 16) + 1) % 256) then (if (((x9 / 16) + 1) % 256) ≤ 16 then (if 1 + ((min ((((x9 / 16) + 1) % 256) : Int).toNat 16 - ((x9 / 16) : Int).toNat)) ≤ 9223372036854775807 then (if 0 ≤ (Go.bits .and .u8 x9 15) then (if (Go.bits .and .u8 x9 15) ≤ (((Go.bits .and .u8 x9 15) + 1) % 256) then (if (((Go.bits .and .u8 x9 15) + 1) % 256) ≤ 16 then (if 1 + ((min ((((x9 / 16) + 1) % 256) : Int).toNat 16 - ((x9 / 16) : Int).toNat)) + ((min ((((Go.bits .and .u8 x9 15) + 1) % 256) : Int).toNat 16 - ((Go.bits .and .u8 x9 15) : Int).toNat)) ≤ 9223372036854775807 then (if x7.size + (1 + ((min ((((x9 / 16) + 1) % 256) : Int).toNat 16 - ((x9 / 16) : Int).toNat)) + ((min ((((Go.bits .and .u8 x9 15) + 1) % 256) : Int).toNat 16 - ((Go.bits .and .u8 x9 15) : Int).toNat))) ≤ 9223372036854775807 then (spec_quoted.l0 k x0 x1 x2 (x7 ++ (((⟨#[37]⟩ : ByteArray) ++ ((⟨#[48, 49, 50, 51, 52, 53, 54, 55, 56, 57, 65, 66, 67, 68, 69, 70]⟩ : ByteArray).extract ((x9 / 16) : Int).toNat ((((x9 / 16) + 1) % 256) : Int).toNat)) ++ ((⟨#[48, 49, 50, 51, 52, 53, 54, 55, 56, 57, 65, 66, 67, 68, 69, 70]⟩ : ByteArray).extract ((Go.bits .and .u8 x9 15) : Int).toNat ((((Go.bits .and .u8 x9 15) + 1) % 256) : Int).toNat))) (wrap64 (x8 + 1))) else (none)) else (none)) else (none)) else (none)) else (none)) else (none)) else (none)) else (none)) else (none)) else (if x7.size + x2.size ≤ 9223372036854775807 then (spec_quoted.l0 k x0 x1 x2 (x7 ++ x2) (wrap64 (x8 + 1))) else (none))) else (if 0 ≤ (x9 / 16) then (if (x9 / 16) ≤ (((x9 / 16) + 1) % 256) then (if (((x9 / 16) + 1) % 256) ≤ 16 then (if 1 + ((min ((((x9 / 16) + 1) % 256) : Int).toNat 16 - ((x9 / 16) : Int).toNat)) ≤ 9223372036854775807 then (if 0 ≤ (Go.bits .and .u8 x9 15) then (if (Go.bits .and .u8 x9 15) ≤ (((Go.bits .and .u8 x9 15) + 1) % 256) then (if (((Go.bits .and .u8 x9 15) + 1) % 256) ≤ 16 then (if 1 + ((min ((((x9 / 16) + 1) % 256) : Int).toNat 16 - ((x9 / 16) : Int).toNat)) + ((min ((((Go.bits .and .u8 x9 15) + 1) % 256) : Int).toNat 16 - ((Go.bits .and .u8 x9 15) : Int).toNat)) ≤ 9223372036854775807 then (if x7.size + (1 + ((min ((((x9 / 16) + 1) % 256) : Int).toNat 16 - ((x9 / 16) : Int).toNat)) + ((min ((((Go.bits .and .u8 x9 15) + 1) % 256) : Int).toNat 16 - ((Go.bits .and .u8 x9 15) : Int).toNat))) ≤ 9223372036854775807 then (spec_quoted.l0 k x0 x1 x2 (x7 ++ (((⟨#[37]⟩ : ByteArray) ++ ((⟨#[48, 49, 50, 51, 52, 53, 54, 55, 56, 57, 65, 66, 67, 68, 69, 70]⟩ : ByteArray).extract ((x9 / 16) : Int).toNat ((((x9 / 16) + 1) % 256) : Int).toNat)) ++ ((⟨#[48, 49, 50, 51, 52, 53, 54, 55, 56, 57, 65, 66, 67, 68, 69, 70]⟩ : ByteArray).extract ((Go.bits .and .u8 x9 15) : Int).toNat ((((Go.bits .and .u8 x9 15) + 1) % 256) : Int).toNat))) (wrap64 (x8 + 1))) else (none)) else (none)) else (none)) else (none)) else (none)) else (none)) else (none)) else (none)) else (none)))
end
def spec_quoted.f (k : Nat) (a0 : ByteArray) (a1 : ByteArray) (a2 : ByteArray) : Option (ByteArray) := spec_quoted.l0 k a0 a1 a2 (⟨#[]⟩ : ByteArray) 0
theorem spec_quoted.mono_l : ∀ k, (∀ y0 y1 y2 y3 y4, LeO (spec_quoted.l0 k y0 y1 y2 y3 y4) (spec_quoted.l0 (k + 1) y0 y1 y2 y3 y4)) ∧ (∀ y0 y1 y2 y3 y4 y5 y6, LeO (spec_quoted.j1 k y0 y1 y2 y3 y4 y5 y6) (spec_quoted.j1 (k + 1) y0 y1 y2 y3 y4 y5 y6))
  | 0 => ⟨fun _ _ _ _ _ r h => by simp [spec_quoted.l0] at h, fun _ _ _ _ _ _ _ r h => by simp [spec_quoted.j1] at h⟩
  | k + 1 => by
    obtain ⟨ih0, ih1⟩ := spec_quoted.mono_l k
    refine ⟨?_, ?_⟩
    · intro y0 y1 y2 y3 y4
      unfold spec_quoted.l0
      repeat' first
      | (with_reducible exact ih0 _ _ _ _ _)
      | (with_reducible exact ih1 _ _ _ _ _ _ _)
      | (with_reducible exact spec_indexOf.mono _ _ _)
      | (with_reducible exact LeO.refl _)
      | (with_reducible exact LeO.none _)
      | (with_reducible refine LeO.ite ?_ ?_)
      | (with_reducible refine LeO.bind ?_ (fun _ => ?_))
      | exact ih0 _ _ _ _ _
      | exact ih1 _ _ _ _ _ _ _
      | exact spec_indexOf.mono _ _ _
      | exact LeO.none _
      | refine LeO.ite ?_ ?_
      | refine LeO.bind ?_ (fun _ => ?_)
    · intro y0 y1 y2 y3 y4 y5 y6
      unfold spec_quoted.j1
      repeat' first
      | (with_reducible exact ih0 _ _ _ _ _)
      | (with_reducible exact ih1 _ _ _ _ _ _ _)
      | (with_reducible exact spec_indexOf.mono _ _ _)
      | (with_reducible exact LeO.refl _)
      | (with_reducible exact LeO.none _)
      | (with_reducible refine LeO.ite ?_ ?_)
      | (with_reducible refine LeO.bind ?_ (fun _ => ?_))
      | exact ih0 _ _ _ _ _
      | exact ih1 _ _ _ _ _ _ _
      | exact spec_indexOf.mono _ _ _
      | exact LeO.none _
      | refine LeO.ite ?_ ?_
      | refine LeO.bind ?_ (fun _ => ?_)
theorem spec_quoted.mono : ∀ a0 a1 a2 k, LeO (spec_quoted.f k a0 a1 a2) (spec_quoted.f (k + 1) a0 a1 a2) := by
  intro a0 a1 a2 k
  obtain ⟨ih0, ih1⟩ := spec_quoted.mono_l k
  unfold spec_quoted.f
  repeat' first
      | (with_reducible exact ih0 _ _ _ _ _)
      | (with_reducible exact ih1 _ _ _ _ _ _ _)
      | (with_reducible exact spec_indexOf.mono _ _ _)
      | (with_reducible exact LeO.refl _)
      | (with_reducible exact LeO.none _)
      | (with_reducible refine LeO.ite ?_ ?_)
      | (with_reducible refine LeO.bind ?_ (fun _ => ?_))
      | exact ih0 _ _ _ _ _
      | exact ih1 _ _ _ _ _ _ _
      | exact spec_indexOf.mono _ _ _
      | exact LeO.none _
      | refine LeO.ite ?_ ?_
      | refine LeO.bind ?_ (fun _ => ?_)
set_option maxHeartbeats 8000000 in
set_option maxRecDepth 100000 in
theorem spec_quoted.calls (k : Nat) (a0 : ByteArray) (a1 : ByteArray) (a2 : ByteArray) (r : ByteArray) (w : World) (h : spec_quoted.f k a0 a1 a2 = some r) :
    Calls Try.prog 56 #[.string a0, .string a1, .string a2] w fun e w' => e = .returned (.string r) ∧ Drawn0 w w' := by
  have H : (spec_quoted.l0 k a0 a1 a2 (⟨#[]⟩ : ByteArray) 0) = some r := h
  clear h
  have H' := Aside0.mk H
  clear H
  go_enter Try.func56, Try.ntmps56
  go_wp2
  have hw8_ := Go.Proofs.YtjmcndbkmknemaaX.wrap_u8; repeat (go_quiet (fail); try go_wp2)
  go_loopg [7, 8] k (fun kq v7 v8 w' => ∃ (x7_1 : ByteArray) (x8_1 : Int), v7 = .string x7_1 ∧ v8 = .int .i64 x8_1 ∧ Aside0 (spec_quoted.l0 kq a0 a1 a2 x7_1 x8_1 = some r) ∧ Aside0 (kq ≤ k) ∧ Drawn0 w w')
  case atStart => exact ⟨((⟨#[]⟩ : ByteArray)), (0), (by first | rfl | (simp; done) | (simp [*]; done) | (simp [Go.Proofs.YtjmcndbkmknemaaX.isEmpty_ne]; done)), (by first | rfl | (simp; done) | (simp [*]; done) | (simp [Go.Proofs.YtjmcndbkmknemaaX.isEmpty_ne]; done)), H', ⟨Nat.le_refl _⟩, by repeat (first | exact Drawn0.refl _ | apply Drawn0.step)⟩
  case round =>
    clear H'
    try clear p2
    obtain ⟨x7_1, x8_1, rfl, rfl, HA, HK1, ⟨m1, rfl⟩⟩ := hrel
    cases gk with
    | zero => exact absurd HA.out (by simp [spec_quoted.l0])
    | succ k1 =>
      have H := HA.out
      clear HA
      simp only [spec_quoted.l0] at H
      by_cases c4 : x8_1 < (a0.size : Int)
      · rw [if_pos c4] at H
        have c4b0 : decide (x8_1 < (a0.size : Int)) = true := decide_eq_true c4
        clear c4
        by_cases c5 : 0 ≤ x8_1
        · rw [if_pos c5] at H
          have c5b0 : decide (0 ≤ x8_1) = true := decide_eq_true c5
          clear c5
          have HC7 := Aside0.mk H
          clear H
          have p6 : 0 ≤ (x8_1 : Int) := of_decide_eq_true (by first | (with_reducible assumption) | assumption)
          have q6 : x8_1 < (a0.size : Int) := of_decide_eq_true (by first | (with_reducible assumption) | assumption)
          have hx6 := bt_at a0 x8_1
          replace p6 := eq_true p6
          replace q6 := eq_true q6
          go_upto_region 7 with (fail)
          repeat (go_quiet (fail); go_upto_region 7 with (fail))
          go_cut [35] (fun v35 wc => ∃ (kq : Nat) (x35_6 : Bool), v35 = .bool x35_6 ∧ Aside0 (spec_quoted.j1 kq a0 a1 a2 x7_1 x8_1 (bt a0 x8_1) x35_6 = some r) ∧ Aside0 (kq ≤ k1) ∧ Drawn0 w wc)
          case first =>
            have H := HC7.out
            clear HC7
            replace H := Option.bind_eq_some_iff.mp H
            obtain ⟨t236, A80, H⟩ := H
            replace H : (if t236 = true then (spec_quoted.j1 k1 a0 a1 a2 x7_1 x8_1 (bt a0 x8_1) true) else ((spec_indexOf.f k1 a1 (bt a0 x8_1)).bind fun t237 => (spec_quoted.j1 k1 a0 a1 a2 x7_1 x8_1 (bt a0 x8_1) (decide (t237 ≥ 0))))) = some r := H
            have A8 := Aside0.mk A80
            clear A80
            by_cases c9 : t236 = true
            · subst c9
              have H1 : (spec_quoted.j1 k1 a0 a1 a2 x7_1 x8_1 (bt a0 x8_1) true) = some r := by rw [if_pos rfl] at H; exact H
              clear H
              have H := H1
              clear H1
              have H' := Aside0.mk H
              clear H
              go_wp2_with (first | (go_at_call 63; (with_reducible refine (spec_unreserved.calls (bt a0 x8_1) true _ A8.out).mono ?_); rintro e w' ⟨rfl, ⟨nd, rfl⟩⟩; (try first | exact ⟨rfl, _, World.drewN_drewN _ _ _⟩ | exact ⟨rfl, _, Eq.trans (World.drewN_drewN _ _ _) (congrArg (World.drewN _) (Nat.add_assoc _ _ _))⟩)))
              repeat (go_quiet (first | (go_at_call 63; (with_reducible refine (spec_unreserved.calls (bt a0 x8_1) true _ A8.out).mono ?_); rintro e w' ⟨rfl, ⟨nd, rfl⟩⟩; (try first | exact ⟨rfl, _, World.drewN_drewN _ _ _⟩ | exact ⟨rfl, _, Eq.trans (World.drewN_drewN _ _ _) (congrArg (World.drewN _) (Nat.add_assoc _ _ _))⟩))); try go_wp2_with (first | (go_at_call 63; (with_reducible refine (spec_unreserved.calls (bt a0 x8_1) true _ A8.out).mono ?_); rintro e w' ⟨rfl, ⟨nd, rfl⟩⟩; (try first | exact ⟨rfl, _, World.drewN_drewN _ _ _⟩ | exact ⟨rfl, _, Eq.trans (World.drewN_drewN _ _ _) (congrArg (World.drewN _) (Nat.add_assoc _ _ _))⟩))))
              go_meet
              case rel => exact ⟨_, (true), (by first | rfl | (simp; done) | (simp [*]; done) | (simp [Go.Proofs.YtjmcndbkmknemaaX.isEmpty_ne]; done)), H', ⟨by have := HK1.out; first | omega | exact Nat.le_refl _⟩, by repeat (first | exact Drawn0.refl _ | apply Drawn0.step)⟩
            · replace c9 := Bool.eq_false_iff.mpr c9
              subst c9
              have H1 : ((spec_indexOf.f k1 a1 (bt a0 x8_1)).bind fun t237 => (spec_quoted.j1 k1 a0 a1 a2 x7_1 x8_1 (bt a0 x8_1) (decide (t237 ≥ 0)))) = some r := by rw [if_neg (show ¬ (false = true) by decide)] at H; exact H
              clear H
              have H := H1
              clear H1
              replace H := Option.bind_eq_some_iff.mp H
              obtain ⟨t237, A100, H⟩ := H
              replace H : (spec_quoted.j1 k1 a0 a1 a2 x7_1 x8_1 (bt a0 x8_1) (decide (t237 ≥ 0))) = some r := H
              have A10 := Aside0.mk A100
              clear A100
              have H' := Aside0.mk H
              clear H
              go_wp2_with (first | (go_at_call 63; (with_reducible refine (spec_unreserved.calls (bt a0 x8_1) false _ A8.out).mono ?_); rintro e w' ⟨rfl, ⟨nd, rfl⟩⟩; (try first | exact ⟨rfl, _, World.drewN_drewN _ _ _⟩ | exact ⟨rfl, _, Eq.trans (World.drewN_drewN _ _ _) (congrArg (World.drewN _) (Nat.add_assoc _ _ _))⟩)) | (go_at_call 64; (with_reducible refine (spec_indexOf.calls k1 a1 (bt a0 x8_1) t237 _ A10.out).mono ?_); rintro e w' ⟨rfl, ⟨nd, rfl⟩⟩; (try first | exact ⟨rfl, _, World.drewN_drewN _ _ _⟩ | exact ⟨rfl, _, Eq.trans (World.drewN_drewN _ _ _) (congrArg (World.drewN _) (Nat.add_assoc _ _ _))⟩)))
              repeat (go_quiet (first | (go_at_call 63; (with_reducible refine (spec_unreserved.calls (bt a0 x8_1) false _ A8.out).mono ?_); rintro e w' ⟨rfl, ⟨nd, rfl⟩⟩; (try first | exact ⟨rfl, _, World.drewN_drewN _ _ _⟩ | exact ⟨rfl, _, Eq.trans (World.drewN_drewN _ _ _) (congrArg (World.drewN _) (Nat.add_assoc _ _ _))⟩)) | (go_at_call 64; (with_reducible refine (spec_indexOf.calls k1 a1 (bt a0 x8_1) t237 _ A10.out).mono ?_); rintro e w' ⟨rfl, ⟨nd, rfl⟩⟩; (try first | exact ⟨rfl, _, World.drewN_drewN _ _ _⟩ | exact ⟨rfl, _, Eq.trans (World.drewN_drewN _ _ _) (congrArg (World.drewN _) (Nat.add_assoc _ _ _))⟩))); try go_wp2_with (first | (go_at_call 63; (with_reducible refine (spec_unreserved.calls (bt a0 x8_1) false _ A8.out).mono ?_); rintro e w' ⟨rfl, ⟨nd, rfl⟩⟩; (try first | exact ⟨rfl, _, World.drewN_drewN _ _ _⟩ | exact ⟨rfl, _, Eq.trans (World.drewN_drewN _ _ _) (congrArg (World.drewN _) (Nat.add_assoc _ _ _))⟩)) | (go_at_call 64; (with_reducible refine (spec_indexOf.calls k1 a1 (bt a0 x8_1) t237 _ A10.out).mono ?_); rintro e w' ⟨rfl, ⟨nd, rfl⟩⟩; (try first | exact ⟨rfl, _, World.drewN_drewN _ _ _⟩ | exact ⟨rfl, _, Eq.trans (World.drewN_drewN _ _ _) (congrArg (World.drewN _) (Nat.add_assoc _ _ _))⟩))))
              go_meet
              case rel => exact ⟨_, (decide (t237 ≥ 0)), (by first | rfl | (simp; done) | (simp [*]; done) | (simp [Go.Proofs.YtjmcndbkmknemaaX.isEmpty_ne]; done)), H', ⟨by have := HK1.out; first | omega | exact Nat.le_refl _⟩, by repeat (first | exact Drawn0.refl _ | apply Drawn0.step)⟩
          case rest =>
            clear HC7
            try clear p2
            try clear c4
            try clear c4b0
            try clear c5
            try clear c5b0
            try clear p6
            try clear q6
            try clear hx6
            try clear c9
            try clear p2
            try clear p6
            try clear q6
            obtain ⟨kq, x35_6, rfl, HA, HJ6, ⟨mc6, rfl⟩⟩ := hcut
            cases kq with
            | zero => exact absurd HA.out (by simp [spec_quoted.j1])
            | succ kj6 =>
              have H := HA.out
              clear HA
              simp only [spec_quoted.j1] at H
              by_cases c11 : x35_6 = true
              · subst c11
                have H1 : (if 0 ≤ x8_1 then (if x8_1 ≤ (wrap64 (x8_1 + 1)) then (if (wrap64 (x8_1 + 1)) ≤ (a0.size : Int) then (if x7_1.size + ((min ((wrap64 (x8_1 + 1)) : Int).toNat a0.size - (x8_1 : Int).toNat)) ≤ 9223372036854775807 then (spec_quoted.l0 kj6 a0 a1 a2 (x7_1 ++ (a0.extract (x8_1 : Int).toNat ((wrap64 (x8_1 + 1)) : Int).toNat)) (wrap64 (x8_1 + 1))) else (none)) else (none)) else (none)) else (none)) = some r := by rw [if_pos rfl] at H; exact H
                clear H
                have H := H1
                clear H1
                by_cases c12 : 0 ≤ x8_1
                · rw [if_pos c12] at H
                  have c12b0 := eq_true c12
                  have c12b1 : decide (0 ≤ x8_1) = true := decide_eq_true c12
                  clear c12
                  by_cases c13 : x8_1 ≤ (wrap64 (x8_1 + 1))
                  · rw [if_pos c13] at H
                    have c13b0 := eq_true c13
                    have c13b1 : decide (x8_1 ≤ (wrap64 (x8_1 + 1))) = true := decide_eq_true c13
                    by_cases c14 : (wrap64 (x8_1 + 1)) ≤ (a0.size : Int)
                    · rw [if_pos c14] at H
                      have c14b0 := eq_true c14
                      have c14b1 : decide ((wrap64 (x8_1 + 1)) ≤ (a0.size : Int)) = true := decide_eq_true c14
                      by_cases c15 : x7_1.size + ((min ((wrap64 (x8_1 + 1)) : Int).toNat a0.size - (x8_1 : Int).toNat)) ≤ 9223372036854775807
                      · rw [if_pos c15] at H
                        have c15b0 := eq_true c15
                        have c15b1 : decide (x7_1.size + ((min ((wrap64 (x8_1 + 1)) : Int).toNat a0.size - (x8_1 : Int).toNat)) ≤ 9223372036854775807) = true := decide_eq_true c15
                        try have c15b2 : (9223372036854775807 < x7_1.size + ((min ((wrap64 (x8_1 + 1)) : Int).toNat a0.size - (x8_1 : Int).toNat))) = False := eq_false (Nat.not_lt.2 c15)
                        have H' := Aside0.mk H
                        clear H
                        go_wp2
                        have hw8_ := Go.Proofs.YtjmcndbkmknemaaX.wrap_u8; repeat (go_quiet (fail); try go_wp2)
                        any_goals (try (exfalso; have zc4b0 := of_decide_eq_true c4b0; have zc5b0 := of_decide_eq_true c5b0; have zc12b1 := of_decide_eq_true c12b1; have zc13b1 := of_decide_eq_true c13b1; have zc14b1 := of_decide_eq_true c14b1; have zc15b1 := of_decide_eq_true c15b1; omega))
                        go_roundg kj6
                        case measure => have := HK1.out; have := HJ6.out; omega
                        case rel => exact ⟨(x7_1 ++ (a0.extract (x8_1 : Int).toNat ((wrap64 (x8_1 + 1)) : Int).toNat)), (wrap64 (x8_1 + 1)), (by first | rfl | (simp; done) | (simp [*]; done) | (simp [Go.Proofs.YtjmcndbkmknemaaX.isEmpty_ne]; done)), (by first | rfl | (simp; done) | (simp [*]; done) | (simp [Go.Proofs.YtjmcndbkmknemaaX.isEmpty_ne]; done)), H', ⟨by have := HK1.out; have := HJ6.out; omega⟩, by repeat (first | exact Drawn0.refl _ | apply Drawn0.step)⟩
                      · rw [if_neg c15] at H
                        exact absurd H (by simp)
                    · rw [if_neg c14] at H
                      exact absurd H (by simp)
                  · rw [if_neg c13] at H
                    exact absurd H (by simp)
                · rw [if_neg c12] at H
                  exact absurd H (by simp)
              · replace c11 := Bool.eq_false_iff.mpr c11
                subst c11
                have H1 : (if (bt a0 x8_1) = 32 then (if a2.toList = ([] : List UInt8) then (if 0 ≤ ((bt a0 x8_1) / 16) then (if ((bt a0 x8_1) / 16) ≤ ((((bt a0 x8_1) / 16) + 1) % 256) then (if ((((bt a0 x8_1) / 16) + 1) % 256) ≤ 16 then (if 1 + ((min (((((bt a0 x8_1) / 16) + 1) % 256) : Int).toNat 16 - (((bt a0 x8_1) / 16) : Int).toNat)) ≤ 9223372036854775807 then (if 0 ≤ (Go.bits .and .u8 (bt a0 x8_1) 15) then (if (Go.bits .and .u8 (bt a0 x8_1) 15) ≤ (((Go.bits .and .u8 (bt a0 x8_1) 15) + 1) % 256) then (if (((Go.bits .and .u8 (bt a0 x8_1) 15) + 1) % 256) ≤ 16 then (if 1 + ((min (((((bt a0 x8_1) / 16) + 1) % 256) : Int).toNat 16 - (((bt a0 x8_1) / 16) : Int).toNat)) + ((min ((((Go.bits .and .u8 (bt a0 x8_1) 15) + 1) % 256) : Int).toNat 16 - ((Go.bits .and .u8 (bt a0 x8_1) 15) : Int).toNat)) ≤ 9223372036854775807 then (if x7_1.size + (1 + ((min (((((bt a0 x8_1) / 16) + 1) % 256) : Int).toNat 16 - (((bt a0 x8_1) / 16) : Int).toNat)) + ((min ((((Go.bits .and .u8 (bt a0 x8_1) 15) + 1) % 256) : Int).toNat 16 - ((Go.bits .and .u8 (bt a0 x8_1) 15) : Int).toNat))) ≤ 9223372036854775807 then (spec_quoted.l0 kj6 a0 a1 a2 (x7_1 ++ (((⟨#[37]⟩ : ByteArray) ++ ((⟨#[48, 49, 50, 51, 52, 53, 54, 55, 56, 57, 65, 66, 67, 68, 69, 70]⟩ : ByteArray).extract (((bt a0 x8_1) / 16) : Int).toNat (((((bt a0 x8_1) / 16) + 1) % 256) : Int).toNat)) ++ ((⟨#[48, 49, 50, 51, 52, 53, 54, 55, 56, 57, 65, 66, 67, 68, 69, 70]⟩ : ByteArray).extract ((Go.bits .and .u8 (bt a0 x8_1) 15) : Int).toNat ((((Go.bits .and .u8 (bt a0 x8_1) 15) + 1) % 256) : Int).toNat))) (wrap64 (x8_1 + 1))) else (none)) else (none)) else (none)) else (none)) else (none)) else (none)) else (none)) else (none)) else (none)) else (if x7_1.size + a2.size ≤ 9223372036854775807 then (spec_quoted.l0 kj6 a0 a1 a2 (x7_1 ++ a2) (wrap64 (x8_1 + 1))) else (none))) else (if 0 ≤ ((bt a0 x8_1) / 16) then (if ((bt a0 x8_1) / 16) ≤ ((((bt a0 x8_1) / 16) + 1) % 256) then (if ((((bt a0 x8_1) / 16) + 1) % 256) ≤ 16 then (if 1 + ((min (((((bt a0 x8_1) / 16) + 1) % 256) : Int).toNat 16 - (((bt a0 x8_1) / 16) : Int).toNat)) ≤ 9223372036854775807 then (if 0 ≤ (Go.bits .and .u8 (bt a0 x8_1) 15) then (if (Go.bits .and .u8 (bt a0 x8_1) 15) ≤ (((Go.bits .and .u8 (bt a0 x8_1) 15) + 1) % 256) then (if (((Go.bits .and .u8 (bt a0 x8_1) 15) + 1) % 256) ≤ 16 then (if 1 + ((min (((((bt a0 x8_1) / 16) + 1) % 256) : Int).toNat 16 - (((bt a0 x8_1) / 16) : Int).toNat)) + ((min ((((Go.bits .and .u8 (bt a0 x8_1) 15) + 1) % 256) : Int).toNat 16 - ((Go.bits .and .u8 (bt a0 x8_1) 15) : Int).toNat)) ≤ 9223372036854775807 then (if x7_1.size + (1 + ((min (((((bt a0 x8_1) / 16) + 1) % 256) : Int).toNat 16 - (((bt a0 x8_1) / 16) : Int).toNat)) + ((min ((((Go.bits .and .u8 (bt a0 x8_1) 15) + 1) % 256) : Int).toNat 16 - ((Go.bits .and .u8 (bt a0 x8_1) 15) : Int).toNat))) ≤ 9223372036854775807 then (spec_quoted.l0 kj6 a0 a1 a2 (x7_1 ++ (((⟨#[37]⟩ : ByteArray) ++ ((⟨#[48, 49, 50, 51, 52, 53, 54, 55, 56, 57, 65, 66, 67, 68, 69, 70]⟩ : ByteArray).extract (((bt a0 x8_1) / 16) : Int).toNat (((((bt a0 x8_1) / 16) + 1) % 256) : Int).toNat)) ++ ((⟨#[48, 49, 50, 51, 52, 53, 54, 55, 56, 57, 65, 66, 67, 68, 69, 70]⟩ : ByteArray).extract ((Go.bits .and .u8 (bt a0 x8_1) 15) : Int).toNat ((((Go.bits .and .u8 (bt a0 x8_1) 15) + 1) % 256) : Int).toNat))) (wrap64 (x8_1 + 1))) else (none)) else (none)) else (none)) else (none)) else (none)) else (none)) else (none)) else (none)) else (none))) = some r := by rw [if_neg (show ¬ (false = true) by decide)] at H; exact H
                clear H
                have H := H1
                clear H1
                by_cases c16 : (bt a0 x8_1) = 32
                · rw [if_pos c16] at H
                  have c16b0 : ((bt a0 x8_1) == 32) = true := beq_iff_eq.mpr c16
                  have c16b1 : ((bt a0 x8_1) != 32) = false := bne_eq_false_iff_eq.mpr c16
                  clear c16
                  by_cases c17 : a2.toList = ([] : List UInt8)
                  · rw [if_pos c17] at H
                    have c17b0 : (a2.toList == ([] : List UInt8)) = true := beq_iff_eq.mpr c17
                    have c17b1 : (a2.toList != ([] : List UInt8)) = false := bne_eq_false_iff_eq.mpr c17
                    clear c17
                    obtain ⟨ji18, hji18⟩ : ∃ j_ : Int, ((bt a0 x8_1) / 16) = j_ := ⟨_, rfl⟩
                    replace H : (if 0 ≤ (ji18) then (if (ji18) ≤ (((ji18) + 1) % 256) then (if (((ji18) + 1) % 256) ≤ 16 then (if 1 + ((min ((((ji18) + 1) % 256) : Int).toNat 16 - ((ji18) : Int).toNat)) ≤ 9223372036854775807 then (if 0 ≤ (Go.bits .and .u8 (bt a0 x8_1) 15) then (if (Go.bits .and .u8 (bt a0 x8_1) 15) ≤ (((Go.bits .and .u8 (bt a0 x8_1) 15) + 1) % 256) then (if (((Go.bits .and .u8 (bt a0 x8_1) 15) + 1) % 256) ≤ 16 then (if 1 + ((min ((((ji18) + 1) % 256) : Int).toNat 16 - ((ji18) : Int).toNat)) + ((min ((((Go.bits .and .u8 (bt a0 x8_1) 15) + 1) % 256) : Int).toNat 16 - ((Go.bits .and .u8 (bt a0 x8_1) 15) : Int).toNat)) ≤ 9223372036854775807 then (if x7_1.size + (1 + ((min ((((ji18) + 1) % 256) : Int).toNat 16 - ((ji18) : Int).toNat)) + ((min ((((Go.bits .and .u8 (bt a0 x8_1) 15) + 1) % 256) : Int).toNat 16 - ((Go.bits .and .u8 (bt a0 x8_1) 15) : Int).toNat))) ≤ 9223372036854775807 then (spec_quoted.l0 kj6 a0 a1 a2 (x7_1 ++ (((⟨#[37]⟩ : ByteArray) ++ ((⟨#[48, 49, 50, 51, 52, 53, 54, 55, 56, 57, 65, 66, 67, 68, 69, 70]⟩ : ByteArray).extract ((ji18) : Int).toNat ((((ji18) + 1) % 256) : Int).toNat)) ++ ((⟨#[48, 49, 50, 51, 52, 53, 54, 55, 56, 57, 65, 66, 67, 68, 69, 70]⟩ : ByteArray).extract ((Go.bits .and .u8 (bt a0 x8_1) 15) : Int).toNat ((((Go.bits .and .u8 (bt a0 x8_1) 15) + 1) % 256) : Int).toNat))) (wrap64 (x8_1 + 1))) else (none)) else (none)) else (none)) else (none)) else (none)) else (none)) else (none)) else (none)) else (none)) = some r := by first | (rw [hji18] at H; exact H) | (simp only [hji18] at H ⊢; exact H)
                    by_cases c19 : 0 ≤ (ji18)
                    · rw [if_pos c19] at H
                      have c19b0 := eq_true c19
                      have c19b1 : decide (0 ≤ (ji18)) = true := decide_eq_true c19
                      clear c19
                      by_cases c20 : (ji18) ≤ (((ji18) + 1) % 256)
                      · rw [if_pos c20] at H
                        have c20b0 := eq_true c20
                        have c20b1 : decide ((ji18) ≤ (((ji18) + 1) % 256)) = true := decide_eq_true c20
                        by_cases c21 : (((ji18) + 1) % 256) ≤ 16
                        · rw [if_pos c21] at H
                          have c21b0 := eq_true c21
                          have c21b1 : decide ((((ji18) + 1) % 256) ≤ 16) = true := decide_eq_true c21
                          by_cases c22 : 1 + ((min ((((ji18) + 1) % 256) : Int).toNat 16 - ((ji18) : Int).toNat)) ≤ 9223372036854775807
                          · rw [if_pos c22] at H
                            have c22b0 := eq_true c22
                            have c22b1 : decide (1 + ((min ((((ji18) + 1) % 256) : Int).toNat 16 - ((ji18) : Int).toNat)) ≤ 9223372036854775807) = true := decide_eq_true c22
                            try have c22b2 : (9223372036854775807 < 1 + ((min ((((ji18) + 1) % 256) : Int).toNat 16 - ((ji18) : Int).toNat))) = False := eq_false (Nat.not_lt.2 c22)
                            by_cases c23 : 0 ≤ (Go.bits .and .u8 (bt a0 x8_1) 15)
                            · rw [if_pos c23] at H
                              have c23b0 := eq_true c23
                              have c23b1 : decide (0 ≤ (Go.bits .and .u8 (bt a0 x8_1) 15)) = true := decide_eq_true c23
                              clear c23
                              by_cases c24 : (Go.bits .and .u8 (bt a0 x8_1) 15) ≤ (((Go.bits .and .u8 (bt a0 x8_1) 15) + 1) % 256)
                              · rw [if_pos c24] at H
                                have c24b0 := eq_true c24
                                have c24b1 : decide ((Go.bits .and .u8 (bt a0 x8_1) 15) ≤ (((Go.bits .and .u8 (bt a0 x8_1) 15) + 1) % 256)) = true := decide_eq_true c24
                                by_cases c25 : (((Go.bits .and .u8 (bt a0 x8_1) 15) + 1) % 256) ≤ 16
                                · rw [if_pos c25] at H
                                  have c25b0 := eq_true c25
                                  have c25b1 : decide ((((Go.bits .and .u8 (bt a0 x8_1) 15) + 1) % 256) ≤ 16) = true := decide_eq_true c25
                                  by_cases c26 : 1 + ((min ((((ji18) + 1) % 256) : Int).toNat 16 - ((ji18) : Int).toNat)) + ((min ((((Go.bits .and .u8 (bt a0 x8_1) 15) + 1) % 256) : Int).toNat 16 - ((Go.bits .and .u8 (bt a0 x8_1) 15) : Int).toNat)) ≤ 9223372036854775807
                                  · rw [if_pos c26] at H
                                    have c26b0 := eq_true c26
                                    have c26b1 : decide (1 + ((min ((((ji18) + 1) % 256) : Int).toNat 16 - ((ji18) : Int).toNat)) + ((min ((((Go.bits .and .u8 (bt a0 x8_1) 15) + 1) % 256) : Int).toNat 16 - ((Go.bits .and .u8 (bt a0 x8_1) 15) : Int).toNat)) ≤ 9223372036854775807) = true := decide_eq_true c26
                                    try have c26b2 : (9223372036854775807 < 1 + ((min ((((ji18) + 1) % 256) : Int).toNat 16 - ((ji18) : Int).toNat)) + ((min ((((Go.bits .and .u8 (bt a0 x8_1) 15) + 1) % 256) : Int).toNat 16 - ((Go.bits .and .u8 (bt a0 x8_1) 15) : Int).toNat))) = False := eq_false (Nat.not_lt.2 c26)
                                    by_cases c27 : x7_1.size + (1 + ((min ((((ji18) + 1) % 256) : Int).toNat 16 - ((ji18) : Int).toNat)) + ((min ((((Go.bits .and .u8 (bt a0 x8_1) 15) + 1) % 256) : Int).toNat 16 - ((Go.bits .and .u8 (bt a0 x8_1) 15) : Int).toNat))) ≤ 9223372036854775807
                                    · rw [if_pos c27] at H
                                      have c27b0 := eq_true c27
                                      have c27b1 : decide (x7_1.size + (1 + ((min ((((ji18) + 1) % 256) : Int).toNat 16 - ((ji18) : Int).toNat)) + ((min ((((Go.bits .and .u8 (bt a0 x8_1) 15) + 1) % 256) : Int).toNat 16 - ((Go.bits .and .u8 (bt a0 x8_1) 15) : Int).toNat))) ≤ 9223372036854775807) = true := decide_eq_true c27
                                      try have c27b2 : (9223372036854775807 < x7_1.size + (1 + ((min ((((ji18) + 1) % 256) : Int).toNat 16 - ((ji18) : Int).toNat)) + ((min ((((Go.bits .and .u8 (bt a0 x8_1) 15) + 1) % 256) : Int).toNat 16 - ((Go.bits .and .u8 (bt a0 x8_1) 15) : Int).toNat)))) = False := eq_false (Nat.not_lt.2 c27)
                                      have H' := Aside0.mk H
                                      clear H
                                      go_wp2
                                      have hw8_ := Go.Proofs.YtjmcndbkmknemaaX.wrap_u8; repeat (go_quiet (fail); try go_wp2)
                                      any_goals (try (exfalso; have zc4b0 := of_decide_eq_true c4b0; have zc5b0 := of_decide_eq_true c5b0; have zc19b1 := of_decide_eq_true c19b1; have zc20b1 := of_decide_eq_true c20b1; have zc21b1 := of_decide_eq_true c21b1; have zc22b1 := of_decide_eq_true c22b1; have zc23b1 := of_decide_eq_true c23b1; have zc24b1 := of_decide_eq_true c24b1; have zc25b1 := of_decide_eq_true c25b1; have zc26b1 := of_decide_eq_true c26b1; have zc27b1 := of_decide_eq_true c27b1; omega))
                                      go_roundg kj6
                                      case measure => have := HK1.out; have := HJ6.out; omega
                                      case rel => exact ⟨(x7_1 ++ (((⟨#[37]⟩ : ByteArray) ++ ((⟨#[48, 49, 50, 51, 52, 53, 54, 55, 56, 57, 65, 66, 67, 68, 69, 70]⟩ : ByteArray).extract ((ji18) : Int).toNat ((((ji18) + 1) % 256) : Int).toNat)) ++ ((⟨#[48, 49, 50, 51, 52, 53, 54, 55, 56, 57, 65, 66, 67, 68, 69, 70]⟩ : ByteArray).extract ((Go.bits .and .u8 (bt a0 x8_1) 15) : Int).toNat ((((Go.bits .and .u8 (bt a0 x8_1) 15) + 1) % 256) : Int).toNat))), (wrap64 (x8_1 + 1)), (by first | rfl | (simp; done) | (simp only [← hji18] <;> (first | rfl | simp)) | (simp [*]; done) | (simp [Go.Proofs.YtjmcndbkmknemaaX.isEmpty_ne]; done)), (by first | rfl | (simp; done) | (simp [*]; done) | (simp [Go.Proofs.YtjmcndbkmknemaaX.isEmpty_ne]; done)), H', ⟨by have := HK1.out; have := HJ6.out; omega⟩, by repeat (first | exact Drawn0.refl _ | apply Drawn0.step)⟩
                                    · rw [if_neg c27] at H
                                      exact absurd H (by simp)
                                  · rw [if_neg c26] at H
                                    exact absurd H (by simp)
                                · rw [if_neg c25] at H
                                  exact absurd H (by simp)
                              · rw [if_neg c24] at H
                                exact absurd H (by simp)
                            · rw [if_neg c23] at H
                              exact absurd H (by simp)
                          · rw [if_neg c22] at H
                            exact absurd H (by simp)
                        · rw [if_neg c21] at H
                          exact absurd H (by simp)
                      · rw [if_neg c20] at H
                        exact absurd H (by simp)
                    · rw [if_neg c19] at H
                      exact absurd H (by simp)
                  · rw [if_neg c17] at H
                    have c17b0 : (a2.toList == ([] : List UInt8)) = false := beq_eq_false_iff_ne.mpr c17
                    have c17b1 : (a2.toList != ([] : List UInt8)) = true := bne_iff_ne.mpr c17
                    by_cases c28 : x7_1.size + a2.size ≤ 9223372036854775807
                    · rw [if_pos c28] at H
                      have c28b0 := eq_true c28
                      have c28b1 : decide (x7_1.size + a2.size ≤ 9223372036854775807) = true := decide_eq_true c28
                      try have c28b2 : (9223372036854775807 < x7_1.size + a2.size) = False := eq_false (Nat.not_lt.2 c28)
                      have H' := Aside0.mk H
                      clear H
                      go_wp2
                      have hw8_ := Go.Proofs.YtjmcndbkmknemaaX.wrap_u8; repeat (go_quiet (fail); try go_wp2)
                      any_goals (try (exfalso; have zc4b0 := of_decide_eq_true c4b0; have zc5b0 := of_decide_eq_true c5b0; have zc28b1 := of_decide_eq_true c28b1; omega))
                      go_roundg kj6
                      case measure => have := HK1.out; have := HJ6.out; omega
                      case rel => exact ⟨(x7_1 ++ a2), (wrap64 (x8_1 + 1)), (by first | rfl | (simp; done) | (simp [*]; done) | (simp [Go.Proofs.YtjmcndbkmknemaaX.isEmpty_ne]; done)), (by first | rfl | (simp; done) | (simp [*]; done) | (simp [Go.Proofs.YtjmcndbkmknemaaX.isEmpty_ne]; done)), H', ⟨by have := HK1.out; have := HJ6.out; omega⟩, by repeat (first | exact Drawn0.refl _ | apply Drawn0.step)⟩
                    · rw [if_neg c28] at H
                      exact absurd H (by simp)
                · rw [if_neg c16] at H
                  have c16b0 : ((bt a0 x8_1) == 32) = false := beq_eq_false_iff_ne.mpr c16
                  have c16b1 : ((bt a0 x8_1) != 32) = true := bne_iff_ne.mpr c16
                  obtain ⟨ji29, hji29⟩ : ∃ j_ : Int, ((bt a0 x8_1) / 16) = j_ := ⟨_, rfl⟩
                  replace H : (if 0 ≤ (ji29) then (if (ji29) ≤ (((ji29) + 1) % 256) then (if (((ji29) + 1) % 256) ≤ 16 then (if 1 + ((min ((((ji29) + 1) % 256) : Int).toNat 16 - ((ji29) : Int).toNat)) ≤ 9223372036854775807 then (if 0 ≤ (Go.bits .and .u8 (bt a0 x8_1) 15) then (if (Go.bits .and .u8 (bt a0 x8_1) 15) ≤ (((Go.bits .and .u8 (bt a0 x8_1) 15) + 1) % 256) then (if (((Go.bits .and .u8 (bt a0 x8_1) 15) + 1) % 256) ≤ 16 then (if 1 + ((min ((((ji29) + 1) % 256) : Int).toNat 16 - ((ji29) : Int).toNat)) + ((min ((((Go.bits .and .u8 (bt a0 x8_1) 15) + 1) % 256) : Int).toNat 16 - ((Go.bits .and .u8 (bt a0 x8_1) 15) : Int).toNat)) ≤ 9223372036854775807 then (if x7_1.size + (1 + ((min ((((ji29) + 1) % 256) : Int).toNat 16 - ((ji29) : Int).toNat)) + ((min ((((Go.bits .and .u8 (bt a0 x8_1) 15) + 1) % 256) : Int).toNat 16 - ((Go.bits .and .u8 (bt a0 x8_1) 15) : Int).toNat))) ≤ 9223372036854775807 then (spec_quoted.l0 kj6 a0 a1 a2 (x7_1 ++ (((⟨#[37]⟩ : ByteArray) ++ ((⟨#[48, 49, 50, 51, 52, 53, 54, 55, 56, 57, 65, 66, 67, 68, 69, 70]⟩ : ByteArray).extract ((ji29) : Int).toNat ((((ji29) + 1) % 256) : Int).toNat)) ++ ((⟨#[48, 49, 50, 51, 52, 53, 54, 55, 56, 57, 65, 66, 67, 68, 69, 70]⟩ : ByteArray).extract ((Go.bits .and .u8 (bt a0 x8_1) 15) : Int).toNat ((((Go.bits .and .u8 (bt a0 x8_1) 15) + 1) % 256) : Int).toNat))) (wrap64 (x8_1 + 1))) else (none)) else (none)) else (none)) else (none)) else (none)) else (none)) else (none)) else (none)) else (none)) = some r := by first | (rw [hji29] at H; exact H) | (simp only [hji29] at H ⊢; exact H)
                  by_cases c30 : 0 ≤ (ji29)
                  · rw [if_pos c30] at H
                    have c30b0 := eq_true c30
                    have c30b1 : decide (0 ≤ (ji29)) = true := decide_eq_true c30
                    clear c30
                    by_cases c31 : (ji29) ≤ (((ji29) + 1) % 256)
                    · rw [if_pos c31] at H
                      have c31b0 := eq_true c31
                      have c31b1 : decide ((ji29) ≤ (((ji29) + 1) % 256)) = true := decide_eq_true c31
                      by_cases c32 : (((ji29) + 1) % 256) ≤ 16
                      · rw [if_pos c32] at H
                        have c32b0 := eq_true c32
                        have c32b1 : decide ((((ji29) + 1) % 256) ≤ 16) = true := decide_eq_true c32
                        by_cases c33 : 1 + ((min ((((ji29) + 1) % 256) : Int).toNat 16 - ((ji29) : Int).toNat)) ≤ 9223372036854775807
                        · rw [if_pos c33] at H
                          have c33b0 := eq_true c33
                          have c33b1 : decide (1 + ((min ((((ji29) + 1) % 256) : Int).toNat 16 - ((ji29) : Int).toNat)) ≤ 9223372036854775807) = true := decide_eq_true c33
                          try have c33b2 : (9223372036854775807 < 1 + ((min ((((ji29) + 1) % 256) : Int).toNat 16 - ((ji29) : Int).toNat))) = False := eq_false (Nat.not_lt.2 c33)
                          by_cases c34 : 0 ≤ (Go.bits .and .u8 (bt a0 x8_1) 15)
                          · rw [if_pos c34] at H
                            have c34b0 := eq_true c34
                            have c34b1 : decide (0 ≤ (Go.bits .and .u8 (bt a0 x8_1) 15)) = true := decide_eq_true c34
                            clear c34
                            by_cases c35 : (Go.bits .and .u8 (bt a0 x8_1) 15) ≤ (((Go.bits .and .u8 (bt a0 x8_1) 15) + 1) % 256)
                            · rw [if_pos c35] at H
                              have c35b0 := eq_true c35
                              have c35b1 : decide ((Go.bits .and .u8 (bt a0 x8_1) 15) ≤ (((Go.bits .and .u8 (bt a0 x8_1) 15) + 1) % 256)) = true := decide_eq_true c35
                              by_cases c36 : (((Go.bits .and .u8 (bt a0 x8_1) 15) + 1) % 256) ≤ 16
                              · rw [if_pos c36] at H
                                have c36b0 := eq_true c36
                                have c36b1 : decide ((((Go.bits .and .u8 (bt a0 x8_1) 15) + 1) % 256) ≤ 16) = true := decide_eq_true c36
                                by_cases c37 : 1 + ((min ((((ji29) + 1) % 256) : Int).toNat 16 - ((ji29) : Int).toNat)) + ((min ((((Go.bits .and .u8 (bt a0 x8_1) 15) + 1) % 256) : Int).toNat 16 - ((Go.bits .and .u8 (bt a0 x8_1) 15) : Int).toNat)) ≤ 9223372036854775807
                                · rw [if_pos c37] at H
                                  have c37b0 := eq_true c37
                                  have c37b1 : decide (1 + ((min ((((ji29) + 1) % 256) : Int).toNat 16 - ((ji29) : Int).toNat)) + ((min ((((Go.bits .and .u8 (bt a0 x8_1) 15) + 1) % 256) : Int).toNat 16 - ((Go.bits .and .u8 (bt a0 x8_1) 15) : Int).toNat)) ≤ 9223372036854775807) = true := decide_eq_true c37
                                  try have c37b2 : (9223372036854775807 < 1 + ((min ((((ji29) + 1) % 256) : Int).toNat 16 - ((ji29) : Int).toNat)) + ((min ((((Go.bits .and .u8 (bt a0 x8_1) 15) + 1) % 256) : Int).toNat 16 - ((Go.bits .and .u8 (bt a0 x8_1) 15) : Int).toNat))) = False := eq_false (Nat.not_lt.2 c37)
                                  by_cases c38 : x7_1.size + (1 + ((min ((((ji29) + 1) % 256) : Int).toNat 16 - ((ji29) : Int).toNat)) + ((min ((((Go.bits .and .u8 (bt a0 x8_1) 15) + 1) % 256) : Int).toNat 16 - ((Go.bits .and .u8 (bt a0 x8_1) 15) : Int).toNat))) ≤ 9223372036854775807
                                  · rw [if_pos c38] at H
                                    have c38b0 := eq_true c38
                                    have c38b1 : decide (x7_1.size + (1 + ((min ((((ji29) + 1) % 256) : Int).toNat 16 - ((ji29) : Int).toNat)) + ((min ((((Go.bits .and .u8 (bt a0 x8_1) 15) + 1) % 256) : Int).toNat 16 - ((Go.bits .and .u8 (bt a0 x8_1) 15) : Int).toNat))) ≤ 9223372036854775807) = true := decide_eq_true c38
                                    try have c38b2 : (9223372036854775807 < x7_1.size + (1 + ((min ((((ji29) + 1) % 256) : Int).toNat 16 - ((ji29) : Int).toNat)) + ((min ((((Go.bits .and .u8 (bt a0 x8_1) 15) + 1) % 256) : Int).toNat 16 - ((Go.bits .and .u8 (bt a0 x8_1) 15) : Int).toNat)))) = False := eq_false (Nat.not_lt.2 c38)
                                    have H' := Aside0.mk H
                                    clear H
                                    go_wp2
                                    have hw8_ := Go.Proofs.YtjmcndbkmknemaaX.wrap_u8; repeat (go_quiet (fail); try go_wp2)
                                    any_goals (try (exfalso; have zc4b0 := of_decide_eq_true c4b0; have zc5b0 := of_decide_eq_true c5b0; have zc30b1 := of_decide_eq_true c30b1; have zc31b1 := of_decide_eq_true c31b1; have zc32b1 := of_decide_eq_true c32b1; have zc33b1 := of_decide_eq_true c33b1; have zc34b1 := of_decide_eq_true c34b1; have zc35b1 := of_decide_eq_true c35b1; have zc36b1 := of_decide_eq_true c36b1; have zc37b1 := of_decide_eq_true c37b1; have zc38b1 := of_decide_eq_true c38b1; omega))
                                    go_roundg kj6
                                    case measure => have := HK1.out; have := HJ6.out; omega
                                    case rel => exact ⟨(x7_1 ++ (((⟨#[37]⟩ : ByteArray) ++ ((⟨#[48, 49, 50, 51, 52, 53, 54, 55, 56, 57, 65, 66, 67, 68, 69, 70]⟩ : ByteArray).extract ((ji29) : Int).toNat ((((ji29) + 1) % 256) : Int).toNat)) ++ ((⟨#[48, 49, 50, 51, 52, 53, 54, 55, 56, 57, 65, 66, 67, 68, 69, 70]⟩ : ByteArray).extract ((Go.bits .and .u8 (bt a0 x8_1) 15) : Int).toNat ((((Go.bits .and .u8 (bt a0 x8_1) 15) + 1) % 256) : Int).toNat))), (wrap64 (x8_1 + 1)), (by first | rfl | (simp; done) | (simp only [← hji29] <;> (first | rfl | simp)) | (simp [*]; done) | (simp [Go.Proofs.YtjmcndbkmknemaaX.isEmpty_ne]; done)), (by first | rfl | (simp; done) | (simp [*]; done) | (simp [Go.Proofs.YtjmcndbkmknemaaX.isEmpty_ne]; done)), H', ⟨by have := HK1.out; have := HJ6.out; omega⟩, by repeat (first | exact Drawn0.refl _ | apply Drawn0.step)⟩
                                  · rw [if_neg c38] at H
                                    exact absurd H (by simp)
                                · rw [if_neg c37] at H
                                  exact absurd H (by simp)
                              · rw [if_neg c36] at H
                                exact absurd H (by simp)
                            · rw [if_neg c35] at H
                              exact absurd H (by simp)
                          · rw [if_neg c34] at H
                            exact absurd H (by simp)
                        · rw [if_neg c33] at H
                          exact absurd H (by simp)
                      · rw [if_neg c32] at H
                        exact absurd H (by simp)
                    · rw [if_neg c31] at H
                      exact absurd H (by simp)
                  · rw [if_neg c30] at H
                    exact absurd H (by simp)
        · rw [if_neg c5] at H
          exact absurd H (by simp)
      · rw [if_neg c4] at H
        have c4b0 : decide (x8_1 < (a0.size : Int)) = false := decide_eq_false c4
        clear c4
        obtain rfl := Option.some.inj H
        go_wp2
        have hw8_ := Go.Proofs.YtjmcndbkmknemaaX.wrap_u8; repeat (go_quiet (fail); try go_wp2)
        go_ret
        exact ⟨by first | rfl | (simp; done) | (simp [*]; done) | (simp [Go.Proofs.YtjmcndbkmknemaaX.isEmpty_ne]; done), by repeat (first | exact Drawn0.refl _ | apply Drawn0.step)⟩

end Go.Proofs.Ytjmcndbkmknemaa.Q
