-- Written by a program of this session out of the translation, with the kit's printer. Not trusted: Lean checks it.
import Derived.Test.YtjmcndbkmknemaaQ0
import Derived.Test.YtjmcndbkmknemaaQ3
import Derived.Test.YtjmcndbkmknemaaQ7
import Derived.Test.YtjmcndbkmknemaaQ8
namespace Go.Proofs.Ytjmcndbkmknemaa.Q
open Go.RowKit Go.Proofs.YtjmcndbkmknemaaW.PrintWords Go.Proofs.YtjmcndbkmknemaaW.PrintLast Go.Proofs.YtjmcndbkmknemaaW.PrintMore
attribute [local go_sem] max2_int min2_int max_two min_two max_three min_three max_four min_four   -- for this text's walks alone
set_option linter.unusedVariables false
set_option linter.unusedSimpArgs false

/-! ### spec_quoted: function 56 -/
mutual
def spec_quoted.l0 : Nat → ByteArray → ByteArray → ByteArray → ByteArray → Int → Option (ByteArray)
  | 0, _, _, _, _, _ => none
  | k + 1, x0, x1, x2, x7, x8 => if x8 < (x0.size : Int) then (if 0 ≤ x8 then ((spec_unreserved.f (bt x0 x8)).bind fun t236 => (if t236 = true then (spec_quoted.j1 k x0 x1 x2 x7 x8 (bt x0 x8) true) else ((spec_indexOf.f k x1 (bt x0 x8)).bind fun t237 => (spec_quoted.j1 k x0 x1 x2 x7 x8 (bt x0 x8) (decide (t237 ≥ 0)))))) else (none)) else (some x7)
def spec_quoted.j1 : Nat → ByteArray → ByteArray → ByteArray → ByteArray → Int → Int → Bool → Option (ByteArray)
  | 0, _, _, _, _, _, _, _ => none
  | k + 1, x0, x1, x2, x7, x8, x9, x35 => if x35 = true then (if 0 ≤ x8 then (if x8 ≤ (wrap64 (x8 + 1)) then (if (wrap64 (x8 + 1)) ≤ (x0.size : Int) then (if x7.size + ((min ((wrap64 (x8 + 1)) : Int).toNat x0.size - (x8 : Int).toNat)) ≤ 9223372036854775807 then (spec_quoted.l0 k x0 x1 x2 (x7 ++ (x0.extract (x8 : Int).toNat ((wrap64 (x8 + 1)) : Int).toNat)) (wrap64 (x8 + 1))) else (none)) else (none)) else (none)) else (none)) else (if x9 = 32 then (if x2.toList = ([] : List UInt8) then (if 0 ≤ (x9 / 16) then (if (x9 / 16) ≤ (((x9 / 16) + 1) % 256) then (if (((x9 / 16) + 1) % 256) ≤ 16 then (if 1 + ((min ((((x9 / 16) + 1) % 256) : Int).toNat 16 - ((x9 / 16) : Int).toNat)) ≤ 9223372036854775807 then (if 0 ≤ (Go.bits .and .u8 x9 15) then (if (Go.bits .and .u8 x9 15) ≤ (((Go.bits .and .u8 x9 15) + 1) % 256) then (if (((Go.bits .and .u8 x9 15) + 1) % 256) ≤ 16 then (if 1 + ((min ((((x9 / 16) + 1) % 256) : Int).toNat 16 - ((x9 / 16) : Int).toNat)) + ((min ((((Go.bits .and .u8 x9 15) + 1) % 256) : Int).toNat 16 - ((Go.bits .and .u8 x9 15) : Int).toNat)) ≤ 9223372036854775807 then (if x7.size + (1 + ((min ((((x9 / 16) + 1) % 256) : Int).toNat 16 - ((x9 / 16) : Int).toNat)) + ((min ((((Go.bits .and .u8 x9 15) + 1) % 256) : Int).toNat 16 - ((Go.bits .and .u8 x9 15) : Int).toNat))) ≤ 9223372036854775807 then (spec_quoted.l0 k x0 x1 x2 (x7 ++ (((⟨#[37]⟩ : ByteArray) ++ ((⟨#[48, 49, 50, 51, 52, 53, 54, 55, 56, 57, 65, 66, 67, 68, 69, 70]⟩ : ByteArray).extract ((x9 / 16) : Int).toNat ((((x9 / 16) + 1) % 256) : Int).toNat)) ++ ((⟨#[48, 49, 50, 51, 52, 53, 54, 55, 56, 57, 65, 66, 67, 68, 69, 70]⟩ : ByteArray).extract ((Go.bits .and .u8 x9 15) : Int).toNat ((((Go.bits .and .u8 x9 15) + 1) % 256) : Int).toNat))) (wrap64 (x8 + 1))) else (none)) else (none)) else (none)) else (none)) else (none)) else (none)) else (none)) else (none)) else (none)) else (if x7.size + x2.size ≤ 9223372036854775807 then (spec_quoted.l0 k x0 x1 x2 (x7 ++ x2) (wrap64 (x8 + 1))) else (none))) else (if 0 ≤ (x9 / 16) then (if (x9 / 16) ≤ (((x9 / 16) + 1) % 256) then (if (((x9 / 16) + 1) % 256) ≤ 16 then (if 1 + ((min ((((x9 / 16) + 1) % 256) : Int).toNat 16 - ((x9 / 16) : Int).toNat)) ≤ 9223372036854775807 then (if 0 ≤ (Go.bits .and .u8 x9 15) then (if (Go.bits .and .u8 x9 15) ≤ (((Go.bits .and .u8 x9 15) + 1) % 256) then (if (((Go.bits .and .u8 x9 15) + 1) % 256) ≤ 16 then (if 1 + ((min ((((x9 / 16) + 1) % 256) : Int).toNat 16 - ((x9 / 16) : Int).toNat)) + ((min ((((Go.bits .and .u8 x9 15) + 1) % 256) : Int).toNat 16 - ((Go.bits .and .u8 x9 15) : Int).toNat)) ≤ 9223372036854775807 then (if x7.size + (1 + ((min ((((x9 / 16) + 1) % 256) : Int).toNat 16 - ((x9 / 16) : Int).toNat)) + ((min ((((Go.bits .and .u8 x9 15) + 1) % 256) : Int).toNat 16 - ((Go.bits .and .u8 x9 15) : Int).toNat))) ≤ 9223372036854775807 then (spec_quoted.l0 k x0 x1 x2 (x7 ++ (((⟨#[37]⟩ : ByteArray) ++ ((⟨#[48, 49, 50, 51, 52, 53, 54, 55, 56, 57, 65, 66, 67, 68, 69, 70]⟩ : ByteArray).extract ((x9 / 16) : Int).toNat ((((x9 / 16) + 1) % 256) : Int).toNat)) ++ ((⟨#[48, 49, 50, 51, 52, 53, 54, 55, 56, 57, 65, 66, 67, 68, 69, 70]⟩ : ByteArray).extract ((Go.bits .and .u8 x9 15) : Int).toNat ((((Go.bits .and .u8 x9 15) + 1) % 256) : Int).toNat))) (wrap64 (x8 + 1))) else (none)) else (none)) else (none)) else (none)) else (none)) else (none)) else (none)) else (none)) else (none)))
end
def spec_quoted.f (k : Nat) (a0 : ByteArray) (a1 : ByteArray) (a2 : ByteArray) : Option (ByteArray) := spec_quoted.l0 k a0 a1 a2 (⟨#[]⟩ : ByteArray) 0
theorem spec_quoted.mono_l : ∀ k, (∀ y0 y1 y2 y3 y4, LeO (spec_quoted.l0 k y0 y1 y2 y3 y4) (spec_quoted.l0 (k + 1) y0 y1 y2 y3 y4)) ∧ (∀ y0 y1 y2 y3 y4 y5 y6, LeO (spec_quoted.j1 k y0 y1 y2 y3 y4 y5 y6) (spec_quoted.j1 (k + 1) y0 y1 y2 y3 y4 y5 y6))
  | 0 => ⟨fun _ _ _ _ _ r h => by simp [spec_quoted.l0] at h, fun _ _ _ _ _ _ _ r h => by simp [spec_quoted.j1] at h⟩
  | k + 1 => by
    obtain ⟨ih0, ih1⟩ := spec_quoted.mono_l k
    refine ⟨?_, ?_⟩
    · intro y0 y1 y2 y3 y4
      unfold spec_quoted.l0
      repeat' first
      | (with_reducible exact ih0 _ _ _ _ _)
      | (with_reducible exact ih1 _ _ _ _ _ _ _)
      | (with_reducible exact spec_indexOf.mono _ _ _)
      | (with_reducible exact LeO.refl _)
      | (with_reducible exact LeO.none _)
      | (with_reducible refine LeO.ite ?_ ?_)
      | (with_reducible refine LeO.bind ?_ (fun _ => ?_))
      | exact ih0 _ _ _ _ _
      | exact ih1 _ _ _ _ _ _ _
      | exact spec_indexOf.mono _ _ _
      | exact LeO.none _
      | refine LeO.ite ?_ ?_
      | refine LeO.bind ?_ (fun _ => ?_)
    · intro y0 y1 y2 y3 y4 y5 y6
      unfold spec_quoted.j1
      repeat' first
      | (with_reducible exact ih0 _ _ _ _ _)
      | (with_reducible exact ih1 _ _ _ _ _ _ _)
      | (with_reducible exact spec_indexOf.mono _ _ _)
      | (with_reducible exact LeO.refl _)
      | (with_reducible exact LeO.none _)
      | (with_reducible refine LeO.ite ?_ ?_)
      | (with_reducible refine LeO.bind ?_ (fun _ => ?_))
      | exact ih0 _ _ _ _ _
      | exact ih1 _ _ _ _ _ _ _
      | exact spec_indexOf.mono _ _ _
      | exact LeO.none _
      | refine LeO.ite ?_ ?_
      | refine LeO.bind ?_ (fun _ => ?_)
theorem spec_quoted.mono : ∀ a0 a1 a2 k, LeO (spec_quoted.f k a0 a1 a2) (spec_quoted.f (k + 1) a0 a1 a2) := by
  intro a0 a1 a2 k
  obtain ⟨ih0, ih1⟩ := spec_quoted.mono_l k
  unfold spec_quoted.f
  repeat' first
      | (with_reducible exact ih0 _ _ _ _ _)
      | (with_reducible exact ih1 _ _ _ _ _ _ _)
      | (with_reducible exact spec_indexOf.mono _ _ _)
      | (with_reducible exact LeO.refl _)
      | (with_reducible exact LeO.none _)
      | (with_reducible refine LeO.ite ?_ ?_)
      | (with_reducible refine LeO.bind ?_ (fun _ => ?_))
      | exact ih0 _ _ _ _ _
      | exact ih1 _ _ _ _ _ _ _
      | exact spec_indexOf.mono _ _ _
      | exact LeO.none _
      | refine LeO.ite ?_ ?_
      | refine LeO.bind ?_ (fun _ => ?_)
set_option maxHeartbeats 8000000 in
set_option maxRecDepth 100000 in
theorem spec_quoted.calls (k : Nat) (a0 : ByteArray) (a1 : ByteArray) (a2 : ByteArray) (r : ByteArray) (w : World) (h : spec_quoted.f k a0 a1 a2 = some r) :
    Calls Try.prog 56 #[.string a0, .string a1, .string a2] w fun e w' => e = .returned (.string r) ∧ Drawn0 w w' := by
  have H : (spec_quoted.l0 k a0 a1 a2 (⟨#[]⟩ : ByteArray) 0) = some r := h
  clear h
  have H' := Aside0.mk H
  clear H
  go_enter Try.func56, Try.ntmps56
  go_wp2
  have hw8_ := Go.Proofs.YtjmcndbkmknemaaX.wrap_u8; repeat (go_quiet (fail); try go_wp2)
  go_loopg [7, 8] k (fun kq v7 v8 w' => ∃ (x7_1 : ByteArray) (x8_1 : Int), v7 = .string x7_1 ∧ v8 = .int .i64 x8_1 ∧ Aside0 (spec_quoted.l0 kq a0 a1 a2 x7_1 x8_1 = some r) ∧ Aside0 (kq ≤ k) ∧ Drawn0 w w')
  case atStart => exact ⟨((⟨#[]⟩ : ByteArray)), (0), (by first | rfl | (simp; done) | (simp [*]; done) | (simp [Go.Proofs.YtjmcndbkmknemaaX.isEmpty_ne]; done)), (by first | rfl | (simp; done) | (simp [*]; done) | (simp [Go.Proofs.YtjmcndbkmknemaaX.isEmpty_ne]; done)), H', ⟨Nat.le_refl _⟩, by repeat (first | exact Drawn0.refl _ | apply Drawn0.step)⟩
  case round =>
    clear H'
    try clear p2
    obtain ⟨x7_1, x8_1, rfl, rfl, HA, HK1, ⟨m1, rfl⟩⟩ := hrel
    cases gk with
    | zero => exact absurd HA.out (by simp [spec_quoted.l0])
    | succ k1 =>
      have H := HA.out
      clear HA
      simp only [spec_quoted.l0] at H
      by_cases c4 : x8_1 < (a0.size : Int)
      · rw [if_pos c4] at H
        have c4b0 : decide (x8_1 < (a0.size : Int)) = true := decide_eq_true c4
        clear c4
        by_cases c5 : 0 ≤ x8_1
        · rw [if_pos c5] at H
          have c5b0 : decide (0 ≤ x8_1) = true := decide_eq_true c5
          clear c5
          have HC7 := Aside0.mk H
          clear H
          have p6 : 0 ≤ (x8_1 : Int) := of_decide_eq_true (by first | (with_reducible assumption) | assumption)
          have q6 : x8_1 < (a0.size : Int) := of_decide_eq_true (by first | (with_reducible assumption) | assumption)
          have hx6 := bt_at a0 x8_1
          replace p6 := eq_true p6
          replace q6 := eq_true q6
          go_upto_region 7 with (fail)
          repeat (go_quiet (fail); go_upto_region 7 with (fail))
          go_cut [35] (fun v35 wc => ∃ (kq : Nat) (x35_6 : Bool), v35 = .bool x35_6 ∧ Aside0 (spec_quoted.j1 kq a0 a1 a2 x7_1 x8_1 (bt a0 x8_1) x35_6 = some r) ∧ Aside0 (kq ≤ k1) ∧ Drawn0 w wc)
          case first =>
            have H := HC7.out
            clear HC7
            replace H := Option.bind_eq_some_iff.mp H
            obtain ⟨t236, A80, H⟩ := H
            replace H : (if t236 = true then (spec_quoted.j1 k1 a0 a1 a2 x7_1 x8_1 (bt a0 x8_1) true) else ((spec_indexOf.f k1 a1 (bt a0 x8_1)).bind fun t237 => (spec_quoted.j1 k1 a0 a1 a2 x7_1 x8_1 (bt a0 x8_1) (decide (t237 ≥ 0))))) = some r := H
            have A8 := Aside0.mk A80
            clear A80
            by_cases c9 : t236 = true
            · subst c9
              have H1 : (spec_quoted.j1 k1 a0 a1 a2 x7_1 x8_1 (bt a0 x8_1) true) = some r := by rw [if_pos rfl] at H; exact H
              clear H
              have H := H1
              clear H1
              have H' := Aside0.mk H
              clear H
              go_wp2_with (first | (go_at_call 63; (with_reducible refine (spec_unreserved.calls (bt a0 x8_1) true _ A8.out).mono ?_); rintro e w' ⟨rfl, ⟨nd, rfl⟩⟩; (try first | exact ⟨rfl, _, World.drewN_drewN _ _ _⟩ | exact ⟨rfl, _, Eq.trans (World.drewN_drewN _ _ _) (congrArg (World.drewN _) (Nat.add_assoc _ _ _))⟩)))
              repeat (go_quiet (first | (go_at_call 63; (with_reducible refine (spec_unreserved.calls (bt a0 x8_1) true _ A8.out).mono ?_); rintro e w' ⟨rfl, ⟨nd, rfl⟩⟩; (try first | exact ⟨rfl, _, World.drewN_drewN _ _ _⟩ | exact ⟨rfl, _, Eq.trans (World.drewN_drewN _ _ _) (congrArg (World.drewN _) (Nat.add_assoc _ _ _))⟩))); try go_wp2_with (first | (go_at_call 63; (with_reducible refine (spec_unreserved.calls (bt a0 x8_1) true _ A8.out).mono ?_); rintro e w' ⟨rfl, ⟨nd, rfl⟩⟩; (try first | exact ⟨rfl, _, World.drewN_drewN _ _ _⟩ | exact ⟨rfl, _, Eq.trans (World.drewN_drewN _ _ _) (congrArg (World.drewN _) (Nat.add_assoc _ _ _))⟩))))
              go_meet
              case rel => exact ⟨_, (true), (by first | rfl | (simp; done) | (simp [*]; done) | (simp [Go.Proofs.YtjmcndbkmknemaaX.isEmpty_ne]; done)), H', ⟨by have := HK1.out; first | omega | exact Nat.le_refl _⟩, by repeat (first | exact Drawn0.refl _ | apply Drawn0.step)⟩
            · replace c9 := Bool.eq_false_iff.mpr c9
              subst c9
              have H1 : ((spec_indexOf.f k1 a1 (bt a0 x8_1)).bind fun t237 => (spec_quoted.j1 k1 a0 a1 a2 x7_1 x8_1 (bt a0 x8_1) (decide (t237 ≥ 0)))) = some r := by rw [if_neg (show ¬ (false = true) by decide)] at H; exact H
              clear H
              have H := H1
              clear H1
              replace H := Option.bind_eq_some_iff.mp H
              obtain ⟨t237, A100, H⟩ := H
              replace H : (spec_quoted.j1 k1 a0 a1 a2 x7_1 x8_1 (bt a0 x8_1) (decide (t237 ≥ 0))) = some r := H
              have A10 := Aside0.mk A100
              clear A100
              have H' := Aside0.mk H
              clear H
              go_wp2_with (first | (go_at_call 63; (with_reducible refine (spec_unreserved.calls (bt a0 x8_1) false _ A8.out).mono ?_); rintro e w' ⟨rfl, ⟨nd, rfl⟩⟩; (try first | exact ⟨rfl, _, World.drewN_drewN _ _ _⟩ | exact ⟨rfl, _, Eq.trans (World.drewN_drewN _ _ _) (congrArg (World.drewN _) (Nat.add_assoc _ _ _))⟩)) | (go_at_call 64; (with_reducible refine (spec_indexOf.calls k1 a1 (bt a0 x8_1) t237 _ A10.out).mono ?_); rintro e w' ⟨rfl, ⟨nd, rfl⟩⟩; (try first | exact ⟨rfl, _, World.drewN_drewN _ _ _⟩ | exact ⟨rfl, _, Eq.trans (World.drewN_drewN _ _ _) (congrArg (World.drewN _) (Nat.add_assoc _ _ _))⟩)))
              repeat (go_quiet (first | (go_at_call 63; (with_reducible refine (spec_unreserved.calls (bt a0 x8_1) false _ A8.out).mono ?_); rintro e w' ⟨rfl, ⟨nd, rfl⟩⟩; (try first | exact ⟨rfl, _, World.drewN_drewN _ _ _⟩ | exact ⟨rfl, _, Eq.trans (World.drewN_drewN _ _ _) (congrArg (World.drewN _) (Nat.add_assoc _ _ _))⟩)) | (go_at_call 64; (with_reducible refine (spec_indexOf.calls k1 a1 (bt a0 x8_1) t237 _ A10.out).mono ?_); rintro e w' ⟨rfl, ⟨nd, rfl⟩⟩; (try first | exact ⟨rfl, _, World.drewN_drewN _ _ _⟩ | exact ⟨rfl, _, Eq.trans (World.drewN_drewN _ _ _) (congrArg (World.drewN _) (Nat.add_assoc _ _ _))⟩))); try go_wp2_with (first | (go_at_call 63; (with_reducible refine (spec_unreserved.calls (bt a0 x8_1) false _ A8.out).mono ?_); rintro e w' ⟨rfl, ⟨nd, rfl⟩⟩; (try first | exact ⟨rfl, _, World.drewN_drewN _ _ _⟩ | exact ⟨rfl, _, Eq.trans (World.drewN_drewN _ _ _) (congrArg (World.drewN _) (Nat.add_assoc _ _ _))⟩)) | (go_at_call 64; (with_reducible refine (spec_indexOf.calls k1 a1 (bt a0 x8_1) t237 _ A10.out).mono ?_); rintro e w' ⟨rfl, ⟨nd, rfl⟩⟩; (try first | exact ⟨rfl, _, World.drewN_drewN _ _ _⟩ | exact ⟨rfl, _, Eq.trans (World.drewN_drewN _ _ _) (congrArg (World.drewN _) (Nat.add_assoc _ _ _))⟩))))
              go_meet
              case rel => exact ⟨_, (decide (t237 ≥ 0)), (by first | rfl | (simp; done) | (simp [*]; done) | (simp [Go.Proofs.YtjmcndbkmknemaaX.isEmpty_ne]; done)), H', ⟨by have := HK1.out; first | omega | exact Nat.le_refl _⟩, by repeat (first | exact Drawn0.refl _ | apply Drawn0.step)⟩
          case rest =>
            clear HC7
            try clear p2
            try clear c4
            try clear c4b0
            try clear c5
            try clear c5b0
            try clear p6
            try clear q6
            try clear hx6
            try clear c9
            try clear p2
            try clear p6
            try clear q6
            obtain ⟨kq, x35_6, rfl, HA, HJ6, ⟨mc6, rfl⟩⟩ := hcut
            cases kq with
            | zero => exact absurd HA.out (by simp [spec_quoted.j1])
            | succ kj6 =>
              have H := HA.out
              clear HA
              simp only [spec_quoted.j1] at H
              by_cases c11 : x35_6 = true
              · subst c11
                have H1 : (if 0 ≤ x8_1 then (if x8_1 ≤ (wrap64 (x8_1 + 1)) then (if (wrap64 (x8_1 + 1)) ≤ (a0.size : Int) then (if x7_1.size + ((min ((wrap64 (x8_1 + 1)) : Int).toNat a0.size - (x8_1 : Int).toNat)) ≤ 9223372036854775807 then (spec_quoted.l0 kj6 a0 a1 a2 (x7_1 ++ (a0.extract (x8_1 : Int).toNat ((wrap64 (x8_1 + 1)) : Int).toNat)) (wrap64 (x8_1 + 1))) else (none)) else (none)) else (none)) else (none)) = some r := by rw [if_pos rfl] at H; exact H
                clear H
                have H := H1
                clear H1
                by_cases c12 : 0 ≤ x8_1
                · rw [if_pos c12] at H
                  have c12b0 := eq_true c12
                  have c12b1 : decide (0 ≤ x8_1) = true := decide_eq_true c12
                  clear c12
                  by_cases c13 : x8_1 ≤ (wrap64 (x8_1 + 1))
                  · rw [if_pos c13] at H
                    have c13b0 := eq_true c13
                    have c13b1 : decide (x8_1 ≤ (wrap64 (x8_1 + 1))) = true := decide_eq_true c13
                    by_cases c14 : (wrap64 (x8_1 + 1)) ≤ (a0.size : Int)
                    · rw [if_pos c14] at H
                      have c14b0 := eq_true c14
                      have c14b1 : decide ((wrap64 (x8_1 + 1)) ≤ (a0.size : Int)) = true := decide_eq_true c14
                      by_cases c15 : x7_1.size + ((min ((wrap64 (x8_1 + 1)) : Int).toNat a0.size - (x8_1 : Int).toNat)) ≤ 9223372036854775807
                      · rw [if_pos c15] at H
                        have c15b0 := eq_true c15
                        have c15b1 : decide (x7_1.size + ((min ((wrap64 (x8_1 + 1)) : Int).toNat a0.size - (x8_1 : Int).toNat)) ≤ 9223372036854775807) = true := decide_eq_true c15
                        try have c15b2 : (9223372036854775807 < x7_1.size + ((min ((wrap64 (x8_1 + 1)) : Int).toNat a0.size - (x8_1 : Int).toNat))) = False := eq_false (Nat.not_lt.2 c15)
                        have H' := Aside0.mk H
                        clear H
                        go_wp2
                        have hw8_ := Go.Proofs.YtjmcndbkmknemaaX.wrap_u8; repeat (go_quiet (fail); try go_wp2)
                        any_goals (try (exfalso; have zc4b0 := of_decide_eq_true c4b0; have zc5b0 := of_decide_eq_true c5b0; have zc12b1 := of_decide_eq_true c12b1; have zc13b1 := of_decide_eq_true c13b1; have zc14b1 := of_decide_eq_true c14b1; have zc15b1 := of_decide_eq_true c15b1; omega))
                        go_roundg kj6
                        case measure => have := HK1.out; have := HJ6.out; omega
                        case rel => exact ⟨(x7_1 ++ (a0.extract (x8_1 : Int).toNat ((wrap64 (x8_1 + 1)) : Int).toNat)), (wrap64 (x8_1 + 1)), (by first | rfl | (simp; done) | (simp [*]; done) | (simp [Go.Proofs.YtjmcndbkmknemaaX.isEmpty_ne]; done)), (by first | rfl | (simp; done) | (simp [*]; done) | (simp [Go.Proofs.YtjmcndbkmknemaaX.isEmpty_ne]; done)), H', ⟨by have := HK1.out; have := HJ6.out; omega⟩, by repeat (first | exact Drawn0.refl _ | apply Drawn0.step)⟩
                      · rw [if_neg c15] at H
                        exact absurd H (by simp)
                    · rw [if_neg c14] at H
                      exact absurd H (by simp)
                  · rw [if_neg c13] at H
                    exact absurd H (by simp)
                · rw [if_neg c12] at H
                  exact absurd H (by simp)
              · replace c11 := Bool.eq_false_iff.mpr c11
                subst c11
                have H1 : (if (bt a0 x8_1) = 32 then (if a2.toList = ([] : List UInt8) then (if 0 ≤ ((bt a0 x8_1) / 16) then (if ((bt a0 x8_1) / 16) ≤ ((((bt a0 x8_1) / 16) + 1) % 256) then (if ((((bt a0 x8_1) / 16) + 1) % 256) ≤ 16 then (if 1 + ((min (((((bt a0 x8_1) / 16) + 1) % 256) : Int).toNat 16 - (((bt a0 x8_1) / 16) : Int).toNat)) ≤ 9223372036854775807 then (if 0 ≤ (Go.bits .and .u8 (bt a0 x8_1) 15) then (if (Go.bits .and .u8 (bt a0 x8_1) 15) ≤ (((Go.bits .and .u8 (bt a0 x8_1) 15) + 1) % 256) then (if (((Go.bits .and .u8 (bt a0 x8_1) 15) + 1) % 256) ≤ 16 then (if 1 + ((min (((((bt a0 x8_1) / 16) + 1) % 256) : Int).toNat 16 - (((bt a0 x8_1) / 16) : Int).toNat)) + ((min ((((Go.bits .and .u8 (bt a0 x8_1) 15) + 1) % 256) : Int).toNat 16 - ((Go.bits .and .u8 (bt a0 x8_1) 15) : Int).toNat)) ≤ 9223372036854775807 then (if x7_1.size + (1 + ((min (((((bt a0 x8_1) / 16) + 1) % 256) : Int).toNat 16 - (((bt a0 x8_1) / 16) : Int).toNat)) + ((min ((((Go.bits .and .u8 (bt a0 x8_1) 15) + 1) % 256) : Int).toNat 16 - ((Go.bits .and .u8 (bt a0 x8_1) 15) : Int).toNat))) ≤ 9223372036854775807 then (spec_quoted.l0 kj6 a0 a1 a2 (x7_1 ++ (((⟨#[37]⟩ : ByteArray) ++ ((⟨#[48, 49, 50, 51, 52, 53, 54, 55, 56, 57, 65, 66, 67, 68, 69, 70]⟩ : ByteArray).extract (((bt a0 x8_1) / 16) : Int).toNat (((((bt a0 x8_1) / 16) + 1) % 256) : Int).toNat)) ++ ((⟨#[48, 49, 50, 51, 52, 53, 54, 55, 56, 57, 65, 66, 67, 68, 69, 70]⟩ : ByteArray).extract ((Go.bits .and .u8 (bt a0 x8_1) 15) : Int).toNat ((((Go.bits .and .u8 (bt a0 x8_1) 15) + 1) % 256) : Int).toNat))) (wrap64 (x8_1 + 1))) else (none)) else (none)) else (none)) else (none)) else (none)) else (none)) else (none)) else (none)) else (none)) else (if x7_1.size + a2.size ≤ 9223372036854775807 then (spec_quoted.l0 kj6 a0 a1 a2 (x7_1 ++ a2) (wrap64 (x8_1 + 1))) else (none))) else (if 0 ≤ ((bt a0 x8_1) / 16) then (if ((bt a0 x8_1) / 16) ≤ ((((bt a0 x8_1) / 16) + 1) % 256) then (if ((((bt a0 x8_1) / 16) + 1) % 256) ≤ 16 then (if 1 + ((min (((((bt a0 x8_1) / 16) + 1) % 256) : Int).toNat 16 - (((bt a0 x8_1) / 16) : Int).toNat)) ≤ 9223372036854775807 then (if 0 ≤ (Go.bits .and .u8 (bt a0 x8_1) 15) then (if (Go.bits .and .u8 (bt a0 x8_1) 15) ≤ (((Go.bits .and .u8 (bt a0 x8_1) 15) + 1) % 256) then (if (((Go.bits .and .u8 (bt a0 x8_1) 15) + 1) % 256) ≤ 16 then (if 1 + ((min (((((bt a0 x8_1) / 16) + 1) % 256) : Int).toNat 16 - (((bt a0 x8_1) / 16) : Int).toNat)) + ((min ((((Go.bits .and .u8 (bt a0 x8_1) 15) + 1) % 256) : Int).toNat 16 - ((Go.bits .and .u8 (bt a0 x8_1) 15) : Int).toNat)) ≤ 9223372036854775807 then (if x7_1.size + (1 + ((min (((((bt a0 x8_1) / 16) + 1) % 256) : Int).toNat 16 - (((bt a0 x8_1) / 16) : Int).toNat)) + ((min ((((Go.bits .and .u8 (bt a0 x8_1) 15) + 1) % 256) : Int).toNat 16 - ((Go.bits .and .u8 (bt a0 x8_1) 15) : Int).toNat))) ≤ 9223372036854775807 then (spec_quoted.l0 kj6 a0 a1 a2 (x7_1 ++ (((⟨#[37]⟩ : ByteArray) ++ ((⟨#[48, 49, 50, 51, 52, 53, 54, 55, 56, 57, 65, 66, 67, 68, 69, 70]⟩ : ByteArray).extract (((bt a0 x8_1) / 16) : Int).toNat (((((bt a0 x8_1) / 16) + 1) % 256) : Int).toNat)) ++ ((⟨#[48, 49, 50, 51, 52, 53, 54, 55, 56, 57, 65, 66, 67, 68, 69, 70]⟩ : ByteArray).extract ((Go.bits .and .u8 (bt a0 x8_1) 15) : Int).toNat ((((Go.bits .and .u8 (bt a0 x8_1) 15) + 1) % 256) : Int).toNat))) (wrap64 (x8_1 + 1))) else (none)) else (none)) else (none)) else (none)) else (none)) else (none)) else (none)) else (none)) else (none))) = some r := by rw [if_neg (show ¬ (false = true) by decide)] at H; exact H
                clear H
                have H := H1
                clear H1
                by_cases c16 : (bt a0 x8_1) = 32
                · rw [if_pos c16] at H
                  have c16b0 : ((bt a0 x8_1) == 32) = true := beq_iff_eq.mpr c16
                  have c16b1 : ((bt a0 x8_1) != 32) = false := bne_eq_false_iff_eq.mpr c16
                  clear c16
                  by_cases c17 : a2.toList = ([] : List UInt8)
                  · rw [if_pos c17] at H
                    have c17b0 : (a2.toList == ([] : List UInt8)) = true := beq_iff_eq.mpr c17
                    have c17b1 : (a2.toList != ([] : List UInt8)) = false := bne_eq_false_iff_eq.mpr c17
                    clear c17
                    obtain ⟨ji18, hji18⟩ : ∃ j_ : Int, ((bt a0 x8_1) / 16) = j_ := ⟨_, rfl⟩
                    replace H : (if 0 ≤ (ji18) then (if (ji18) ≤ (((ji18) + 1) % 256) then (if (((ji18) + 1) % 256) ≤ 16 then (if 1 + ((min ((((ji18) + 1) % 256) : Int).toNat 16 - ((ji18) : Int).toNat)) ≤ 9223372036854775807 then (if 0 ≤ (Go.bits .and .u8 (bt a0 x8_1) 15) then (if (Go.bits .and .u8 (bt a0 x8_1) 15) ≤ (((Go.bits .and .u8 (bt a0 x8_1) 15) + 1) % 256) then (if (((Go.bits .and .u8 (bt a0 x8_1) 15) + 1) % 256) ≤ 16 then (if 1 + ((min ((((ji18) + 1) % 256) : Int).toNat 16 - ((ji18) : Int).toNat)) + ((min ((((Go.bits .and .u8 (bt a0 x8_1) 15) + 1) % 256) : Int).toNat 16 - ((Go.bits .and .u8 (bt a0 x8_1) 15) : Int).toNat)) ≤ 9223372036854775807 then (if x7_1.size + (1 + ((min ((((ji18) + 1) % 256) : Int).toNat 16 - ((ji18) : Int).toNat)) + ((min ((((Go.bits .and .u8 (bt a0 x8_1) 15) + 1) % 256) : Int).toNat 16 - ((Go.bits .and .u8 (bt a0 x8_1) 15) : Int).toNat))) ≤ 9223372036854775807 then (spec_quoted.l0 kj6 a0 a1 a2 (x7_1 ++ (((⟨#[37]⟩ : ByteArray) ++ ((⟨#[48, 49, 50, 51, 52, 53, 54, 55, 56, 57, 65, 66, 67, 68, 69, 70]⟩ : ByteArray).extract ((ji18) : Int).toNat ((((ji18) + 1) % 256) : Int).toNat)) ++ ((⟨#[48, 49, 50, 51, 52, 53, 54, 55, 56, 57, 65, 66, 67, 68, 69, 70]⟩ : ByteArray).extract ((Go.bits .and .u8 (bt a0 x8_1) 15) : Int).toNat ((((Go.bits .and .u8 (bt a0 x8_1) 15) + 1) % 256) : Int).toNat))) (wrap64 (x8_1 + 1))) else (none)) else (none)) else (none)) else (none)) else (none)) else (none)) else (none)) else (none)) else (none)) = some r := by first | (rw [hji18] at H; exact H) | (simp only [hji18] at H ⊢; exact H)
                    by_cases c19 : 0 ≤ (ji18)
                    · rw [if_pos c19] at H
                      have c19b0 := eq_true c19
                      have c19b1 : decide (0 ≤ (ji18)) = true := decide_eq_true c19
                      clear c19
                      by_cases c20 : (ji18) ≤ (((ji18) + 1) % 256)
                      · rw [if_pos c20] at H
                        have c20b0 := eq_true c20
                        have c20b1 : decide ((ji18) ≤ (((ji18) + 1) % 256)) = true := decide_eq_true c20
                        by_cases c21 : (((ji18) + 1) % 256) ≤ 16
                        · rw [if_pos c21] at H
                          have c21b0 := eq_true c21
                          have c21b1 : decide ((((ji18) + 1) % 256) ≤ 16) = true := decide_eq_true c21
                          by_cases c22 : 1 + ((min ((((ji18) + 1) % 256) : Int).toNat 16 - ((ji18) : Int).toNat)) ≤ 9223372036854775807
                          · rw [if_pos c22] at H
                            have c22b0 := eq_true c22
                            have c22b1 : decide (1 + ((min ((((ji18) + 1) % 256) : Int).toNat 16 - ((ji18) : Int).toNat)) ≤ 9223372036854775807) = true := decide_eq_true c22
                            try have c22b2 : (9223372036854775807 < 1 + ((min ((((ji18) + 1) % 256) : Int).toNat 16 - ((ji18) : Int).toNat))) = False := eq_false (Nat.not_lt.2 c22)
                            by_cases c23 : 0 ≤ (Go.bits .and .u8 (bt a0 x8_1) 15)
                            · rw [if_pos c23] at H
                              have c23b0 := eq_true c23
                              have c23b1 : decide (0 ≤ (Go.bits .and .u8 (bt a0 x8_1) 15)) = true := decide_eq_true c23
                              clear c23
                              by_cases c24 : (Go.bits .and .u8 (bt a0 x8_1) 15) ≤ (((Go.bits .and .u8 (bt a0 x8_1) 15) + 1) % 256)
                              · rw [if_pos c24] at H
                                have c24b0 := eq_true c24
                                have c24b1 : decide ((Go.bits .and .u8 (bt a0 x8_1) 15) ≤ (((Go.bits .and .u8 (bt a0 x8_1) 15) + 1) % 256)) = true := decide_eq_true c24
                                by_cases c25 : (((Go.bits .and .u8 (bt a0 x8_1) 15) + 1) % 256) ≤ 16
                                · rw [if_pos c25] at H
                                  have c25b0 := eq_true c25
                                  have c25b1 : decide ((((Go.bits .and .u8 (bt a0 x8_1) 15) + 1) % 256) ≤ 16) = true := decide_eq_true c25
                                  by_cases c26 : 1 + ((min ((((ji18) + 1) % 256) : Int).toNat 16 - ((ji18) : Int).toNat)) + ((min ((((Go.bits .and .u8 (bt a0 x8_1) 15) + 1) % 256) : Int).toNat 16 - ((Go.bits .and .u8 (bt a0 x8_1) 15) : Int).toNat)) ≤ 9223372036854775807
                                  · rw [if_pos c26] at H
                                    have c26b0 := eq_true c26
                                    have c26b1 : decide (1 + ((min ((((ji18) + 1) % 256) : Int).toNat 16 - ((ji18) : Int).toNat)) + ((min ((((Go.bits .and .u8 (bt a0 x8_1) 15) + 1) % 256) : Int).toNat 16 - ((Go.bits .and .u8 (bt a0 x8_1) 15) : Int).toNat)) ≤ 9223372036854775807) = true := decide_eq_true c26
                                    try have c26b2 : (9223372036854775807 < 1 + ((min ((((ji18) + 1) % 256) : Int).toNat 16 - ((ji18) : Int).toNat)) + ((min ((((Go.bits .and .u8 (bt a0 x8_1) 15) + 1) % 256) : Int).toNat 16 - ((Go.bits .and .u8 (bt a0 x8_1) 15) : Int).toNat))) = False := eq_false (Nat.not_lt.2 c26)
                                    by_cases c27 : x7_1.size + (1 + ((min ((((ji18) + 1) % 256) : Int).toNat 16 - ((ji18) : Int).toNat)) + ((min ((((Go.bits .and .u8 (bt a0 x8_1) 15) + 1) % 256) : Int).toNat 16 - ((Go.bits .and .u8 (bt a0 x8_1) 15) : Int).toNat))) ≤ 9223372036854775807
                                    · rw [if_pos c27] at H
                                      have c27b0 := eq_true c27
                                      have c27b1 : decide (x7_1.size + (1 + ((min ((((ji18) + 1) % 256) : Int).toNat 16 - ((ji18) : Int).toNat)) + ((min ((((Go.bits .and .u8 (bt a0 x8_1) 15) + 1) % 256) : Int).toNat 16 - ((Go.bits .and .u8 (bt a0 x8_1) 15) : Int).toNat))) ≤ 9223372036854775807) = true := decide_eq_true c27
                                      try have c27b2 : (9223372036854775807 < x7_1.size + (1 + ((min ((((ji18) + 1) % 256) : Int).toNat 16 - ((ji18) : Int).toNat)) + ((min ((((Go.bits .and .u8 (bt a0 x8_1) 15) + 1) % 256) : Int).toNat 16 - ((Go.bits .and .u8 (bt a0 x8_1) 15) : Int).toNat)))) = False := eq_false (Nat.not_lt.2 c27)
                                      have H' := Aside0.mk H
                                      clear H
                                      go_wp2
                                      have hw8_ := Go.Proofs.YtjmcndbkmknemaaX.wrap_u8; repeat (go_quiet (fail); try go_wp2)
                                      any_goals (try (exfalso; have zc4b0 := of_decide_eq_true c4b0; have zc5b0 := of_decide_eq_true c5b0; have zc19b1 := of_decide_eq_true c19b1; have zc20b1 := of_decide_eq_true c20b1; have zc21b1 := of_decide_eq_true c21b1; have zc22b1 := of_decide_eq_true c22b1; have zc23b1 := of_decide_eq_true c23b1; have zc24b1 := of_decide_eq_true c24b1; have zc25b1 := of_decide_eq_true c25b1; have zc26b1 := of_decide_eq_true c26b1; have zc27b1 := of_decide_eq_true c27b1; omega))
                                      go_roundg kj6
                                      case measure => have := HK1.out; have := HJ6.out; omega
                                      case rel => exact ⟨(x7_1 ++ (((⟨#[37]⟩ : ByteArray) ++ ((⟨#[48, 49, 50, 51, 52, 53, 54, 55, 56, 57, 65, 66, 67, 68, 69, 70]⟩ : ByteArray).extract ((ji18) : Int).toNat ((((ji18) + 1) % 256) : Int).toNat)) ++ ((⟨#[48, 49, 50, 51, 52, 53, 54, 55, 56, 57, 65, 66, 67, 68, 69, 70]⟩ : ByteArray).extract ((Go.bits .and .u8 (bt a0 x8_1) 15) : Int).toNat ((((Go.bits .and .u8 (bt a0 x8_1) 15) + 1) % 256) : Int).toNat))), (wrap64 (x8_1 + 1)), (by first | rfl | (simp; done) | (simp only [← hji18] <;> (first | rfl | simp)) | (simp [*]; done) | (simp [Go.Proofs.YtjmcndbkmknemaaX.isEmpty_ne]; done)), (by first | rfl | (simp; done) | (simp [*]; done) | (simp [Go.Proofs.YtjmcndbkmknemaaX.isEmpty_ne]; done)), H', ⟨by have := HK1.out; have := HJ6.out; omega⟩, by repeat (first | exact Drawn0.refl _ | apply Drawn0.step)⟩
                                    · rw [if_neg c27] at H
                                      exact absurd H (by simp)
                                  · rw [if_neg c26] at H
                                    exact absurd H (by simp)
                                · rw [if_neg c25] at H
                                  exact absurd H (by simp)
                              · rw [if_neg c24] at H
                                exact absurd H (by simp)
                            · rw [if_neg c23] at H
                              exact absurd H (by simp)
                          · rw [if_neg c22] at H
                            exact absurd H (by simp)
                        · rw [if_neg c21] at H
                          exact absurd H (by simp)
                      · rw [if_neg c20] at H
                        exact absurd H (by simp)
                    · rw [if_neg c19] at H
                      exact absurd H (by simp)
                  · rw [if_neg c17] at H
                    have c17b0 : (a2.toList == ([] : List UInt8)) = false := beq_eq_false_iff_ne.mpr c17
                    have c17b1 : (a2.toList != ([] : List UInt8)) = true := bne_iff_ne.mpr c17
                    by_cases c28 : x7_1.size + a2.size ≤ 9223372036854775807
                    · rw [if_pos c28] at H
                      have c28b0 := eq_true c28
                      have c28b1 : decide (x7_1.size + a2.size ≤ 9223372036854775807) = true := decide_eq_true c28
                      try have c28b2 : (9223372036854775807 < x7_1.size + a2.size) = False := eq_false (Nat.not_lt.2 c28)
                      have H' := Aside0.mk H
                      clear H
                      go_wp2
                      have hw8_ := Go.Proofs.YtjmcndbkmknemaaX.wrap_u8; repeat (go_quiet (fail); try go_wp2)
                      any_goals (try (exfalso; have zc4b0 := of_decide_eq_true c4b0; have zc5b0 := of_decide_eq_true c5b0; have zc28b1 := of_decide_eq_true c28b1; omega))
                      go_roundg kj6
                      case measure => have := HK1.out; have := HJ6.out; omega
                      case rel => exact ⟨(x7_1 ++ a2), (wrap64 (x8_1 + 1)), (by first | rfl | (simp; done) | (simp [*]; done) | (simp [Go.Proofs.YtjmcndbkmknemaaX.isEmpty_ne]; done)), (by first | rfl | (simp; done) | (simp [*]; done) | (simp [Go.Proofs.YtjmcndbkmknemaaX.isEmpty_ne]; done)), H', ⟨by have := HK1.out; have := HJ6.out; omega⟩, by repeat (first | exact Drawn0.refl _ | apply Drawn0.step)⟩
                    · rw [if_neg c28] at H
                      exact absurd H (by simp)
                · rw [if_neg c16] at H
                  have c16b0 : ((bt a0 x8_1) == 32) = false := beq_eq_false_iff_ne.mpr c16
                  have c16b1 : ((bt a0 x8_1) != 32) = true := bne_iff_ne.mpr c16
                  obtain ⟨ji29, hji29⟩ : ∃ j_ : Int, ((bt a0 x8_1) / 16) = j_ := ⟨_, rfl⟩
                  replace H : (if 0 ≤ (ji29) then (if (ji29) ≤ (((ji29) + 1) % 256) then (if (((ji29) + 1) % 256) ≤ 16 then (if 1 + ((min ((((ji29) + 1) % 256) : Int).toNat 16 - ((ji29) : Int).toNat)) ≤ 9223372036854775807 then (if 0 ≤ (Go.bits .and .u8 (bt a0 x8_1) 15) then (if (Go.bits .and .u8 (bt a0 x8_1) 15) ≤ (((Go.bits .and .u8 (bt a0 x8_1) 15) + 1) % 256) then (if (((Go.bits .and .u8 (bt a0 x8_1) 15) + 1) % 256) ≤ 16 then (if 1 + ((min ((((ji29) + 1) % 256) : Int).toNat 16 - ((ji29) : Int).toNat)) + ((min ((((Go.bits .and .u8 (bt a0 x8_1) 15) + 1) % 256) : Int).toNat 16 - ((Go.bits .and .u8 (bt a0 x8_1) 15) : Int).toNat)) ≤ 9223372036854775807 then (if x7_1.size + (1 + ((min ((((ji29) + 1) % 256) : Int).toNat 16 - ((ji29) : Int).toNat)) + ((min ((((Go.bits .and .u8 (bt a0 x8_1) 15) + 1) % 256) : Int).toNat 16 - ((Go.bits .and .u8 (bt a0 x8_1) 15) : Int).toNat))) ≤ 9223372036854775807 then (spec_quoted.l0 kj6 a0 a1 a2 (x7_1 ++ (((⟨#[37]⟩ : ByteArray) ++ ((⟨#[48, 49, 50, 51, 52, 53, 54, 55, 56, 57, 65, 66, 67, 68, 69, 70]⟩ : ByteArray).extract ((ji29) : Int).toNat ((((ji29) + 1) % 256) : Int).toNat)) ++ ((⟨#[48, 49, 50, 51, 52, 53, 54, 55, 56, 57, 65, 66, 67, 68, 69, 70]⟩ : ByteArray).extract ((Go.bits .and .u8 (bt a0 x8_1) 15) : Int).toNat ((((Go.bits .and .u8 (bt a0 x8_1) 15) + 1) % 256) : Int).toNat))) (wrap64 (x8_1 + 1))) else (none)) else (none)) else (none)) else (none)) else (none)) else (none)) else (none)) else (none)) else (none)) = some r := by first | (rw [hji29] at H; exact H) | (simp only [hji29] at H ⊢; exact H)
                  by_cases c30 : 0 ≤ (ji29)
                  · rw [if_pos c30] at H
                    have c30b0 := eq_true c30
                    have c30b1 : decide (0 ≤ (ji29)) = true := decide_eq_true c30
                    clear c30
                    by_cases c31 : (ji29) ≤ (((ji29) + 1) % 256)
                    · rw [if_pos c31] at H
                      have c31b0 := eq_true c31
                      have c31b1 : decide ((ji29) ≤ (((ji29) + 1) % 256)) = true := decide_eq_true c31
                      by_cases c32 : (((ji29) + 1) % 256) ≤ 16
                      · rw [if_pos c32] at H
                        have c32b0 := eq_true c32
                        have c32b1 : decide ((((ji29) + 1) % 256) ≤ 16) = true := decide_eq_true c32
                        by_cases c33 : 1 + ((min ((((ji29) + 1) % 256) : Int).toNat 16 - ((ji29) : Int).toNat)) ≤ 9223372036854775807
                        · rw [if_pos c33] at H
                          have c33b0 := eq_true c33
                          have c33b1 : decide (1 + ((min ((((ji29) + 1) % 256) : Int).toNat 16 - ((ji29) : Int).toNat)) ≤ 9223372036854775807) = true := decide_eq_true c33
                          try have c33b2 : (9223372036854775807 < 1 + ((min ((((ji29) + 1) % 256) : Int).toNat 16 - ((ji29) : Int).toNat))) = False := eq_false (Nat.not_lt.2 c33)
                          by_cases c34 : 0 ≤ (Go.bits .and .u8 (bt a0 x8_1) 15)
                          · rw [if_pos c34] at H
                            have c34b0 := eq_true c34
                            have c34b1 : decide (0 ≤ (Go.bits .and .u8 (bt a0 x8_1) 15)) = true := decide_eq_true c34
                            clear c34
                            by_cases c35 : (Go.bits .and .u8 (bt a0 x8_1) 15) ≤ (((Go.bits .and .u8 (bt a0 x8_1) 15) + 1) % 256)
                            · rw [if_pos c35] at H
                              have c35b0 := eq_true c35
                              have c35b1 : decide ((Go.bits .and .u8 (bt a0 x8_1) 15) ≤ (((Go.bits .and .u8 (bt a0 x8_1) 15) + 1) % 256)) = true := decide_eq_true c35
                              by_cases c36 : (((Go.bits .and .u8 (bt a0 x8_1) 15) + 1) % 256) ≤ 16
                              · rw [if_pos c36] at H
                                have c36b0 := eq_true c36
                                have c36b1 : decide ((((Go.bits .and .u8 (bt a0 x8_1) 15) + 1) % 256) ≤ 16) = true := decide_eq_true c36
                                by_cases c37 : 1 + ((min ((((ji29) + 1) % 256) : Int).toNat 16 - ((ji29) : Int).toNat)) + ((min ((((Go.bits .and .u8 (bt a0 x8_1) 15) + 1) % 256) : Int).toNat 16 - ((Go.bits .and .u8 (bt a0 x8_1) 15) : Int).toNat)) ≤ 9223372036854775807
                                · rw [if_pos c37] at H
                                  have c37b0 := eq_true c37
                                  have c37b1 : decide (1 + ((min ((((ji29) + 1) % 256) : Int).toNat 16 - ((ji29) : Int).toNat)) + ((min ((((Go.bits .and .u8 (bt a0 x8_1) 15) + 1) % 256) : Int).toNat 16 - ((Go.bits .and .u8 (bt a0 x8_1) 15) : Int).toNat)) ≤ 9223372036854775807) = true := decide_eq_true c37
                                  try have c37b2 : (9223372036854775807 < 1 + ((min ((((ji29) + 1) % 256) : Int).toNat 16 - ((ji29) : Int).toNat)) + ((min ((((Go.bits .and .u8 (bt a0 x8_1) 15) + 1) % 256) : Int).toNat 16 - ((Go.bits .and .u8 (bt a0 x8_1) 15) : Int).toNat))) = False := eq_false (Nat.not_lt.2 c37)
                                  by_cases c38 : x7_1.size + (1 + ((min ((((ji29) + 1) % 256) : Int).toNat 16 - ((ji29) : Int).toNat)) + ((min ((((Go.bits .and .u8 (bt a0 x8_1) 15) + 1) % 256) : Int).toNat 16 - ((Go.bits .and .u8 (bt a0 x8_1) 15) : Int).toNat))) ≤ 9223372036854775807
                                  · rw [if_pos c38] at H
                                    have c38b0 := eq_true c38
                                    have c38b1 : decide (x7_1.size + (1 + ((min ((((ji29) + 1) % 256) : Int).toNat 16 - ((ji29) : Int).toNat)) + ((min ((((Go.bits .and .u8 (bt a0 x8_1) 15) + 1) % 256) : Int).toNat 16 - ((Go.bits .and .u8 (bt a0 x8_1) 15) : Int).toNat))) ≤ 9223372036854775807) = true := decide_eq_true c38
                                    try have c38b2 : (9223372036854775807 < x7_1.size + (1 + ((min ((((ji29) + 1) % 256) : Int).toNat 16 - ((ji29) : Int).toNat)) + ((min ((((Go.bits .and .u8 (bt a0 x8_1) 15) + 1) % 256) : Int).toNat 16 - ((Go.bits .and .u8 (bt a0 x8_1) 15) : Int).toNat)))) = False := eq_false (Nat.not_lt.2 c38)
                                    have H' := Aside0.mk H
                                    clear H
                                    go_wp2
                                    have hw8_ := Go.Proofs.YtjmcndbkmknemaaX.wrap_u8; repeat (go_quiet (fail); try go_wp2)
                                    any_goals (try (exfalso; have zc4b0 := of_decide_eq_true c4b0; have zc5b0 := of_decide_eq_true c5b0; have zc30b1 := of_decide_eq_true c30b1; have zc31b1 := of_decide_eq_true c31b1; have zc32b1 := of_decide_eq_true c32b1; have zc33b1 := of_decide_eq_true c33b1; have zc34b1 := of_decide_eq_true c34b1; have zc35b1 := of_decide_eq_true c35b1; have zc36b1 := of_decide_eq_true c36b1; have zc37b1 := of_decide_eq_true c37b1; have zc38b1 := of_decide_eq_true c38b1; omega))
                                    go_roundg kj6
                                    case measure => have := HK1.out; have := HJ6.out; omega
                                    case rel => exact ⟨(x7_1 ++ (((⟨#[37]⟩ : ByteArray) ++ ((⟨#[48, 49, 50, 51, 52, 53, 54, 55, 56, 57, 65, 66, 67, 68, 69, 70]⟩ : ByteArray).extract ((ji29) : Int).toNat ((((ji29) + 1) % 256) : Int).toNat)) ++ ((⟨#[48, 49, 50, 51, 52, 53, 54, 55, 56, 57, 65, 66, 67, 68, 69, 70]⟩ : ByteArray).extract ((Go.bits .and .u8 (bt a0 x8_1) 15) : Int).toNat ((((Go.bits .and .u8 (bt a0 x8_1) 15) + 1) % 256) : Int).toNat))), (wrap64 (x8_1 + 1)), (by first | rfl | (simp; done) | (simp only [← hji29] <;> (first | rfl | simp)) | (simp [*]; done) | (simp [Go.Proofs.YtjmcndbkmknemaaX.isEmpty_ne]; done)), (by first | rfl | (simp; done) | (simp [*]; done) | (simp [Go.Proofs.YtjmcndbkmknemaaX.isEmpty_ne]; done)), H', ⟨by have := HK1.out; have := HJ6.out; omega⟩, by repeat (first | exact Drawn0.refl _ | apply Drawn0.step)⟩
                                  · rw [if_neg c38] at H
                                    exact absurd H (by simp)
                                · rw [if_neg c37] at H
                                  exact absurd H (by simp)
                              · rw [if_neg c36] at H
                                exact absurd H (by simp)
                            · rw [if_neg c35] at H
                              exact absurd H (by simp)
                          · rw [if_neg c34] at H
                            exact absurd H (by simp)
                        · rw [if_neg c33] at H
                          exact absurd H (by simp)
                      · rw [if_neg c32] at H
                        exact absurd H (by simp)
                    · rw [if_neg c31] at H
                      exact absurd H (by simp)
                  · rw [if_neg c30] at H
                    exact absurd H (by simp)
        · rw [if_neg c5] at H
          exact absurd H (by simp)
      · rw [if_neg c4] at H
        have c4b0 : decide (x8_1 < (a0.size : Int)) = false := decide_eq_false c4
        clear c4
        obtain rfl := Option.some.inj H
        go_wp2
        have hw8_ := Go.Proofs.YtjmcndbkmknemaaX.wrap_u8; repeat (go_quiet (fail); try go_wp2)
        go_ret
        exact ⟨by first | rfl | (simp; done) | (simp [*]; done) | (simp [Go.Proofs.YtjmcndbkmknemaaX.isEmpty_ne]; done), by repeat (first | exact Drawn0.refl _ | apply Drawn0.step)⟩

/-! ### spec_QuotedArg: function 35 -/
def spec_QuotedArg.f (k : Nat) (a0 : ByteArray) : Option (ByteArray) := (spec_quoted.f k a0 (⟨#[]⟩ : ByteArray) (⟨#[43]⟩ : ByteArray)).bind fun t238 => (some t238)
theorem spec_QuotedArg.mono : ∀ a0 k, LeO (spec_QuotedArg.f k a0) (spec_QuotedArg.f (k + 1) a0) := by
  intro a0 k
  unfold spec_QuotedArg.f
  repeat' first
      | (with_reducible exact spec_quoted.mono _ _ _ _)
      | (with_reducible exact LeO.refl _)
      | (with_reducible exact LeO.none _)
      | (with_reducible refine LeO.ite ?_ ?_)
      | (with_reducible refine LeO.bind ?_ (fun _ => ?_))
      | exact spec_quoted.mono _ _ _ _
      | exact LeO.none _
      | refine LeO.ite ?_ ?_
      | refine LeO.bind ?_ (fun _ => ?_)
set_option maxHeartbeats 8000000 in
set_option maxRecDepth 100000 in
theorem spec_QuotedArg.calls (k : Nat) (a0 : ByteArray) (r : ByteArray) (w : World) (h : spec_QuotedArg.f k a0 = some r) :
    Calls Try.prog 35 #[.string a0] w fun e w' => e = .returned (.string r) ∧ Drawn0 w w' := by
  have H : ((spec_quoted.f k a0 (⟨#[]⟩ : ByteArray) (⟨#[43]⟩ : ByteArray)).bind fun t238 => (some t238)) = some r := h
  clear h
  replace H := Option.bind_eq_some_iff.mp H
  obtain ⟨t238, A20, H⟩ := H
  replace H : (some t238) = some r := H
  have A2 := Aside0.mk A20
  clear A20
  obtain rfl := Option.some.inj H
  go_enter Try.func35, Try.ntmps35
  go_wp2_with (first | ((with_reducible refine gate_callee (f := 56) rfl ?_); refine goesL_ (some 4) rfl rfl Try.func56 (by kernel_rfl) rfl #[.string a0, .string (⟨#[]⟩ : ByteArray), .string (⟨#[43]⟩ : ByteArray)] rfl (by (try simp only [List.map_toArray, List.map_cons, List.map_nil]); first | done | rfl | (simp only [List.length_drop, List.length_take]; rfl)) ?_; (with_reducible refine (spec_quoted.calls k a0 (⟨#[]⟩ : ByteArray) (⟨#[43]⟩ : ByteArray) t238 _ A2.out).mono ?_); rintro e w' ⟨rfl, ⟨nd, rfl⟩⟩; refine ⟨_, rfl, ?_⟩))
  go_ret
  exact ⟨by first | rfl | (simp; done) | (simp [*]; done) | (simp [Go.Proofs.YtjmcndbkmknemaaX.isEmpty_ne]; done), by repeat (first | exact Drawn0.refl _ | apply Drawn0.step)⟩

/-! ### spec_QuotedPath: function 36 -/
def spec_QuotedPath.f (k : Nat) (a0 : ByteArray) : Option (ByteArray) := if a0.toList = ([42] : List UInt8) then (some a0) else ((spec_quoted.f k a0 (⟨#[47, 36, 38, 43, 44, 58, 59, 61, 64]⟩ : ByteArray) (⟨#[]⟩ : ByteArray)).bind fun t239 => (some t239))
theorem spec_QuotedPath.mono : ∀ a0 k, LeO (spec_QuotedPath.f k a0) (spec_QuotedPath.f (k + 1) a0) := by
  intro a0 k
  unfold spec_QuotedPath.f
  repeat' first
      | (with_reducible exact spec_quoted.mono _ _ _ _)
      | (with_reducible exact LeO.refl _)
      | (with_reducible exact LeO.none _)
      | (with_reducible refine LeO.ite ?_ ?_)
      | (with_reducible refine LeO.bind ?_ (fun _ => ?_))
      | exact spec_quoted.mono _ _ _ _
      | exact LeO.none _
      | refine LeO.ite ?_ ?_
      | refine LeO.bind ?_ (fun _ => ?_)
set_option maxHeartbeats 8000000 in
set_option maxRecDepth 100000 in
theorem spec_QuotedPath.calls (k : Nat) (a0 : ByteArray) (r : ByteArray) (w : World) (h : spec_QuotedPath.f k a0 = some r) :
    Calls Try.prog 36 #[.string a0] w fun e w' => e = .returned (.string r) ∧ Drawn0 w w' := by
  have H : (if a0.toList = ([42] : List UInt8) then (some a0) else ((spec_quoted.f k a0 (⟨#[47, 36, 38, 43, 44, 58, 59, 61, 64]⟩ : ByteArray) (⟨#[]⟩ : ByteArray)).bind fun t239 => (some t239))) = some r := h
  clear h
  by_cases c2 : a0.toList = ([42] : List UInt8)
  · rw [if_pos c2] at H
    have c2b0 : (a0.toList == ([42] : List UInt8)) = true := beq_iff_eq.mpr c2
    have c2b1 : (a0.toList != ([42] : List UInt8)) = false := bne_eq_false_iff_eq.mpr c2
    clear c2
    obtain rfl := Option.some.inj H
    go_enter Try.func36, Try.ntmps36
    go_wp2
    go_ret
    exact ⟨by first | rfl | (simp; done) | (simp [*]; done) | (simp [Go.Proofs.YtjmcndbkmknemaaX.isEmpty_ne]; done), by repeat (first | exact Drawn0.refl _ | apply Drawn0.step)⟩
  · rw [if_neg c2] at H
    have c2b0 : (a0.toList == ([42] : List UInt8)) = false := beq_eq_false_iff_ne.mpr c2
    have c2b1 : (a0.toList != ([42] : List UInt8)) = true := bne_iff_ne.mpr c2
    replace H := Option.bind_eq_some_iff.mp H
    obtain ⟨t239, A30, H⟩ := H
    replace H : (some t239) = some r := H
    have A3 := Aside0.mk A30
    clear A30
    obtain rfl := Option.some.inj H
    go_enter Try.func36, Try.ntmps36
    go_wp2_with (first | ((with_reducible refine gate_callee (f := 56) rfl ?_); refine goesL_ (some 7) rfl rfl Try.func56 (by kernel_rfl) rfl #[.string a0, .string (⟨#[47, 36, 38, 43, 44, 58, 59, 61, 64]⟩ : ByteArray), .string (⟨#[]⟩ : ByteArray)] rfl (by (try simp only [List.map_toArray, List.map_cons, List.map_nil]); first | done | rfl | (simp only [List.length_drop, List.length_take]; rfl)) ?_; (with_reducible refine (spec_quoted.calls k a0 (⟨#[47, 36, 38, 43, 44, 58, 59, 61, 64]⟩ : ByteArray) (⟨#[]⟩ : ByteArray) t239 _ A3.out).mono ?_); rintro e w' ⟨rfl, ⟨nd, rfl⟩⟩; refine ⟨_, rfl, ?_⟩))
    go_ret
    exact ⟨by first | rfl | (simp; done) | (simp [*]; done) | (simp [Go.Proofs.YtjmcndbkmknemaaX.isEmpty_ne]; done), by repeat (first | exact Drawn0.refl _ | apply Drawn0.step)⟩

/-! ### laws_FnEscapedSays: function 11 -/
def laws_FnEscapedSays.j0 : Nat → ByteArray → Bool → Option (Bool)
  | 0, _, _ => none
  | k + 1, x0, x11 => if x11 = true then (some false) else ((laws_short.f k (([x0] : List ByteArray))).bind fun t245 => (if t245 = true then ((impl_QuotedArg.f k x0).bind fun t246 => ((spec_QuotedArg.f k x0).bind fun t247 => (if t246.toList = t247.toList then (if x0.toList = ([42] : List UInt8) then (some true) else ((impl_QuotedPath.f k x0).bind fun t248 => ((spec_QuotedPath.f k x0).bind fun t249 => (some (t248.toList == t249.toList))))) else (some false)))) else (some true)))
def laws_FnEscapedSays.f (k : Nat) (a0 : ByteArray) : Option (Bool) := if (a0.size : Int) > 2147483647 then (some true) else ((impl_QuotedArg.f k (⟨#[97]⟩ : ByteArray)).bind fun t240 => (if t240.toList = ([97] : List UInt8) then ((impl_QuotedPath.f k (⟨#[97]⟩ : ByteArray)).bind fun t241 => (laws_FnEscapedSays.j0 k a0 (t241.toList != ([97] : List UInt8)))) else (laws_FnEscapedSays.j0 k a0 true)))
theorem laws_FnEscapedSays.mono_l : ∀ k, (∀ y0 y1, LeO (laws_FnEscapedSays.j0 k y0 y1) (laws_FnEscapedSays.j0 (k + 1) y0 y1))
  | 0 => fun _ _ r h => by simp [laws_FnEscapedSays.j0] at h
  | k + 1 => by
    have ih0 := laws_FnEscapedSays.mono_l k
    · intro y0 y1
      unfold laws_FnEscapedSays.j0
      repeat' first
      | (with_reducible exact ih0 _ _)
      | (with_reducible exact impl_QuotedArg.mono _ _)
      | (with_reducible exact impl_QuotedPath.mono _ _)
      | (with_reducible exact laws_short.mono _ _)
      | (with_reducible exact spec_QuotedArg.mono _ _)
      | (with_reducible exact spec_QuotedPath.mono _ _)
      | (with_reducible exact LeO.refl _)
      | (with_reducible exact LeO.none _)
      | (with_reducible refine LeO.ite ?_ ?_)
      | (with_reducible refine LeO.bind ?_ (fun _ => ?_))
      | exact ih0 _ _
      | exact impl_QuotedArg.mono _ _
      | exact impl_QuotedPath.mono _ _
      | exact laws_short.mono _ _
      | exact spec_QuotedArg.mono _ _
      | exact spec_QuotedPath.mono _ _
      | exact LeO.none _
      | refine LeO.ite ?_ ?_
      | refine LeO.bind ?_ (fun _ => ?_)
theorem laws_FnEscapedSays.mono : ∀ a0 k, LeO (laws_FnEscapedSays.f k a0) (laws_FnEscapedSays.f (k + 1) a0) := by
  intro a0 k
  have ih0 := laws_FnEscapedSays.mono_l k
  unfold laws_FnEscapedSays.f
  repeat' first
      | (with_reducible exact ih0 _ _)
      | (with_reducible exact impl_QuotedArg.mono _ _)
      | (with_reducible exact impl_QuotedPath.mono _ _)
      | (with_reducible exact laws_short.mono _ _)
      | (with_reducible exact spec_QuotedArg.mono _ _)
      | (with_reducible exact spec_QuotedPath.mono _ _)
      | (with_reducible exact LeO.refl _)
      | (with_reducible exact LeO.none _)
      | (with_reducible refine LeO.ite ?_ ?_)
      | (with_reducible refine LeO.bind ?_ (fun _ => ?_))
      | exact ih0 _ _
      | exact impl_QuotedArg.mono _ _
      | exact impl_QuotedPath.mono _ _
      | exact laws_short.mono _ _
      | exact spec_QuotedArg.mono _ _
      | exact spec_QuotedPath.mono _ _
      | exact LeO.none _
      | refine LeO.ite ?_ ?_
      | refine LeO.bind ?_ (fun _ => ?_)
set_option maxHeartbeats 8000000 in
set_option maxRecDepth 100000 in
theorem laws_FnEscapedSays.calls (k : Nat) (a0 : ByteArray) (r : Bool) (w : World) (h : laws_FnEscapedSays.f k a0 = some r) :
    Calls Try.prog 11 #[.string a0] w fun e w' => e = .returned (.bool r) ∧ Below w.heap.size w w' := by
  have HB := Aside0.mk (Below.refl w.heap.size w)
  have H : (if (a0.size : Int) > 2147483647 then (some true) else ((impl_QuotedArg.f k (⟨#[97]⟩ : ByteArray)).bind fun t240 => (if t240.toList = ([97] : List UInt8) then ((impl_QuotedPath.f k (⟨#[97]⟩ : ByteArray)).bind fun t241 => (laws_FnEscapedSays.j0 k a0 (t241.toList != ([97] : List UInt8)))) else (laws_FnEscapedSays.j0 k a0 true)))) = some r := h
  clear h
  by_cases c2 : (a0.size : Int) > 2147483647
  · rw [if_pos c2] at H
    have c2b0 : decide (2147483647 < (a0.size : Int)) = true := decide_eq_true c2
    have c2b1 : decide (2147483647 < a0.size) = true := decide_eq_true (by omega)
    clear c2
    obtain rfl := Option.some.inj H
    go_enter Try.func11, Try.ntmps11
    go_wp2
    go_ret
    exact ⟨by first | rfl | (simp [errW_none, errW_some] <;> rfl) | (simp [*, errW_none, errW_some] <;> rfl), by repeat (first | (with_reducible first | exact HB.out | apply below_alloc | apply pw_below_drewN | apply below_drew1) | exact HB.out)⟩
  · rw [if_neg c2] at H
    have c2b0 : decide (2147483647 < (a0.size : Int)) = false := decide_eq_false c2
    have c2b1 : decide (2147483647 < a0.size) = false := decide_eq_false (by omega)
    clear c2
    have HC3 := Aside0.mk H
    clear H
    go_enter Try.func11, Try.ntmps11
    go_upto_region 3 with (fail)
    go_cut [11] (fun v11 wc => ∃ (kq : Nat) (x11_2 : Bool), v11 = .bool x11_2 ∧ Aside0 (laws_FnEscapedSays.j0 kq a0 x11_2 = some r) ∧ Aside0 (kq ≤ k) ∧ Aside0 (Below w.heap.size w wc))
    case first =>
      have H := HC3.out
      clear HC3
      replace H := Option.bind_eq_some_iff.mp H
      obtain ⟨t240, A40, H⟩ := H
      replace H : (if t240.toList = ([97] : List UInt8) then ((impl_QuotedPath.f k (⟨#[97]⟩ : ByteArray)).bind fun t241 => (laws_FnEscapedSays.j0 k a0 (t241.toList != ([97] : List UInt8)))) else (laws_FnEscapedSays.j0 k a0 true)) = some r := H
      have A4 := Aside0.mk A40
      clear A40
      by_cases c5 : t240.toList = ([97] : List UInt8)
      · rw [if_pos c5] at H
        have c5b0 : (t240.toList == ([97] : List UInt8)) = true := beq_iff_eq.mpr c5
        have c5b1 : (t240.toList != ([97] : List UInt8)) = false := bne_eq_false_iff_eq.mpr c5
        clear c5
        (first | rw [c5b0] | (simp only [i64_w, i32_w]; rw [c5b0]) | skip)
        replace H := Option.bind_eq_some_iff.mp H
        obtain ⟨t241, A60, H⟩ := H
        replace H : (laws_FnEscapedSays.j0 k a0 (t241.toList != ([97] : List UInt8))) = some r := H
        have A6 := Aside0.mk A60
        clear A60
        have H' := Aside0.mk H
        clear H
        go_wp2_with (first | ((with_reducible refine gate_callee (f := 33) rfl ?_); refine goesL_ (some 6) rfl rfl Try.func33 (by kernel_rfl) rfl #[.string (⟨#[97]⟩ : ByteArray)] rfl (by (try simp only [List.map_toArray, List.map_cons, List.map_nil]); first | done | rfl | (simp only [List.length_drop, List.length_take]; rfl)) ?_; (with_reducible refine (impl_QuotedArg.calls k (⟨#[97]⟩ : ByteArray) t240 _ A4.out).mono ?_); rintro e w7 ⟨rfl, hb⟩; refine ⟨_, rfl, ?_⟩; have n0_ := Aside0.mk (below_step (by repeat (first | (with_reducible first | exact HB.out | apply below_alloc | apply pw_below_drewN | apply below_drew1) | exact HB.out)) hb); clear HB; have HB := n0_; clear n0_; (try clear hb); (try clear hb2); (try clear hk); (try clear hi)) | (go_at_call 34; (with_reducible refine (impl_QuotedPath.calls k (⟨#[97]⟩ : ByteArray) t241 _ A6.out).mono ?_); rintro e w8 ⟨rfl, hb⟩; have n0_ := Aside0.mk (below_step (by repeat (first | (with_reducible first | exact HB.out | apply below_alloc | apply pw_below_drewN | apply below_drew1) | exact HB.out)) hb); clear HB; have HB := n0_; clear n0_; (try clear hb); (try clear hb2); (try clear hk); (try clear hi)))
        go_meet
        case rel => exact ⟨_, ((t241.toList != ([97] : List UInt8))), (by first | rfl | (simp; done) | (simp [*]; done) | (simp [Go.Proofs.YtjmcndbkmknemaaX.isEmpty_ne]; done)), H', ⟨by first | omega | exact Nat.le_refl _⟩, ⟨by repeat (first | (with_reducible first | exact HB.out | apply below_alloc | apply pw_below_drewN | apply below_drew1) | exact HB.out)⟩⟩
      · rw [if_neg c5] at H
        have c5b0 : (t240.toList == ([97] : List UInt8)) = false := beq_eq_false_iff_ne.mpr c5
        have c5b1 : (t240.toList != ([97] : List UInt8)) = true := bne_iff_ne.mpr c5
        (first | rw [c5b0] | (simp only [i64_w, i32_w]; rw [c5b0]) | skip)
        have H' := Aside0.mk H
        clear H
        go_wp2_with (first | ((with_reducible refine gate_callee (f := 33) rfl ?_); refine goesL_ (some 6) rfl rfl Try.func33 (by kernel_rfl) rfl #[.string (⟨#[97]⟩ : ByteArray)] rfl (by (try simp only [List.map_toArray, List.map_cons, List.map_nil]); first | done | rfl | (simp only [List.length_drop, List.length_take]; rfl)) ?_; (with_reducible refine (impl_QuotedArg.calls k (⟨#[97]⟩ : ByteArray) t240 _ A4.out).mono ?_); rintro e w9 ⟨rfl, hb⟩; refine ⟨_, rfl, ?_⟩; have n0_ := Aside0.mk (below_step (by repeat (first | (with_reducible first | exact HB.out | apply below_alloc | apply pw_below_drewN | apply below_drew1) | exact HB.out)) hb); clear HB; have HB := n0_; clear n0_; (try clear hb); (try clear hb2); (try clear hk); (try clear hi)))
        go_meet
        case rel => exact ⟨_, (true), (by first | rfl | (simp; done) | (simp [*]; done) | (simp [Go.Proofs.YtjmcndbkmknemaaX.isEmpty_ne]; done)), H', ⟨by first | omega | exact Nat.le_refl _⟩, ⟨by repeat (first | (with_reducible first | exact HB.out | apply below_alloc | apply pw_below_drewN | apply below_drew1) | exact HB.out)⟩⟩
    case rest =>
      clear HC3
      try clear c1
      try clear c2
      try clear c2b0
      try clear c2b1
      try clear p2
      try clear c3
      try clear c5
      try clear c5b0
      try clear c5b1
      obtain ⟨kq, x11_2, rfl, HA, HJ2, HB⟩ := hcut
      cases kq with
      | zero => exact absurd HA.out (by simp [laws_FnEscapedSays.j0])
      | succ kj2 =>
        have H := HA.out
        clear HA
        simp only [laws_FnEscapedSays.j0] at H
        by_cases c10 : x11_2 = true
        · subst c10
          have H1 : (some false) = some r := by rw [if_pos rfl] at H; exact H
          clear H
          have H := H1
          clear H1
          obtain rfl := Option.some.inj H
          go_wp2
          go_ret
          exact ⟨by first | rfl | (simp [errW_none, errW_some] <;> rfl) | (simp [*, errW_none, errW_some] <;> rfl), by repeat (first | (with_reducible first | exact HB.out | apply below_alloc | apply pw_below_drewN | apply below_drew1) | exact HB.out)⟩
        · replace c10 := Bool.eq_false_iff.mpr c10
          subst c10
          have H1 : ((laws_short.f kj2 (([a0] : List ByteArray))).bind fun t245 => (if t245 = true then ((impl_QuotedArg.f kj2 a0).bind fun t246 => ((spec_QuotedArg.f kj2 a0).bind fun t247 => (if t246.toList = t247.toList then (if a0.toList = ([42] : List UInt8) then (some true) else ((impl_QuotedPath.f kj2 a0).bind fun t248 => ((spec_QuotedPath.f kj2 a0).bind fun t249 => (some (t248.toList == t249.toList))))) else (some false)))) else (some true))) = some r := by rw [if_neg (show ¬ (false = true) by decide)] at H; exact H
          clear H
          have H := H1
          clear H1
          obtain ⟨y242, hy242⟩ : ∃ y_ : List ByteArray, y_ = (([a0] : List ByteArray)) := ⟨_, rfl⟩
          replace H : ((laws_short.f kj2 y242).bind fun t245 => (if t245 = true then ((impl_QuotedArg.f kj2 a0).bind fun t246 => ((spec_QuotedArg.f kj2 a0).bind fun t247 => (if t246.toList = t247.toList then (if a0.toList = ([42] : List UInt8) then (some true) else ((impl_QuotedPath.f kj2 a0).bind fun t248 => ((spec_QuotedPath.f kj2 a0).bind fun t249 => (some (t248.toList == t249.toList))))) else (some false)))) else (some true))) = some r := by first | (rw [hy242]; with_reducible exact H) | (have H2_ := (Option.bind_some _ _).symm.trans H; rw [hy242]; with_reducible exact H2_) | (have H2_ := (Option.bind_some _ _).symm.trans H; with_reducible exact H2_) | with_reducible exact H | (rw [hy242]; exact H) | exact H
          have Ny242 := Aside0.mk hy242
          clear hy242
          replace H := Option.bind_eq_some_iff.mp H
          obtain ⟨t245, A110, H⟩ := H
          replace H : (if t245 = true then ((impl_QuotedArg.f kj2 a0).bind fun t246 => ((spec_QuotedArg.f kj2 a0).bind fun t247 => (if t246.toList = t247.toList then (if a0.toList = ([42] : List UInt8) then (some true) else ((impl_QuotedPath.f kj2 a0).bind fun t248 => ((spec_QuotedPath.f kj2 a0).bind fun t249 => (some (t248.toList == t249.toList))))) else (some false)))) else (some true)) = some r := H
          have A11 := Aside0.mk A110
          clear A110
          by_cases c12 : t245 = true
          · subst c12
            have H1 : ((impl_QuotedArg.f kj2 a0).bind fun t246 => ((spec_QuotedArg.f kj2 a0).bind fun t247 => (if t246.toList = t247.toList then (if a0.toList = ([42] : List UInt8) then (some true) else ((impl_QuotedPath.f kj2 a0).bind fun t248 => ((spec_QuotedPath.f kj2 a0).bind fun t249 => (some (t248.toList == t249.toList))))) else (some false)))) = some r := by rw [if_pos rfl] at H; exact H
            clear H
            have H := H1
            clear H1
            replace H := Option.bind_eq_some_iff.mp H
            obtain ⟨t246, A130, H⟩ := H
            replace H : ((spec_QuotedArg.f kj2 a0).bind fun t247 => (if t246.toList = t247.toList then (if a0.toList = ([42] : List UInt8) then (some true) else ((impl_QuotedPath.f kj2 a0).bind fun t248 => ((spec_QuotedPath.f kj2 a0).bind fun t249 => (some (t248.toList == t249.toList))))) else (some false))) = some r := H
            have A13 := Aside0.mk A130
            clear A130
            replace H := Option.bind_eq_some_iff.mp H
            obtain ⟨t247, A140, H⟩ := H
            replace H : (if t246.toList = t247.toList then (if a0.toList = ([42] : List UInt8) then (some true) else ((impl_QuotedPath.f kj2 a0).bind fun t248 => ((spec_QuotedPath.f kj2 a0).bind fun t249 => (some (t248.toList == t249.toList))))) else (some false)) = some r := H
            have A14 := Aside0.mk A140
            clear A140
            by_cases c15 : t246.toList = t247.toList
            · rw [if_pos c15] at H
              have c15b0 : (t246.toList == t247.toList) = true := beq_iff_eq.mpr c15
              have c15b1 : (t246.toList != t247.toList) = false := bne_eq_false_iff_eq.mpr c15
              clear c15
              by_cases c16 : a0.toList = ([42] : List UInt8)
              · rw [if_pos c16] at H
                have c16b0 : (a0.toList == ([42] : List UInt8)) = true := beq_iff_eq.mpr c16
                have c16b1 : (a0.toList != ([42] : List UInt8)) = false := bne_eq_false_iff_eq.mpr c16
                clear c16
                obtain rfl := Option.some.inj H
                go_wp2_with (first | ((with_reducible refine gate_dst (N := 13) rfl ?_); refine Kd.R_lit Kd.string _ 9 ?hg (N := 13) ?hd (xs := ([a0] : List ByteArray)) (inner := [.string a0]) (ok := fun _ => True) (okp := fun _ => True) ?hr ?hp (fun _ hk => hk) trivial (Below.refl _ _) (Nat.le_refl _) (by simp) ?_; (case hd => rfl); (case hg => rfl); (case hr => first | (go_simp; done) | (go_simp; rfl)); (case hp => exact (Reps.one (show Kd.M Kd.string _ _ _ a0 [.string a0] from rfl) (Reps.none _ _))); intro v243 w17 ho18 hb hg_ hnew_; clear hg_ hnew_; (first | rw [← Ny242.out] at ho18 | (simp only [Int.reduceToNat] at ho18; rw [← Ny242.out] at ho18)); have n0_ := Aside0.mk (Kd.R_lower ho18 (below_size (by repeat (first | (with_reducible first | exact HB.out | apply below_alloc | apply pw_below_drewN | apply below_drew1) | exact HB.out)))); have n1_ := Aside0.mk (below_step (by repeat (first | (with_reducible first | exact HB.out | apply below_alloc | apply pw_below_drewN | apply below_drew1) | exact HB.out)) hb); clear HB; have HO244 := n0_; have HB := n1_; clear n0_ n1_; clear hb ho18; obtain ⟨Ao19, co19, eo19⟩ := Kd.R_slice HO244.out; subst eo19) | ((with_reducible refine gate_callee (f := 23) rfl ?_); refine goesL_ (some 14) rfl rfl Try.func23 (by kernel_rfl) rfl #[.slice Ao19 y242.length co19] rfl (by (try simp only [List.map_toArray, List.map_cons, List.map_nil]); first | done | rfl | (simp only [List.length_drop, List.length_take]; rfl)) ?_; (with_reducible refine (laws_short.calls kj2 _ _ y242 true _ ?side1 ?side2 A11.out).mono ?_); (case side1 => repeat (first | exact (Kd.R_reads' HO244.out).2.2 | (with_reducible refine Kd.C_alloc ?_ _) | (with_reducible refine Kd.C_drewN ?_ _) | (with_reducible refine Kd.C_drew ?_))); (case side2 => exact (Kd.R_reads' HO244.out).2.1); rintro e w' ⟨rfl, ⟨nd, rfl⟩⟩; refine ⟨_, rfl, ?_⟩) | (go_at_call 33; (with_reducible refine (impl_QuotedArg.calls kj2 a0 t246 _ A13.out).mono ?_); rintro e w20 ⟨rfl, hb⟩; have n0_ := Aside0.mk (Kd.R_below (by (with_reducible repeat (first | apply Kd.R_alloc | apply Kd.R_drewN | apply Kd.R_drew)); exact HO244.out) hb); have n1_ := Aside0.mk (below_step (by repeat (first | (with_reducible first | exact HB.out | apply below_alloc | apply pw_below_drewN | apply below_drew1) | exact HB.out)) hb); clear HO244; clear HB; have HO244 := n0_; have HB := n1_; clear n0_ n1_; (try clear hb); (try clear hb2); (try clear hk); (try clear hi)) | (go_at_call 35; (with_reducible refine (spec_QuotedArg.calls kj2 a0 t247 _ A14.out).mono ?_); rintro e w' ⟨rfl, ⟨nd, rfl⟩⟩))
                go_ret
                exact ⟨by first | rfl | (simp [errW_none, errW_some] <;> rfl) | (simp [*, errW_none, errW_some] <;> rfl), by repeat (first | (with_reducible first | exact HB.out | apply below_alloc | apply pw_below_drewN | apply below_drew1) | exact HB.out)⟩
              · rw [if_neg c16] at H
                have c16b0 : (a0.toList == ([42] : List UInt8)) = false := beq_eq_false_iff_ne.mpr c16
                have c16b1 : (a0.toList != ([42] : List UInt8)) = true := bne_iff_ne.mpr c16
                replace H := Option.bind_eq_some_iff.mp H
                obtain ⟨t248, A210, H⟩ := H
                replace H : ((spec_QuotedPath.f kj2 a0).bind fun t249 => (some (t248.toList == t249.toList))) = some r := H
                have A21 := Aside0.mk A210
                clear A210
                replace H := Option.bind_eq_some_iff.mp H
                obtain ⟨t249, A220, H⟩ := H
                replace H : (some (t248.toList == t249.toList)) = some r := H
                have A22 := Aside0.mk A220
                clear A220
                obtain rfl := Option.some.inj H
                go_wp2_with (first | ((with_reducible refine gate_dst (N := 13) rfl ?_); refine Kd.R_lit Kd.string _ 9 ?hg (N := 13) ?hd (xs := ([a0] : List ByteArray)) (inner := [.string a0]) (ok := fun _ => True) (okp := fun _ => True) ?hr ?hp (fun _ hk => hk) trivial (Below.refl _ _) (Nat.le_refl _) (by simp) ?_; (case hd => rfl); (case hg => rfl); (case hr => first | (go_simp; done) | (go_simp; rfl)); (case hp => exact (Reps.one (show Kd.M Kd.string _ _ _ a0 [.string a0] from rfl) (Reps.none _ _))); intro v243 w23 ho24 hb hg_ hnew_; clear hg_ hnew_; (first | rw [← Ny242.out] at ho24 | (simp only [Int.reduceToNat] at ho24; rw [← Ny242.out] at ho24)); have n0_ := Aside0.mk (Kd.R_lower ho24 (below_size (by repeat (first | (with_reducible first | exact HB.out | apply below_alloc | apply pw_below_drewN | apply below_drew1) | exact HB.out)))); have n1_ := Aside0.mk (below_step (by repeat (first | (with_reducible first | exact HB.out | apply below_alloc | apply pw_below_drewN | apply below_drew1) | exact HB.out)) hb); clear HB; have HO244 := n0_; have HB := n1_; clear n0_ n1_; clear hb ho24; obtain ⟨Ao25, co25, eo25⟩ := Kd.R_slice HO244.out; subst eo25) | ((with_reducible refine gate_callee (f := 23) rfl ?_); refine goesL_ (some 14) rfl rfl Try.func23 (by kernel_rfl) rfl #[.slice Ao25 y242.length co25] rfl (by (try simp only [List.map_toArray, List.map_cons, List.map_nil]); first | done | rfl | (simp only [List.length_drop, List.length_take]; rfl)) ?_; (with_reducible refine (laws_short.calls kj2 _ _ y242 true _ ?side1 ?side2 A11.out).mono ?_); (case side1 => repeat (first | exact (Kd.R_reads' HO244.out).2.2 | (with_reducible refine Kd.C_alloc ?_ _) | (with_reducible refine Kd.C_drewN ?_ _) | (with_reducible refine Kd.C_drew ?_))); (case side2 => exact (Kd.R_reads' HO244.out).2.1); rintro e w' ⟨rfl, ⟨nd, rfl⟩⟩; refine ⟨_, rfl, ?_⟩) | (go_at_call 33; (with_reducible refine (impl_QuotedArg.calls kj2 a0 t246 _ A13.out).mono ?_); rintro e w26 ⟨rfl, hb⟩; have n0_ := Aside0.mk (Kd.R_below (by (with_reducible repeat (first | apply Kd.R_alloc | apply Kd.R_drewN | apply Kd.R_drew)); exact HO244.out) hb); have n1_ := Aside0.mk (below_step (by repeat (first | (with_reducible first | exact HB.out | apply below_alloc | apply pw_below_drewN | apply below_drew1) | exact HB.out)) hb); clear HO244; clear HB; have HO244 := n0_; have HB := n1_; clear n0_ n1_; (try clear hb); (try clear hb2); (try clear hk); (try clear hi)) | (go_at_call 35; (with_reducible refine (spec_QuotedArg.calls kj2 a0 t247 _ A14.out).mono ?_); rintro e w' ⟨rfl, ⟨nd, rfl⟩⟩) | (go_at_call 34; (with_reducible refine (impl_QuotedPath.calls kj2 a0 t248 _ A21.out).mono ?_); rintro e w27 ⟨rfl, hb⟩; have n0_ := Aside0.mk (Kd.R_below (by (with_reducible repeat (first | apply Kd.R_alloc | apply Kd.R_drewN | apply Kd.R_drew)); exact HO244.out) hb); have n1_ := Aside0.mk (below_step (by repeat (first | (with_reducible first | exact HB.out | apply below_alloc | apply pw_below_drewN | apply below_drew1) | exact HB.out)) hb); clear HO244; clear HB; have HO244 := n0_; have HB := n1_; clear n0_ n1_; (try clear hb); (try clear hb2); (try clear hk); (try clear hi)) | (go_at_call 36; (with_reducible refine (spec_QuotedPath.calls kj2 a0 t249 _ A22.out).mono ?_); rintro e w' ⟨rfl, ⟨nd, rfl⟩⟩))
                go_ret
                exact ⟨by first | rfl | (simp [errW_none, errW_some] <;> rfl) | (simp [*, errW_none, errW_some] <;> rfl), by repeat (first | (with_reducible first | exact HB.out | apply below_alloc | apply pw_below_drewN | apply below_drew1) | exact HB.out)⟩
            · rw [if_neg c15] at H
              have c15b0 : (t246.toList == t247.toList) = false := beq_eq_false_iff_ne.mpr c15
              have c15b1 : (t246.toList != t247.toList) = true := bne_iff_ne.mpr c15
              obtain rfl := Option.some.inj H
              go_wp2_with (first | ((with_reducible refine gate_dst (N := 13) rfl ?_); refine Kd.R_lit Kd.string _ 9 ?hg (N := 13) ?hd (xs := ([a0] : List ByteArray)) (inner := [.string a0]) (ok := fun _ => True) (okp := fun _ => True) ?hr ?hp (fun _ hk => hk) trivial (Below.refl _ _) (Nat.le_refl _) (by simp) ?_; (case hd => rfl); (case hg => rfl); (case hr => first | (go_simp; done) | (go_simp; rfl)); (case hp => exact (Reps.one (show Kd.M Kd.string _ _ _ a0 [.string a0] from rfl) (Reps.none _ _))); intro v243 w28 ho29 hb hg_ hnew_; clear hg_ hnew_; (first | rw [← Ny242.out] at ho29 | (simp only [Int.reduceToNat] at ho29; rw [← Ny242.out] at ho29)); have n0_ := Aside0.mk (Kd.R_lower ho29 (below_size (by repeat (first | (with_reducible first | exact HB.out | apply below_alloc | apply pw_below_drewN | apply below_drew1) | exact HB.out)))); have n1_ := Aside0.mk (below_step (by repeat (first | (with_reducible first | exact HB.out | apply below_alloc | apply pw_below_drewN | apply below_drew1) | exact HB.out)) hb); clear HB; have HO244 := n0_; have HB := n1_; clear n0_ n1_; clear hb ho29; obtain ⟨Ao30, co30, eo30⟩ := Kd.R_slice HO244.out; subst eo30) | ((with_reducible refine gate_callee (f := 23) rfl ?_); refine goesL_ (some 14) rfl rfl Try.func23 (by kernel_rfl) rfl #[.slice Ao30 y242.length co30] rfl (by (try simp only [List.map_toArray, List.map_cons, List.map_nil]); first | done | rfl | (simp only [List.length_drop, List.length_take]; rfl)) ?_; (with_reducible refine (laws_short.calls kj2 _ _ y242 true _ ?side1 ?side2 A11.out).mono ?_); (case side1 => repeat (first | exact (Kd.R_reads' HO244.out).2.2 | (with_reducible refine Kd.C_alloc ?_ _) | (with_reducible refine Kd.C_drewN ?_ _) | (with_reducible refine Kd.C_drew ?_))); (case side2 => exact (Kd.R_reads' HO244.out).2.1); rintro e w' ⟨rfl, ⟨nd, rfl⟩⟩; refine ⟨_, rfl, ?_⟩) | (go_at_call 33; (with_reducible refine (impl_QuotedArg.calls kj2 a0 t246 _ A13.out).mono ?_); rintro e w31 ⟨rfl, hb⟩; have n0_ := Aside0.mk (Kd.R_below (by (with_reducible repeat (first | apply Kd.R_alloc | apply Kd.R_drewN | apply Kd.R_drew)); exact HO244.out) hb); have n1_ := Aside0.mk (below_step (by repeat (first | (with_reducible first | exact HB.out | apply below_alloc | apply pw_below_drewN | apply below_drew1) | exact HB.out)) hb); clear HO244; clear HB; have HO244 := n0_; have HB := n1_; clear n0_ n1_; (try clear hb); (try clear hb2); (try clear hk); (try clear hi)) | (go_at_call 35; (with_reducible refine (spec_QuotedArg.calls kj2 a0 t247 _ A14.out).mono ?_); rintro e w' ⟨rfl, ⟨nd, rfl⟩⟩))
              go_ret
              exact ⟨by first | rfl | (simp [errW_none, errW_some] <;> rfl) | (simp [*, errW_none, errW_some] <;> rfl), by repeat (first | (with_reducible first | exact HB.out | apply below_alloc | apply pw_below_drewN | apply below_drew1) | exact HB.out)⟩
          · replace c12 := Bool.eq_false_iff.mpr c12
            subst c12
            have H1 : (some true) = some r := by rw [if_neg (show ¬ (false = true) by decide)] at H; exact H
            clear H
            have H := H1
            clear H1
            obtain rfl := Option.some.inj H
            go_wp2_with (first | ((with_reducible refine gate_dst (N := 13) rfl ?_); refine Kd.R_lit Kd.string _ 9 ?hg (N := 13) ?hd (xs := ([a0] : List ByteArray)) (inner := [.string a0]) (ok := fun _ => True) (okp := fun _ => True) ?hr ?hp (fun _ hk => hk) trivial (Below.refl _ _) (Nat.le_refl _) (by simp) ?_; (case hd => rfl); (case hg => rfl); (case hr => first | (go_simp; done) | (go_simp; rfl)); (case hp => exact (Reps.one (show Kd.M Kd.string _ _ _ a0 [.string a0] from rfl) (Reps.none _ _))); intro v243 w32 ho33 hb hg_ hnew_; clear hg_ hnew_; (first | rw [← Ny242.out] at ho33 | (simp only [Int.reduceToNat] at ho33; rw [← Ny242.out] at ho33)); have n0_ := Aside0.mk (Kd.R_lower ho33 (below_size (by repeat (first | (with_reducible first | exact HB.out | apply below_alloc | apply pw_below_drewN | apply below_drew1) | exact HB.out)))); have n1_ := Aside0.mk (below_step (by repeat (first | (with_reducible first | exact HB.out | apply below_alloc | apply pw_below_drewN | apply below_drew1) | exact HB.out)) hb); clear HB; have HO244 := n0_; have HB := n1_; clear n0_ n1_; clear hb ho33; obtain ⟨Ao34, co34, eo34⟩ := Kd.R_slice HO244.out; subst eo34) | ((with_reducible refine gate_callee (f := 23) rfl ?_); refine goesL_ (some 14) rfl rfl Try.func23 (by kernel_rfl) rfl #[.slice Ao34 y242.length co34] rfl (by (try simp only [List.map_toArray, List.map_cons, List.map_nil]); first | done | rfl | (simp only [List.length_drop, List.length_take]; rfl)) ?_; (with_reducible refine (laws_short.calls kj2 _ _ y242 false _ ?side1 ?side2 A11.out).mono ?_); (case side1 => repeat (first | exact (Kd.R_reads' HO244.out).2.2 | (with_reducible refine Kd.C_alloc ?_ _) | (with_reducible refine Kd.C_drewN ?_ _) | (with_reducible refine Kd.C_drew ?_))); (case side2 => exact (Kd.R_reads' HO244.out).2.1); rintro e w' ⟨rfl, ⟨nd, rfl⟩⟩; refine ⟨_, rfl, ?_⟩))
            go_ret
            exact ⟨by first | rfl | (simp [errW_none, errW_some] <;> rfl) | (simp [*, errW_none, errW_some] <;> rfl), by repeat (first | (with_reducible first | exact HB.out | apply below_alloc | apply pw_below_drewN | apply below_drew1) | exact HB.out)⟩

/-- THE ONE PURE STATEMENT of laws_FnEscapedSays: yours. -/
def laws_FnEscapedSays.Pure : Prop := ∀ (a0 : ByteArray), a0.size ≤ 140737488351232 → ∃ k, laws_FnEscapedSays.f k a0 = some true
theorem laws_FnEscapedSays.walk (P : laws_FnEscapedSays.Pure) (a0 : ByteArray) (w : World) (w0 : a0.size ≤ 140737488351232) :
    Calls Try.prog 11 #[.string a0] w fun e w' => e = .returned (.bool true) ∧ Below w.heap.size w w' := by
  obtain ⟨k, h⟩ := P a0 w0
  refine (laws_FnEscapedSays.calls k a0 true w h).mono ?_
  rintro e w' ⟨rfl, hd⟩
  exact ⟨rfl, hd⟩

/-! ### fiberutils_zzIndex: function 65 -/
def fiberutils_zzIndex.l0 : Nat → ByteArray → ByteArray → Int → Option (Int)
  | 0, _, _, _ => none
  | k + 1, x0, x1, x5 => if (wrap64 (x5 + (x1.size : Int))) ≤ (x0.size : Int) then (if 0 ≤ x5 then (if x5 ≤ (wrap64 (x5 + (x1.size : Int))) then (if (x0.extract (x5 : Int).toNat ((wrap64 (x5 + (x1.size : Int))) : Int).toNat).toList = x1.toList then (some x5) else (fiberutils_zzIndex.l0 k x0 x1 (wrap64 (x5 + 1)))) else (none)) else (none)) else (some (-1))
def fiberutils_zzIndex.f (k : Nat) (a0 : ByteArray) (a1 : ByteArray) : Option (Int) := fiberutils_zzIndex.l0 k a0 a1 0
theorem fiberutils_zzIndex.mono_l : ∀ k, (∀ y0 y1 y2, LeO (fiberutils_zzIndex.l0 k y0 y1 y2) (fiberutils_zzIndex.l0 (k + 1) y0 y1 y2))
  | 0 => fun _ _ _ r h => by simp [fiberutils_zzIndex.l0] at h
  | k + 1 => by
    have ih0 := fiberutils_zzIndex.mono_l k
    · intro y0 y1 y2
      unfold fiberutils_zzIndex.l0
      repeat' first
      | (with_reducible exact ih0 _ _ _)
      | (with_reducible exact LeO.refl _)
      | (with_reducible exact LeO.none _)
      | (with_reducible refine LeO.ite ?_ ?_)
      | (with_reducible refine LeO.bind ?_ (fun _ => ?_))
      | exact ih0 _ _ _
      | exact LeO.none _
      | refine LeO.ite ?_ ?_
      | refine LeO.bind ?_ (fun _ => ?_)
theorem fiberutils_zzIndex.mono : ∀ a0 a1 k, LeO (fiberutils_zzIndex.f k a0 a1) (fiberutils_zzIndex.f (k + 1) a0 a1) := by
  intro a0 a1 k
  have ih0 := fiberutils_zzIndex.mono_l k
  unfold fiberutils_zzIndex.f
  repeat' first
      | (with_reducible exact ih0 _ _ _)
      | (with_reducible exact LeO.refl _)
      | (with_reducible exact LeO.none _)
      | (with_reducible refine LeO.ite ?_ ?_)
      | (with_reducible refine LeO.bind ?_ (fun _ => ?_))
      | exact ih0 _ _ _
      | exact LeO.none _
      | refine LeO.ite ?_ ?_
      | refine LeO.bind ?_ (fun _ => ?_)
set_option maxHeartbeats 8000000 in
set_option maxRecDepth 100000 in
theorem fiberutils_zzIndex.calls (k : Nat) (a0 : ByteArray) (a1 : ByteArray) (r : Int) (w : World) (h : fiberutils_zzIndex.f k a0 a1 = some r) :
    Calls Try.prog 65 #[.string a0, .string a1] w fun e w' => e = .returned (.int .i64 r) ∧ Drawn0 w w' := by
  have H : (fiberutils_zzIndex.l0 k a0 a1 0) = some r := h
  clear h
  have H' := Aside0.mk H
  clear H
  go_enter Try.func65, Try.ntmps65
  go_wp2
  go_loopg [5] k (fun kq v5 w' => ∃ (x5_1 : Int), v5 = .int .i64 x5_1 ∧ Aside0 (fiberutils_zzIndex.l0 kq a0 a1 x5_1 = some r) ∧ Aside0 (kq ≤ k) ∧ Drawn0 w w')
  case atStart => exact ⟨(0), (by first | rfl | (simp; done) | (simp [*]; done) | (simp [Go.Proofs.YtjmcndbkmknemaaX.isEmpty_ne]; done)), H', ⟨Nat.le_refl _⟩, by repeat (first | exact Drawn0.refl _ | apply Drawn0.step)⟩
  case round =>
    clear H'
    try clear p2
    obtain ⟨x5_1, rfl, HA, HK1, ⟨m1, rfl⟩⟩ := hrel
    cases gk with
    | zero => exact absurd HA.out (by simp [fiberutils_zzIndex.l0])
    | succ k1 =>
      have H := HA.out
      clear HA
      simp only [fiberutils_zzIndex.l0] at H
      by_cases c3 : (wrap64 (x5_1 + (a1.size : Int))) ≤ (a0.size : Int)
      · rw [if_pos c3] at H
        have c3b0 : decide ((wrap64 (x5_1 + (a1.size : Int))) ≤ (a0.size : Int)) = true := decide_eq_true c3
        clear c3
        by_cases c4 : 0 ≤ x5_1
        · rw [if_pos c4] at H
          have c4b0 := eq_true c4
          have c4b1 : decide (0 ≤ x5_1) = true := decide_eq_true c4
          clear c4
          by_cases c5 : x5_1 ≤ (wrap64 (x5_1 + (a1.size : Int)))
          · rw [if_pos c5] at H
            have c5b0 := eq_true c5
            have c5b1 : decide (x5_1 ≤ (wrap64 (x5_1 + (a1.size : Int)))) = true := decide_eq_true c5
            have c6b0 := eq_true (of_decide_eq_true (by first | (with_reducible assumption) | assumption) : (wrap64 (x5_1 + (a1.size : Int))) ≤ (a0.size : Int))
            by_cases c7 : (a0.extract (x5_1 : Int).toNat ((wrap64 (x5_1 + (a1.size : Int))) : Int).toNat).toList = a1.toList
            · rw [if_pos c7] at H
              have c7b0 : ((a0.extract (x5_1 : Int).toNat ((wrap64 (x5_1 + (a1.size : Int))) : Int).toNat).toList == a1.toList) = true := beq_iff_eq.mpr c7
              have c7b1 : ((a0.extract (x5_1 : Int).toNat ((wrap64 (x5_1 + (a1.size : Int))) : Int).toNat).toList != a1.toList) = false := bne_eq_false_iff_eq.mpr c7
              clear c7
              obtain rfl := Option.some.inj H
              go_wp2
              go_ret
              exact ⟨by first | rfl | (simp; done) | (simp [*]; done) | (simp [Go.Proofs.YtjmcndbkmknemaaX.isEmpty_ne]; done), by repeat (first | exact Drawn0.refl _ | apply Drawn0.step)⟩
            · rw [if_neg c7] at H
              have c7b0 : ((a0.extract (x5_1 : Int).toNat ((wrap64 (x5_1 + (a1.size : Int))) : Int).toNat).toList == a1.toList) = false := beq_eq_false_iff_ne.mpr c7
              have c7b1 : ((a0.extract (x5_1 : Int).toNat ((wrap64 (x5_1 + (a1.size : Int))) : Int).toNat).toList != a1.toList) = true := bne_iff_ne.mpr c7
              have H' := Aside0.mk H
              clear H
              go_wp2
              go_roundg k1
              case measure => have := HK1.out; omega
              case rel => exact ⟨(wrap64 (x5_1 + 1)), (by first | rfl | (simp; done) | (simp [*]; done) | (simp [Go.Proofs.YtjmcndbkmknemaaX.isEmpty_ne]; done)), H', ⟨by have := HK1.out; omega⟩, by repeat (first | exact Drawn0.refl _ | apply Drawn0.step)⟩
          · rw [if_neg c5] at H
            exact absurd H (by simp)
        · rw [if_neg c4] at H
          exact absurd H (by simp)
      · rw [if_neg c3] at H
        have c3b0 : decide ((wrap64 (x5_1 + (a1.size : Int))) ≤ (a0.size : Int)) = false := decide_eq_false c3
        clear c3
        obtain rfl := Option.some.inj H
        go_wp2
        go_ret
        exact ⟨by first | rfl | (simp; done) | (simp [*]; done) | (simp [Go.Proofs.YtjmcndbkmknemaaX.isEmpty_ne]; done), by repeat (first | exact Drawn0.refl _ | apply Drawn0.step)⟩

end Go.Proofs.Ytjmcndbkmknemaa.Q
