/- FnCookieSays: the law's function, called with any arguments, returns true and leaves its arguments as they were: every input, no condition. Part 9 of 12. -/
import Derived.Test.YtfbllodbcmcndaaZFnCookieSays1
import Derived.Test.YtfbllodbcmcndaaZFnCookieSays7
section
namespace Go.Proofs.Ytfbllodbcmcndaa.Q
open Go.RowKit Go.Proofs.YtfbllodbcmcndaaW.PrintWords Go.Proofs.YtfbllodbcmcndaaW.PrintLast Go.Proofs.YtfbllodbcmcndaaW.PrintMore
attribute [local go_sem] max2_int min2_int max_two min_two max_three min_three max_four min_four
set_option linter.unusedVariables false
set_option linter.unusedSimpArgs false
mutual
def spec_quoted.l0 : Nat → ByteArray → ByteArray → ByteArray → ByteArray → Int → Option (ByteArray)
  | 0, _, _, _, _, _ => none
  | k + 1, x0, x1, x2, x7, x8 => if x8 < (x0.size : Int) then (if 0 ≤ x8 then ((spec_unreserved.f (bt x0 x8)).bind fun t266 => (if t266 = true then (spec_quoted.j1 k x0 x1 x2 x7 x8 (bt x0 x8) true) else ((spec_indexOf.f k x1 (bt x0 x8)).bind fun t267 => (spec_quoted.j1 k x0 x1 x2 x7 x8 (bt x0 x8) (decide (t267 ≥ 0)))))) else (none)) else (some x7)
def spec_quoted.j1 : Nat → ByteArray → ByteArray → ByteArray → ByteArray → Int → Int → Bool → Option (ByteArray)
  | 0, _, _, _, _, _, _, _ => none
  | k + 1, x0, x1, x2, x7, x8, x9, x35 => if x35 = true then (if 0 ≤ x8 then (if x8 ≤ (wrap64 (x8 + 1)) then (if (wrap64 (x8 + 1)) ≤ (x0.size : Int) then (if x7.size + ((min ((wrap64 (x8 + 1)) : Int).toNat x0.size - (x8 : Int).toNat)) ≤ 9223372036854775807 then (spec_quoted.l0 k x0 x1 x2 (x7 ++ (x0.extract (x8 : Int).toNat ((wrap64 (x8 + 1)) : Int).toNat)) (wrap64 (x8 + 1))) else (none)) else (none)) else (none)) else (none)) else (if x9 = 32 then (if x2.toList = ([] : List UInt8) then (if 0 ≤ (x9 / 16) then (if (x9 / 16) ≤ (((x9 / 16) + 1) % 256) then (if (((x9 / 16) + 1) % 256) ≤ 16 then (if 1 + ((min ((((x9 / 16) + 1) % 256) : Int).toNat 16 - ((x9 / 16) : Int).toNat)) ≤ 9223372036854775807 then (if 0 ≤ (Go.bits .and .u8 x9 15) then (if (Go.bits .and .u8 x9 15) ≤ (((Go.bits .and .u8 x9 15) + 1) % 256) then (if (((Go.bits .and .u8 x9 15) + 1) % 256) ≤ 16 then (if 1 + ((min ((((x9 / 16) + 1) % 256) : Int).toNat 16 - ((x9 / 16) : Int).toNat)) + ((min ((((Go.bits .and .u8 x9 15) + 1) % 256) : Int).toNat 16 - ((Go.bits .and .u8 x9 15) : Int).toNat)) ≤ 9223372036854775807 then (if x7.size + (1 + ((min ((((x9 / 16) + 1) % 256) : Int).toNat 16 - ((x9 / 16) : Int).toNat)) + ((min ((((Go.bits .and .u8 x9 15) + 1) % 256) : Int).toNat 16 - ((Go.bits .and .u8 x9 15) : Int).toNat))) ≤ 9223372036854775807 then (spec_quoted.l0 k x0 x1 x2 (x7 ++ (((⟨#[37]⟩ : ByteArray) ++ ((⟨#[48, 49, 50, 51, 52, 53, 54, 55, 56, 57, 65, 66, 67, 68, 69, 70]⟩ : ByteArray).extract ((x9 / 16) : Int).toNat ((((x9 / 16) + 1) % 256) : Int).toNat)) ++ ((⟨#[48, 49, 50, 51, 52, 53, 54, 55, 56, 57, 65, 66, 67, 68, 69, 70]⟩ : ByteArray).extract ((Go.bits .and .u8 x9 15) : Int).toNat ((((Go.bits .and .u8 x9 15) + 1) % 256) : Int).toNat))) (wrap64 (x8 + 1))) else (none)) else (none)) else (none)) else (none)) else (none)) else (none)) else (none)) else (none)) else (none)) else (if x7.size + x2.size ≤ 9223372036854775807 then (spec_quoted.l0 k x0 x1 x2 (x7 ++ x2) (wrap64 (x8 + 1))) else (none))) else (if 0 ≤ (x9 / 16) then (if (x9 / 16) ≤ (((x9 / 16) + 1) % 256) then (if (((x9 / 16) + 1) % 256) ≤ 16 then (if 1 + ((min ((((x9 / 16) + 1) % 256) : Int).toNat 16 - ((x9 / 16) : Int).toNat)) ≤ 9223372036854775807 then (if 0 ≤ (Go.bits .and .u8 x9 15) then (if (Go.bits .and .u8 x9 15) ≤ (((Go.bits .and .u8 x9 15) + 1) % 256) then (if (((Go.bits .and .u8 x9 15) + 1) % 256) ≤ 16 then (if 1 + ((min ((((x9 / 16) + 1) % 256) : Int).toNat 16 - ((x9 / 16) : Int).toNat)) + ((min ((((Go.bits .and .u8 x9 15) + 1) % 256) : Int).toNat 16 - ((Go.bits .and .u8 x9 15) : Int).toNat)) ≤ 9223372036854775807 then (if x7.size + (1 + ((min ((((x9 / 16) + 1) % 256) : Int).toNat 16 - ((x9 / 16) : Int).toNat)) + ((min ((((Go.bits .and .u8 x9 15) + 1) % 256) : Int).toNat 16 - ((Go.bits .and .u8 x9 15) : Int).toNat))) ≤ 9223372036854775807 then (spec_quoted.l0 k x0 x1 x2 (x7 ++ (((⟨#[37]⟩ : ByteArray) ++ ((⟨#[48, 49, 50, 51, 52, 53, 54, 55, 56, 57, 65, 66, 67, 68, 69, 70]⟩ : ByteArray).extract ((x9 / 16) : Int).toNat ((((x9 / 16) + 1) % 256) : Int).toNat)) ++ ((⟨#[48, 49, 50, 51, 52, 53, 54, 55, 56, 57, 65, 66, 67, 68, 69, 70]⟩ : ByteArray).extract ((Go.bits .and .u8 x9 15) : Int).toNat ((((Go.bits .and .u8 x9 15) + 1) % 256) : Int).toNat))) (wrap64 (x8 + 1))) else (none)) else (none)) else (none)) else (none)) else (none)) else (none)) else (none)) else (none)) else (none)))
end
def spec_quoted.f (k : Nat) (a0 : ByteArray) (a1 : ByteArray) (a2 : ByteArray) : Option (ByteArray) := spec_quoted.l0 k a0 a1 a2 (⟨#[]⟩ : ByteArray) 0
set_option maxHeartbeats 8000000 in
set_option maxRecDepth 100000 in
theorem spec_quoted.calls (k : Nat) (a0 : ByteArray) (a1 : ByteArray) (a2 : ByteArray) (r : ByteArray) (w : World) (h : spec_quoted.f k a0 a1 a2 = some r) :
    Calls Try.prog 63 #[.string a0, .string a1, .string a2] w fun e w' => e = .returned (.string r) ∧ Drawn0 w w' := by
  have H : (spec_quoted.l0 k a0 a1 a2 (⟨#[]⟩ : ByteArray) 0) = some r := h
  clear h
  have H' := Aside0.mk H
  clear H
  go_enter Try.func63, Try.ntmps63
  go_wp2
  have hw8_ := Go.Proofs.YtfbllodbcmcndaaX.wrap_u8; have hw64_ := Go.Proofs.YtfbllodbcmcndaaX.wrap_i64; repeat (go_quiet (fail); try go_wp2)
  go_loopg [7, 8] k (fun kq v7 v8 w' => ∃ (x7_1 : ByteArray) (x8_1 : Int), v7 = .string x7_1 ∧ v8 = .int .i64 x8_1 ∧ Aside0 (spec_quoted.l0 kq a0 a1 a2 x7_1 x8_1 = some r) ∧ Aside0 (kq ≤ k) ∧ Drawn0 w w')
  case atStart => exact ⟨((⟨#[]⟩ : ByteArray)), (0), (by first | rfl | (simp; done) | (simp [*]; done) | (simp [Go.Proofs.YtfbllodbcmcndaaX.isEmpty_ne]; done)), (by first | rfl | (simp; done) | (simp [*]; done) | (simp [Go.Proofs.YtfbllodbcmcndaaX.isEmpty_ne]; done)), H', ⟨Nat.le_refl _⟩, by repeat (first | exact Drawn0.refl _ | apply Drawn0.step)⟩
  case round =>
    clear H'
    try clear p2
    obtain ⟨x7_1, x8_1, rfl, rfl, HA, HK1, ⟨m1, rfl⟩⟩ := hrel
    cases gk with
    | zero => exact absurd HA.out (by simp [spec_quoted.l0])
    | succ k1 =>
      have H := HA.out
      clear HA
      simp only [spec_quoted.l0] at H
      by_cases c4 : x8_1 < (a0.size : Int)
      · rw [if_pos c4] at H
        have c4b0 : decide (x8_1 < (a0.size : Int)) = true := decide_eq_true c4
        clear c4
        by_cases c5 : 0 ≤ x8_1
        · rw [if_pos c5] at H
          have c5b0 : decide (0 ≤ x8_1) = true := decide_eq_true c5
          clear c5
          have HC7 := Aside0.mk H
          clear H
          have p6 : 0 ≤ (x8_1 : Int) := of_decide_eq_true (by first | (with_reducible assumption) | assumption)
          have q6 : x8_1 < (a0.size : Int) := of_decide_eq_true (by first | (with_reducible assumption) | assumption)
          have hx6 := bt_at a0 x8_1
          replace p6 := eq_true p6
          replace q6 := eq_true q6
          go_upto_region 7 with (fail)
          repeat (go_quiet (fail); go_upto_region 7 with (fail))
          go_cut [35] (fun v35 wc => ∃ (kq : Nat) (x35_6 : Bool), v35 = .bool x35_6 ∧ Aside0 (spec_quoted.j1 kq a0 a1 a2 x7_1 x8_1 (bt a0 x8_1) x35_6 = some r) ∧ Aside0 (kq ≤ k1) ∧ Drawn0 w wc)
          case first =>
            have H := HC7.out
            clear HC7
            replace H := Option.bind_eq_some_iff.mp H
            obtain ⟨t266, A80, H⟩ := H
            replace H : (if t266 = true then (spec_quoted.j1 k1 a0 a1 a2 x7_1 x8_1 (bt a0 x8_1) true) else ((spec_indexOf.f k1 a1 (bt a0 x8_1)).bind fun t267 => (spec_quoted.j1 k1 a0 a1 a2 x7_1 x8_1 (bt a0 x8_1) (decide (t267 ≥ 0))))) = some r := H
            have A8 := Aside0.mk A80
            clear A80
            by_cases c9 : t266 = true
            · subst c9
              have H1 : (spec_quoted.j1 k1 a0 a1 a2 x7_1 x8_1 (bt a0 x8_1) true) = some r := by rw [if_pos rfl] at H; exact H
              clear H
              have H := H1
              clear H1
              have H' := Aside0.mk H
              clear H
              go_wp2_with (first | (go_at_call 85; (with_reducible refine (spec_unreserved.calls (bt a0 x8_1) true _ A8.out).mono ?_); rintro e w' ⟨rfl, ⟨nd, rfl⟩⟩; (try first | exact ⟨rfl, _, World.drewN_drewN _ _ _⟩ | exact ⟨rfl, _, Eq.trans (World.drewN_drewN _ _ _) (congrArg (World.drewN _) (Nat.add_assoc _ _ _))⟩)))
              repeat (go_quiet (first | (go_at_call 85; (with_reducible refine (spec_unreserved.calls (bt a0 x8_1) true _ A8.out).mono ?_); rintro e w' ⟨rfl, ⟨nd, rfl⟩⟩; (try first | exact ⟨rfl, _, World.drewN_drewN _ _ _⟩ | exact ⟨rfl, _, Eq.trans (World.drewN_drewN _ _ _) (congrArg (World.drewN _) (Nat.add_assoc _ _ _))⟩))); try go_wp2_with (first | (go_at_call 85; (with_reducible refine (spec_unreserved.calls (bt a0 x8_1) true _ A8.out).mono ?_); rintro e w' ⟨rfl, ⟨nd, rfl⟩⟩; (try first | exact ⟨rfl, _, World.drewN_drewN _ _ _⟩ | exact ⟨rfl, _, Eq.trans (World.drewN_drewN _ _ _) (congrArg (World.drewN _) (Nat.add_assoc _ _ _))⟩))))
              go_meet
              case rel => exact ⟨_, (true), (by first | rfl | (simp; done) | (simp [*]; done) | (simp [Go.Proofs.YtfbllodbcmcndaaX.isEmpty_ne]; done)), H', ⟨by have := HK1.out; first | omega | exact Nat.le_refl _⟩, by repeat (first | exact Drawn0.refl _ | apply Drawn0.step)⟩
            · replace c9 := Bool.eq_false_iff.mpr c9
              subst c9
              have H1 : ((spec_indexOf.f k1 a1 (bt a0 x8_1)).bind fun t267 => (spec_quoted.j1 k1 a0 a1 a2 x7_1 x8_1 (bt a0 x8_1) (decide (t267 ≥ 0)))) = some r := by rw [if_neg (show ¬ (false = true) by decide)] at H; exact H
              clear H
              have H := H1
              clear H1
              replace H := Option.bind_eq_some_iff.mp H
              obtain ⟨t267, A100, H⟩ := H
              replace H : (spec_quoted.j1 k1 a0 a1 a2 x7_1 x8_1 (bt a0 x8_1) (decide (t267 ≥ 0))) = some r := H
              have A10 := Aside0.mk A100
              clear A100
              have H' := Aside0.mk H
              clear H
              go_wp2_with (first | (go_at_call 85; (with_reducible refine (spec_unreserved.calls (bt a0 x8_1) false _ A8.out).mono ?_); rintro e w' ⟨rfl, ⟨nd, rfl⟩⟩; (try first | exact ⟨rfl, _, World.drewN_drewN _ _ _⟩ | exact ⟨rfl, _, Eq.trans (World.drewN_drewN _ _ _) (congrArg (World.drewN _) (Nat.add_assoc _ _ _))⟩)) | (go_at_call 79; (with_reducible refine (spec_indexOf.calls k1 a1 (bt a0 x8_1) t267 _ A10.out).mono ?_); rintro e w' ⟨rfl, ⟨nd, rfl⟩⟩; (try first | exact ⟨rfl, _, World.drewN_drewN _ _ _⟩ | exact ⟨rfl, _, Eq.trans (World.drewN_drewN _ _ _) (congrArg (World.drewN _) (Nat.add_assoc _ _ _))⟩)))
              repeat (go_quiet (first | (go_at_call 85; (with_reducible refine (spec_unreserved.calls (bt a0 x8_1) false _ A8.out).mono ?_); rintro e w' ⟨rfl, ⟨nd, rfl⟩⟩; (try first | exact ⟨rfl, _, World.drewN_drewN _ _ _⟩ | exact ⟨rfl, _, Eq.trans (World.drewN_drewN _ _ _) (congrArg (World.drewN _) (Nat.add_assoc _ _ _))⟩)) | (go_at_call 79; (with_reducible refine (spec_indexOf.calls k1 a1 (bt a0 x8_1) t267 _ A10.out).mono ?_); rintro e w' ⟨rfl, ⟨nd, rfl⟩⟩; (try first | exact ⟨rfl, _, World.drewN_drewN _ _ _⟩ | exact ⟨rfl, _, Eq.trans (World.drewN_drewN _ _ _) (congrArg (World.drewN _) (Nat.add_assoc _ _ _))⟩))); try go_wp2_with (first | (go_at_call 85; (with_reducible refine (spec_unreserved.calls (bt a0 x8_1) false _ A8.out).mono ?_); rintro e w' ⟨rfl, ⟨nd, rfl⟩⟩; (try first | exact ⟨rfl, _, World.drewN_drewN _ _ _⟩ | exact ⟨rfl, _, Eq.trans (World.drewN_drewN _ _ _) (congrArg (World.drewN _) (Nat.add_assoc _ _ _))⟩)) | (go_at_call 79; (with_reducible refine (spec_indexOf.calls k1 a1 (bt a0 x8_1) t267 _ A10.out).mono ?_); rintro e w' ⟨rfl, ⟨nd, rfl⟩⟩; (try first | exact ⟨rfl, _, World.drewN_drewN _ _ _⟩ | exact ⟨rfl, _, Eq.trans (World.drewN_drewN _ _ _) (congrArg (World.drewN _) (Nat.add_assoc _ _ _))⟩))))
              go_meet
              case rel => exact ⟨_, (decide (t267 ≥ 0)), (by first | rfl | (simp; done) | (simp [*]; done) | (simp [Go.Proofs.YtfbllodbcmcndaaX.isEmpty_ne]; done)), H', ⟨by have := HK1.out; first | omega | exact Nat.le_refl _⟩, by repeat (first | exact Drawn0.refl _ | apply Drawn0.step)⟩
          case rest =>
            clear HC7
            try clear p2
            try clear c4
            try clear c4b0
            try clear c5
            try clear c5b0
            try clear c6
            try clear p6
            try clear q6
            try clear hx6
            try clear c9
            try clear p2
            try clear p6
            try clear q6
            obtain ⟨kq, x35_6, rfl, HA, HJ6, ⟨mc6, rfl⟩⟩ := hcut
            cases kq with
            | zero => exact absurd HA.out (by simp [spec_quoted.j1])
            | succ kj6 =>
              have H := HA.out
              clear HA
              simp only [spec_quoted.j1] at H
              by_cases c11 : x35_6 = true
              · subst c11
                have H1 : (if 0 ≤ x8_1 then (if x8_1 ≤ (wrap64 (x8_1 + 1)) then (if (wrap64 (x8_1 + 1)) ≤ (a0.size : Int) then (if x7_1.size + ((min ((wrap64 (x8_1 + 1)) : Int).toNat a0.size - (x8_1 : Int).toNat)) ≤ 9223372036854775807 then (spec_quoted.l0 kj6 a0 a1 a2 (x7_1 ++ (a0.extract (x8_1 : Int).toNat ((wrap64 (x8_1 + 1)) : Int).toNat)) (wrap64 (x8_1 + 1))) else (none)) else (none)) else (none)) else (none)) = some r := by rw [if_pos rfl] at H; exact H
                clear H
                have H := H1
                clear H1
                by_cases c12 : 0 ≤ x8_1
                · rw [if_pos c12] at H
                  have c12b0 := eq_true c12
                  have c12b1 : decide (0 ≤ x8_1) = true := decide_eq_true c12
                  clear c12
                  by_cases c13 : x8_1 ≤ (wrap64 (x8_1 + 1))
                  · rw [if_pos c13] at H
                    have c13b0 := eq_true c13
                    have c13b1 : decide (x8_1 ≤ (wrap64 (x8_1 + 1))) = true := decide_eq_true c13
                    by_cases c14 : (wrap64 (x8_1 + 1)) ≤ (a0.size : Int)
                    · rw [if_pos c14] at H
                      have c14b0 := eq_true c14
                      have c14b1 : decide ((wrap64 (x8_1 + 1)) ≤ (a0.size : Int)) = true := decide_eq_true c14
                      by_cases c15 : x7_1.size + ((min ((wrap64 (x8_1 + 1)) : Int).toNat a0.size - (x8_1 : Int).toNat)) ≤ 9223372036854775807
                      · rw [if_pos c15] at H
                        have c15b0 := eq_true c15
                        have c15b1 : decide (x7_1.size + ((min ((wrap64 (x8_1 + 1)) : Int).toNat a0.size - (x8_1 : Int).toNat)) ≤ 9223372036854775807) = true := decide_eq_true c15
                        try have c15b2 : (9223372036854775807 < x7_1.size + ((min ((wrap64 (x8_1 + 1)) : Int).toNat a0.size - (x8_1 : Int).toNat))) = False := eq_false (Nat.not_lt.2 c15)
                        have H' := Aside0.mk H
                        clear H
                        go_wp2
                        have hw8_ := Go.Proofs.YtfbllodbcmcndaaX.wrap_u8; have hw64_ := Go.Proofs.YtfbllodbcmcndaaX.wrap_i64; repeat (go_quiet (fail); try go_wp2)
                        any_goals (try (exfalso; have zc4b0 := of_decide_eq_true c4b0; have zc5b0 := of_decide_eq_true c5b0; have zc12b1 := of_decide_eq_true c12b1; have zc13b1 := of_decide_eq_true c13b1; have zc14b1 := of_decide_eq_true c14b1; have zc15b1 := of_decide_eq_true c15b1; omega))
                        go_roundg kj6
                        case measure => have := HK1.out; have := HJ6.out; omega
                        case rel => exact ⟨(x7_1 ++ (a0.extract (x8_1 : Int).toNat ((wrap64 (x8_1 + 1)) : Int).toNat)), (wrap64 (x8_1 + 1)), (by first | rfl | (simp; done) | (simp [*]; done) | (simp [Go.Proofs.YtfbllodbcmcndaaX.isEmpty_ne]; done)), (by first | rfl | (simp; done) | (simp [*]; done) | (simp [Go.Proofs.YtfbllodbcmcndaaX.isEmpty_ne]; done)), H', ⟨by have := HK1.out; have := HJ6.out; omega⟩, by repeat (first | exact Drawn0.refl _ | apply Drawn0.step)⟩
                      · rw [if_neg c15] at H
                        exact absurd H (by simp)
                    · rw [if_neg c14] at H
                      exact absurd H (by simp)
                  · rw [if_neg c13] at H
                    exact absurd H (by simp)
                · rw [if_neg c12] at H
                  exact absurd H (by simp)
              · replace c11 := Bool.eq_false_iff.mpr c11
                subst c11
                have H1 : (if (bt a0 x8_1) = 32 then (if a2.toList = ([] : List UInt8) then (if 0 ≤ ((bt a0 x8_1) / 16) then (if ((bt a0 x8_1) / 16) ≤ ((((bt a0 x8_1) / 16) + 1) % 256) then (if ((((bt a0 x8_1) / 16) + 1) % 256) ≤ 16 then (if 1 + ((min (((((bt a0 x8_1) / 16) + 1) % 256) : Int).toNat 16 - (((bt a0 x8_1) / 16) : Int).toNat)) ≤ 9223372036854775807 then (if 0 ≤ (Go.bits .and .u8 (bt a0 x8_1) 15) then (if (Go.bits .and .u8 (bt a0 x8_1) 15) ≤ (((Go.bits .and .u8 (bt a0 x8_1) 15) + 1) % 256) then (if (((Go.bits .and .u8 (bt a0 x8_1) 15) + 1) % 256) ≤ 16 then (if 1 + ((min (((((bt a0 x8_1) / 16) + 1) % 256) : Int).toNat 16 - (((bt a0 x8_1) / 16) : Int).toNat)) + ((min ((((Go.bits .and .u8 (bt a0 x8_1) 15) + 1) % 256) : Int).toNat 16 - ((Go.bits .and .u8 (bt a0 x8_1) 15) : Int).toNat)) ≤ 9223372036854775807 then (if x7_1.size + (1 + ((min (((((bt a0 x8_1) / 16) + 1) % 256) : Int).toNat 16 - (((bt a0 x8_1) / 16) : Int).toNat)) + ((min ((((Go.bits .and .u8 (bt a0 x8_1) 15) + 1) % 256) : Int).toNat 16 - ((Go.bits .and .u8 (bt a0 x8_1) 15) : Int).toNat))) ≤ 9223372036854775807 then (spec_quoted.l0 kj6 a0 a1 a2 (x7_1 ++ (((⟨#[37]⟩ : ByteArray) ++ ((⟨#[48, 49, 50, 51, 52, 53, 54, 55, 56, 57, 65, 66, 67, 68, 69, 70]⟩ : ByteArray).extract (((bt a0 x8_1) / 16) : Int).toNat (((((bt a0 x8_1) / 16) + 1) % 256) : Int).toNat)) ++ ((⟨#[48, 49, 50, 51, 52, 53, 54, 55, 56, 57, 65, 66, 67, 68, 69, 70]⟩ : ByteArray).extract ((Go.bits .and .u8 (bt a0 x8_1) 15) : Int).toNat ((((Go.bits .and .u8 (bt a0 x8_1) 15) + 1) % 256) : Int).toNat))) (wrap64 (x8_1 + 1))) else (none)) else (none)) else (none)) else (none)) else (none)) else (none)) else (none)) else (none)) else (none)) else (if x7_1.size + a2.size ≤ 9223372036854775807 then (spec_quoted.l0 kj6 a0 a1 a2 (x7_1 ++ a2) (wrap64 (x8_1 + 1))) else (none))) else (if 0 ≤ ((bt a0 x8_1) / 16) then (if ((bt a0 x8_1) / 16) ≤ ((((bt a0 x8_1) / 16) + 1) % 256) then (if ((((bt a0 x8_1) / 16) + 1) % 256) ≤ 16 then (if 1 + ((min (((((bt a0 x8_1) / 16) + 1) % 256) : Int).toNat 16 - (((bt a0 x8_1) / 16) : Int).toNat)) ≤ 9223372036854775807 then (if 0 ≤ (Go.bits .and .u8 (bt a0 x8_1) 15) then (if (Go.bits .and .u8 (bt a0 x8_1) 15) ≤ (((Go.bits .and .u8 (bt a0 x8_1) 15) + 1) % 256) then (if (((Go.bits .and .u8 (bt a0 x8_1) 15) + 1) % 256) ≤ 16 then (if 1 + ((min (((((bt a0 x8_1) / 16) + 1) % 256) : Int).toNat 16 - (((bt a0 x8_1) / 16) : Int).toNat)) + ((min ((((Go.bits .and .u8 (bt a0 x8_1) 15) + 1) % 256) : Int).toNat 16 - ((Go.bits .and .u8 (bt a0 x8_1) 15) : Int).toNat)) ≤ 9223372036854775807 then (if x7_1.size + (1 + ((min (((((bt a0 x8_1) / 16) + 1) % 256) : Int).toNat 16 - (((bt a0 x8_1) / 16) : Int).toNat)) + ((min ((((Go.bits .and .u8 (bt a0 x8_1) 15) + 1) % 256) : Int).toNat 16 - ((Go.bits .and .u8 (bt a0 x8_1) 15) : Int).toNat))) ≤ 9223372036854775807 then (spec_quoted.l0 kj6 a0 a1 a2 (x7_1 ++ (((⟨#[37]⟩ : ByteArray) ++ ((⟨#[48, 49, 50, 51, 52, 53, 54, 55, 56, 57, 65, 66, 67, 68, 69, 70]⟩ : ByteArray).extract (((bt a0 x8_1) / 16) : Int).toNat (((((bt a0 x8_1) / 16) + 1) % 256) : Int).toNat)) ++ ((⟨#[48, 49, 50, 51, 52, 53, 54, 55, 56, 57, 65, 66, 67, 68, 69, 70]⟩ : ByteArray).extract ((Go.bits .and .u8 (bt a0 x8_1) 15) : Int).toNat ((((Go.bits .and .u8 (bt a0 x8_1) 15) + 1) % 256) : Int).toNat))) (wrap64 (x8_1 + 1))) else (none)) else (none)) else (none)) else (none)) else (none)) else (none)) else (none)) else (none)) else (none))) = some r := by rw [if_neg (show ¬ (false = true) by decide)] at H; exact H
                clear H
                have H := H1
                clear H1
                by_cases c16 : (bt a0 x8_1) = 32
                · rw [if_pos c16] at H
                  have c16b0 : ((bt a0 x8_1) == 32) = true := beq_iff_eq.mpr c16
                  have c16b1 : ((bt a0 x8_1) != 32) = false := bne_eq_false_iff_eq.mpr c16
                  clear c16
                  by_cases c17 : a2.toList = ([] : List UInt8)
                  · rw [if_pos c17] at H
                    have c17b0 : (a2.toList == ([] : List UInt8)) = true := beq_iff_eq.mpr c17
                    have c17b1 : (a2.toList != ([] : List UInt8)) = false := bne_eq_false_iff_eq.mpr c17
                    clear c17
                    obtain ⟨ji18, hji18⟩ : ∃ j_ : Int, ((bt a0 x8_1) / 16) = j_ := ⟨_, rfl⟩
                    replace H : (if 0 ≤ (ji18) then (if (ji18) ≤ (((ji18) + 1) % 256) then (if (((ji18) + 1) % 256) ≤ 16 then (if 1 + ((min ((((ji18) + 1) % 256) : Int).toNat 16 - ((ji18) : Int).toNat)) ≤ 9223372036854775807 then (if 0 ≤ (Go.bits .and .u8 (bt a0 x8_1) 15) then (if (Go.bits .and .u8 (bt a0 x8_1) 15) ≤ (((Go.bits .and .u8 (bt a0 x8_1) 15) + 1) % 256) then (if (((Go.bits .and .u8 (bt a0 x8_1) 15) + 1) % 256) ≤ 16 then (if 1 + ((min ((((ji18) + 1) % 256) : Int).toNat 16 - ((ji18) : Int).toNat)) + ((min ((((Go.bits .and .u8 (bt a0 x8_1) 15) + 1) % 256) : Int).toNat 16 - ((Go.bits .and .u8 (bt a0 x8_1) 15) : Int).toNat)) ≤ 9223372036854775807 then (if x7_1.size + (1 + ((min ((((ji18) + 1) % 256) : Int).toNat 16 - ((ji18) : Int).toNat)) + ((min ((((Go.bits .and .u8 (bt a0 x8_1) 15) + 1) % 256) : Int).toNat 16 - ((Go.bits .and .u8 (bt a0 x8_1) 15) : Int).toNat))) ≤ 9223372036854775807 then (spec_quoted.l0 kj6 a0 a1 a2 (x7_1 ++ (((⟨#[37]⟩ : ByteArray) ++ ((⟨#[48, 49, 50, 51, 52, 53, 54, 55, 56, 57, 65, 66, 67, 68, 69, 70]⟩ : ByteArray).extract ((ji18) : Int).toNat ((((ji18) + 1) % 256) : Int).toNat)) ++ ((⟨#[48, 49, 50, 51, 52, 53, 54, 55, 56, 57, 65, 66, 67, 68, 69, 70]⟩ : ByteArray).extract ((Go.bits .and .u8 (bt a0 x8_1) 15) : Int).toNat ((((Go.bits .and .u8 (bt a0 x8_1) 15) + 1) % 256) : Int).toNat))) (wrap64 (x8_1 + 1))) else (none)) else (none)) else (none)) else (none)) else (none)) else (none)) else (none)) else (none)) else (none)) = some r := by first | (rw [hji18] at H; exact H) | (simp only [hji18] at H ⊢; exact H)
                    by_cases c19 : 0 ≤ (ji18)
                    · rw [if_pos c19] at H
                      have c19b0 := eq_true c19
                      have c19b1 : decide (0 ≤ (ji18)) = true := decide_eq_true c19
                      clear c19
                      by_cases c20 : (ji18) ≤ (((ji18) + 1) % 256)
                      · rw [if_pos c20] at H
                        have c20b0 := eq_true c20
                        have c20b1 : decide ((ji18) ≤ (((ji18) + 1) % 256)) = true := decide_eq_true c20
                        by_cases c21 : (((ji18) + 1) % 256) ≤ 16
                        · rw [if_pos c21] at H
                          have c21b0 := eq_true c21
                          have c21b1 : decide ((((ji18) + 1) % 256) ≤ 16) = true := decide_eq_true c21
                          by_cases c22 : 1 + ((min ((((ji18) + 1) % 256) : Int).toNat 16 - ((ji18) : Int).toNat)) ≤ 9223372036854775807
                          · rw [if_pos c22] at H
                            have c22b0 := eq_true c22
                            have c22b1 : decide (1 + ((min ((((ji18) + 1) % 256) : Int).toNat 16 - ((ji18) : Int).toNat)) ≤ 9223372036854775807) = true := decide_eq_true c22
                            try have c22b2 : (9223372036854775807 < 1 + ((min ((((ji18) + 1) % 256) : Int).toNat 16 - ((ji18) : Int).toNat))) = False := eq_false (Nat.not_lt.2 c22)
                            by_cases c23 : 0 ≤ (Go.bits .and .u8 (bt a0 x8_1) 15)
                            · rw [if_pos c23] at H
                              have c23b0 := eq_true c23
                              have c23b1 : decide (0 ≤ (Go.bits .and .u8 (bt a0 x8_1) 15)) = true := decide_eq_true c23
                              clear c23
                              by_cases c24 : (Go.bits .and .u8 (bt a0 x8_1) 15) ≤ (((Go.bits .and .u8 (bt a0 x8_1) 15) + 1) % 256)
                              · rw [if_pos c24] at H
                                have c24b0 := eq_true c24
                                have c24b1 : decide ((Go.bits .and .u8 (bt a0 x8_1) 15) ≤ (((Go.bits .and .u8 (bt a0 x8_1) 15) + 1) % 256)) = true := decide_eq_true c24
                                by_cases c25 : (((Go.bits .and .u8 (bt a0 x8_1) 15) + 1) % 256) ≤ 16
                                · rw [if_pos c25] at H
                                  have c25b0 := eq_true c25
                                  have c25b1 : decide ((((Go.bits .and .u8 (bt a0 x8_1) 15) + 1) % 256) ≤ 16) = true := decide_eq_true c25
                                  by_cases c26 : 1 + ((min ((((ji18) + 1) % 256) : Int).toNat 16 - ((ji18) : Int).toNat)) + ((min ((((Go.bits .and .u8 (bt a0 x8_1) 15) + 1) % 256) : Int).toNat 16 - ((Go.bits .and .u8 (bt a0 x8_1) 15) : Int).toNat)) ≤ 9223372036854775807
                                  · rw [if_pos c26] at H
                                    have c26b0 := eq_true c26
                                    have c26b1 : decide (1 + ((min ((((ji18) + 1) % 256) : Int).toNat 16 - ((ji18) : Int).toNat)) + ((min ((((Go.bits .and .u8 (bt a0 x8_1) 15) + 1) % 256) : Int).toNat 16 - ((Go.bits .and .u8 (bt a0 x8_1) 15) : Int).toNat)) ≤ 9223372036854775807) = true := decide_eq_true c26
                                    try have c26b2 : (9223372036854775807 < 1 + ((min ((((ji18) + 1) % 256) : Int).toNat 16 - ((ji18) : Int).toNat)) + ((min ((((Go.bits .and .u8 (bt a0 x8_1) 15) + 1) % 256) : Int).toNat 16 - ((Go.bits .and .u8 (bt a0 x8_1) 15) : Int).toNat))) = False := eq_false (Nat.not_lt.2 c26)
                                    by_cases c27 : x7_1.size + (1 + ((min ((((ji18) + 1) % 256) : Int).toNat 16 - ((ji18) : Int).toNat)) + ((min ((((Go.bits .and .u8 (bt a0 x8_1) 15) + 1) % 256) : Int).toNat 16 - ((Go.bits .and .u8 (bt a0 x8_1) 15) : Int).toNat))) ≤ 9223372036854775807
                                    · rw [if_pos c27] at H
                                      have c27b0 := eq_true c27
                                      have c27b1 : decide (x7_1.size + (1 + ((min ((((ji18) + 1) % 256) : Int).toNat 16 - ((ji18) : Int).toNat)) + ((min ((((Go.bits .and .u8 (bt a0 x8_1) 15) + 1) % 256) : Int).toNat 16 - ((Go.bits .and .u8 (bt a0 x8_1) 15) : Int).toNat))) ≤ 9223372036854775807) = true := decide_eq_true c27
                                      try have c27b2 : (9223372036854775807 < x7_1.size + (1 + ((min ((((ji18) + 1) % 256) : Int).toNat 16 - ((ji18) : Int).toNat)) + ((min ((((Go.bits .and .u8 (bt a0 x8_1) 15) + 1) % 256) : Int).toNat 16 - ((Go.bits .and .u8 (bt a0 x8_1) 15) : Int).toNat)))) = False := eq_false (Nat.not_lt.2 c27)
                                      have H' := Aside0.mk H
                                      clear H
                                      go_wp2
                                      have hw8_ := Go.Proofs.YtfbllodbcmcndaaX.wrap_u8; have hw64_ := Go.Proofs.YtfbllodbcmcndaaX.wrap_i64; repeat (go_quiet (fail); try go_wp2)
                                      any_goals (try (exfalso; have zc4b0 := of_decide_eq_true c4b0; have zc5b0 := of_decide_eq_true c5b0; have zc19b1 := of_decide_eq_true c19b1; have zc20b1 := of_decide_eq_true c20b1; have zc21b1 := of_decide_eq_true c21b1; have zc22b1 := of_decide_eq_true c22b1; have zc23b1 := of_decide_eq_true c23b1; have zc24b1 := of_decide_eq_true c24b1; have zc25b1 := of_decide_eq_true c25b1; have zc26b1 := of_decide_eq_true c26b1; have zc27b1 := of_decide_eq_true c27b1; omega))
                                      go_roundg kj6
                                      case measure => have := HK1.out; have := HJ6.out; omega
                                      case rel => exact ⟨(x7_1 ++ (((⟨#[37]⟩ : ByteArray) ++ ((⟨#[48, 49, 50, 51, 52, 53, 54, 55, 56, 57, 65, 66, 67, 68, 69, 70]⟩ : ByteArray).extract ((ji18) : Int).toNat ((((ji18) + 1) % 256) : Int).toNat)) ++ ((⟨#[48, 49, 50, 51, 52, 53, 54, 55, 56, 57, 65, 66, 67, 68, 69, 70]⟩ : ByteArray).extract ((Go.bits .and .u8 (bt a0 x8_1) 15) : Int).toNat ((((Go.bits .and .u8 (bt a0 x8_1) 15) + 1) % 256) : Int).toNat))), (wrap64 (x8_1 + 1)), (by first | rfl | (simp; done) | (simp only [← hji18] <;> (first | rfl | simp)) | (simp [*]; done) | (simp [Go.Proofs.YtfbllodbcmcndaaX.isEmpty_ne]; done)), (by first | rfl | (simp; done) | (simp [*]; done) | (simp [Go.Proofs.YtfbllodbcmcndaaX.isEmpty_ne]; done)), H', ⟨by have := HK1.out; have := HJ6.out; omega⟩, by repeat (first | exact Drawn0.refl _ | apply Drawn0.step)⟩
                                    · rw [if_neg c27] at H
                                      exact absurd H (by simp)
                                  · rw [if_neg c26] at H
                                    exact absurd H (by simp)
                                · rw [if_neg c25] at H
                                  exact absurd H (by simp)
                              · rw [if_neg c24] at H
                                exact absurd H (by simp)
                            · rw [if_neg c23] at H
                              exact absurd H (by simp)
                          · rw [if_neg c22] at H
                            exact absurd H (by simp)
                        · rw [if_neg c21] at H
                          exact absurd H (by simp)
                      · rw [if_neg c20] at H
                        exact absurd H (by simp)
                    · rw [if_neg c19] at H
                      exact absurd H (by simp)
                  · rw [if_neg c17] at H
                    have c17b0 : (a2.toList == ([] : List UInt8)) = false := beq_eq_false_iff_ne.mpr c17
                    have c17b1 : (a2.toList != ([] : List UInt8)) = true := bne_iff_ne.mpr c17
                    by_cases c28 : x7_1.size + a2.size ≤ 9223372036854775807
                    · rw [if_pos c28] at H
                      have c28b0 := eq_true c28
                      have c28b1 : decide (x7_1.size + a2.size ≤ 9223372036854775807) = true := decide_eq_true c28
                      try have c28b2 : (9223372036854775807 < x7_1.size + a2.size) = False := eq_false (Nat.not_lt.2 c28)
                      have H' := Aside0.mk H
                      clear H
                      go_wp2
                      have hw8_ := Go.Proofs.YtfbllodbcmcndaaX.wrap_u8; have hw64_ := Go.Proofs.YtfbllodbcmcndaaX.wrap_i64; repeat (go_quiet (fail); try go_wp2)
                      any_goals (try (exfalso; have zc4b0 := of_decide_eq_true c4b0; have zc5b0 := of_decide_eq_true c5b0; have zc28b1 := of_decide_eq_true c28b1; omega))
                      go_roundg kj6
                      case measure => have := HK1.out; have := HJ6.out; omega
                      case rel => exact ⟨(x7_1 ++ a2), (wrap64 (x8_1 + 1)), (by first | rfl | (simp; done) | (simp [*]; done) | (simp [Go.Proofs.YtfbllodbcmcndaaX.isEmpty_ne]; done)), (by first | rfl | (simp; done) | (simp [*]; done) | (simp [Go.Proofs.YtfbllodbcmcndaaX.isEmpty_ne]; done)), H', ⟨by have := HK1.out; have := HJ6.out; omega⟩, by repeat (first | exact Drawn0.refl _ | apply Drawn0.step)⟩
                    · rw [if_neg c28] at H
                      exact absurd H (by simp)
                · rw [if_neg c16] at H
                  have c16b0 : ((bt a0 x8_1) == 32) = false := beq_eq_false_iff_ne.mpr c16
                  have c16b1 : ((bt a0 x8_1) != 32) = true := bne_iff_ne.mpr c16
                  obtain ⟨ji29, hji29⟩ : ∃ j_ : Int, ((bt a0 x8_1) / 16) = j_ := ⟨_, rfl⟩
                  replace H : (if 0 ≤ (ji29) then (if (ji29) ≤ (((ji29) + 1) % 256) then (if (((ji29) + 1) % 256) ≤ 16 then (if 1 + ((min ((((ji29) + 1) % 256) : Int).toNat 16 - ((ji29) : Int).toNat)) ≤ 9223372036854775807 then (if 0 ≤ (Go.bits .and .u8 (bt a0 x8_1) 15) then (if (Go.bits .and .u8 (bt a0 x8_1) 15) ≤ (((Go.bits .and .u8 (bt a0 x8_1) 15) + 1) % 256) then (if (((Go.bits .and .u8 (bt a0 x8_1) 15) + 1) % 256) ≤ 16 then (if 1 + ((min ((((ji29) + 1) % 256) : Int).toNat 16 - ((ji29) : Int).toNat)) + ((min ((((Go.bits .and .u8 (bt a0 x8_1) 15) + 1) % 256) : Int).toNat 16 - ((Go.bits .and .u8 (bt a0 x8_1) 15) : Int).toNat)) ≤ 9223372036854775807 then (if x7_1.size + (1 + ((min ((((ji29) + 1) % 256) : Int).toNat 16 - ((ji29) : Int).toNat)) + ((min ((((Go.bits .and .u8 (bt a0 x8_1) 15) + 1) % 256) : Int).toNat 16 - ((Go.bits .and .u8 (bt a0 x8_1) 15) : Int).toNat))) ≤ 9223372036854775807 then (spec_quoted.l0 kj6 a0 a1 a2 (x7_1 ++ (((⟨#[37]⟩ : ByteArray) ++ ((⟨#[48, 49, 50, 51, 52, 53, 54, 55, 56, 57, 65, 66, 67, 68, 69, 70]⟩ : ByteArray).extract ((ji29) : Int).toNat ((((ji29) + 1) % 256) : Int).toNat)) ++ ((⟨#[48, 49, 50, 51, 52, 53, 54, 55, 56, 57, 65, 66, 67, 68, 69, 70]⟩ : ByteArray).extract ((Go.bits .and .u8 (bt a0 x8_1) 15) : Int).toNat ((((Go.bits .and .u8 (bt a0 x8_1) 15) + 1) % 256) : Int).toNat))) (wrap64 (x8_1 + 1))) else (none)) else (none)) else (none)) else (none)) else (none)) else (none)) else (none)) else (none)) else (none)) = some r := by first | (rw [hji29] at H; exact H) | (simp only [hji29] at H ⊢; exact H)
                  by_cases c30 : 0 ≤ (ji29)
                  · rw [if_pos c30] at H
                    have c30b0 := eq_true c30
                    have c30b1 : decide (0 ≤ (ji29)) = true := decide_eq_true c30
                    clear c30
                    by_cases c31 : (ji29) ≤ (((ji29) + 1) % 256)
                    · rw [if_pos c31] at H
                      have c31b0 := eq_true c31
                      have c31b1 : decide ((ji29) ≤ (((ji29) + 1) % 256)) = true := decide_eq_true c31
                      by_cases c32 : (((ji29) + 1) % 256) ≤ 16
                      · rw [if_pos c32] at H
                        have c32b0 := eq_true c32
                        have c32b1 : decide ((((ji29) + 1) % 256) ≤ 16) = true := decide_eq_true c32
                        by_cases c33 : 1 + ((min ((((ji29) + 1) % 256) : Int).toNat 16 - ((ji29) : Int).toNat)) ≤ 9223372036854775807
                        · rw [if_pos c33] at H
                          have c33b0 := eq_true c33
                          have c33b1 : decide (1 + ((min ((((ji29) + 1) % 256) : Int).toNat 16 - ((ji29) : Int).toNat)) ≤ 9223372036854775807) = true := decide_eq_true c33
                          try have c33b2 : (9223372036854775807 < 1 + ((min ((((ji29) + 1) % 256) : Int).toNat 16 - ((ji29) : Int).toNat))) = False := eq_false (Nat.not_lt.2 c33)
                          by_cases c34 : 0 ≤ (Go.bits .and .u8 (bt a0 x8_1) 15)
                          · rw [if_pos c34] at H
                            have c34b0 := eq_true c34
                            have c34b1 : decide (0 ≤ (Go.bits .and .u8 (bt a0 x8_1) 15)) = true := decide_eq_true c34
                            clear c34
                            by_cases c35 : (Go.bits .and .u8 (bt a0 x8_1) 15) ≤ (((Go.bits .and .u8 (bt a0 x8_1) 15) + 1) % 256)
                            · rw [if_pos c35] at H
                              have c35b0 := eq_true c35
                              have c35b1 : decide ((Go.bits .and .u8 (bt a0 x8_1) 15) ≤ (((Go.bits .and .u8 (bt a0 x8_1) 15) + 1) % 256)) = true := decide_eq_true c35
                              by_cases c36 : (((Go.bits .and .u8 (bt a0 x8_1) 15) + 1) % 256) ≤ 16
                              · rw [if_pos c36] at H
                                have c36b0 := eq_true c36
                                have c36b1 : decide ((((Go.bits .and .u8 (bt a0 x8_1) 15) + 1) % 256) ≤ 16) = true := decide_eq_true c36
                                by_cases c37 : 1 + ((min ((((ji29) + 1) % 256) : Int).toNat 16 - ((ji29) : Int).toNat)) + ((min ((((Go.bits .and .u8 (bt a0 x8_1) 15) + 1) % 256) : Int).toNat 16 - ((Go.bits .and .u8 (bt a0 x8_1) 15) : Int).toNat)) ≤ 9223372036854775807
                                · rw [if_pos c37] at H
                                  have c37b0 := eq_true c37
                                  have c37b1 : decide (1 + ((min ((((ji29) + 1) % 256) : Int).toNat 16 - ((ji29) : Int).toNat)) + ((min ((((Go.bits .and .u8 (bt a0 x8_1) 15) + 1) % 256) : Int).toNat 16 - ((Go.bits .and .u8 (bt a0 x8_1) 15) : Int).toNat)) ≤ 9223372036854775807) = true := decide_eq_true c37
                                  try have c37b2 : (9223372036854775807 < 1 + ((min ((((ji29) + 1) % 256) : Int).toNat 16 - ((ji29) : Int).toNat)) + ((min ((((Go.bits .and .u8 (bt a0 x8_1) 15) + 1) % 256) : Int).toNat 16 - ((Go.bits .and .u8 (bt a0 x8_1) 15) : Int).toNat))) = False := eq_false (Nat.not_lt.2 c37)
                                  by_cases c38 : x7_1.size + (1 + ((min ((((ji29) + 1) % 256) : Int).toNat 16 - ((ji29) : Int).toNat)) + ((min ((((Go.bits .and .u8 (bt a0 x8_1) 15) + 1) % 256) : Int).toNat 16 - ((Go.bits .and .u8 (bt a0 x8_1) 15) : Int).toNat))) ≤ 9223372036854775807
                                  · rw [if_pos c38] at H
                                    have c38b0 := eq_true c38
                                    have c38b1 : decide (x7_1.size + (1 + ((min ((((ji29) + 1) % 256) : Int).toNat 16 - ((ji29) : Int).toNat)) + ((min ((((Go.bits .and .u8 (bt a0 x8_1) 15) + 1) % 256) : Int).toNat 16 - ((Go.bits .and .u8 (bt a0 x8_1) 15) : Int).toNat))) ≤ 9223372036854775807) = true := decide_eq_true c38
                                    try have c38b2 : (9223372036854775807 < x7_1.size + (1 + ((min ((((ji29) + 1) % 256) : Int).toNat 16 - ((ji29) : Int).toNat)) + ((min ((((Go.bits .and .u8 (bt a0 x8_1) 15) + 1) % 256) : Int).toNat 16 - ((Go.bits .and .u8 (bt a0 x8_1) 15) : Int).toNat)))) = False := eq_false (Nat.not_lt.2 c38)
                                    have H' := Aside0.mk H
                                    clear H
                                    go_wp2
                                    have hw8_ := Go.Proofs.YtfbllodbcmcndaaX.wrap_u8; have hw64_ := Go.Proofs.YtfbllodbcmcndaaX.wrap_i64; repeat (go_quiet (fail); try go_wp2)
                                    any_goals (try (exfalso; have zc4b0 := of_decide_eq_true c4b0; have zc5b0 := of_decide_eq_true c5b0; have zc30b1 := of_decide_eq_true c30b1; have zc31b1 := of_decide_eq_true c31b1; have zc32b1 := of_decide_eq_true c32b1; have zc33b1 := of_decide_eq_true c33b1; have zc34b1 := of_decide_eq_true c34b1; have zc35b1 := of_decide_eq_true c35b1; have zc36b1 := of_decide_eq_true c36b1; have zc37b1 := of_decide_eq_true c37b1; have zc38b1 := of_decide_eq_true c38b1; omega))
                                    go_roundg kj6
                                    case measure => have := HK1.out; have := HJ6.out; omega
                                    case rel => exact ⟨(x7_1 ++ (((⟨#[37]⟩ : ByteArray) ++ ((⟨#[48, 49, 50, 51, 52, 53, 54, 55, 56, 57, 65, 66, 67, 68, 69, 70]⟩ : ByteArray).extract ((ji29) : Int).toNat ((((ji29) + 1) % 256) : Int).toNat)) ++ ((⟨#[48, 49, 50, 51, 52, 53, 54, 55, 56, 57, 65, 66, 67, 68, 69, 70]⟩ : ByteArray).extract ((Go.bits .and .u8 (bt a0 x8_1) 15) : Int).toNat ((((Go.bits .and .u8 (bt a0 x8_1) 15) + 1) % 256) : Int).toNat))), (wrap64 (x8_1 + 1)), (by first | rfl | (simp; done) | (simp only [← hji29] <;> (first | rfl | simp)) | (simp [*]; done) | (simp [Go.Proofs.YtfbllodbcmcndaaX.isEmpty_ne]; done)), (by first | rfl | (simp; done) | (simp [*]; done) | (simp [Go.Proofs.YtfbllodbcmcndaaX.isEmpty_ne]; done)), H', ⟨by have := HK1.out; have := HJ6.out; omega⟩, by repeat (first | exact Drawn0.refl _ | apply Drawn0.step)⟩
                                  · rw [if_neg c38] at H
                                    exact absurd H (by simp)
                                · rw [if_neg c37] at H
                                  exact absurd H (by simp)
                              · rw [if_neg c36] at H
                                exact absurd H (by simp)
                            · rw [if_neg c35] at H
                              exact absurd H (by simp)
                          · rw [if_neg c34] at H
                            exact absurd H (by simp)
                        · rw [if_neg c33] at H
                          exact absurd H (by simp)
                      · rw [if_neg c32] at H
                        exact absurd H (by simp)
                    · rw [if_neg c31] at H
                      exact absurd H (by simp)
                  · rw [if_neg c30] at H
                    exact absurd H (by simp)
        · rw [if_neg c5] at H
          exact absurd H (by simp)
      · rw [if_neg c4] at H
        have c4b0 : decide (x8_1 < (a0.size : Int)) = false := decide_eq_false c4
        clear c4
        obtain rfl := Option.some.inj H
        go_wp2
        have hw8_ := Go.Proofs.YtfbllodbcmcndaaX.wrap_u8; have hw64_ := Go.Proofs.YtfbllodbcmcndaaX.wrap_i64; repeat (go_quiet (fail); try go_wp2)
        go_ret
        exact ⟨by first | rfl | (simp; done) | (simp [*]; done) | (simp [Go.Proofs.YtfbllodbcmcndaaX.isEmpty_ne]; done), by repeat (first | exact Drawn0.refl _ | apply Drawn0.step)⟩
end Go.Proofs.Ytfbllodbcmcndaa.Q
end
section
namespace Go.Proofs.Ytfbllodbcmcndaa.Q
open Go.RowKit Go.Proofs.YtfbllodbcmcndaaW.PrintWords Go.Proofs.YtfbllodbcmcndaaW.PrintLast Go.Proofs.YtfbllodbcmcndaaW.PrintMore
attribute [local go_sem] max2_int min2_int max_two min_two max_three min_three max_four min_four
set_option linter.unusedVariables false
set_option linter.unusedSimpArgs false
def spec_decimal.f : Nat → Int → Option (ByteArray)
  | 0, _ => none
  | k + 1, a0 => if a0 < 10 then (some (strOfNums (([(wrap64 (48 + (Int.tmod a0 10))) % 256] : List Int)))) else ((spec_decimal.f k (wrap64 (Int.tdiv a0 10))).bind fun t271 => ((some (([(wrap64 (48 + (Int.tmod a0 10))) % 256] : List Int) : List Int)).bind fun y272 => (if t271.size + (strOfNums y272).size ≤ 9223372036854775807 then (some (t271 ++ (strOfNums y272))) else (none))))
def spec_decimal.T3 : Bool × List (List Nat × List Nat) := (true, [([], []), ([0], [0]), ([1], [1]), ([], []), ([3], [3]), ([4], [4]), ([5], [5]), ([6], [6]), ([7], [7]), ([2, 8], [2, 8]), ([9, 2, 0, 1, 2, 3, 4, 5, 6, 7, 8, 9], [9])])
def spec_decimal.B3 : List Nat := [0, 1, 3, 0, 8, 24, 56, 120, 248, 511, 1023]
theorem spec_decimal.tab3 : rtab .any (opsOf Try.f64 3) = spec_decimal.T3 := by kernel_rfl
theorem spec_decimal.bits3 : waitsOk spec_decimal.T3.2 spec_decimal.B3 = true := by kernel_rfl
set_option maxHeartbeats 8000000 in
set_option maxRecDepth 100000 in
theorem spec_decimal.calls (k : Nat) : ∀ (a0 : Int) (r : ByteArray) (w : World) (h : spec_decimal.f k a0 = some r),
    Calls Try.prog 64 #[.int .i64 a0] w fun e w' => e = .returned (.string r) ∧ Below w.heap.size w w' := by
  induction k using Nat.strongRecOn with
  | _ k ih =>
  intro a0 r w h
  cases k with
  | zero => exact absurd h (by simp [spec_decimal.f])
  | succ k =>
  simp only [spec_decimal.f] at h
  have HB := Aside0.mk (Below.refl w.heap.size w)
  have H : (if a0 < 10 then (some (strOfNums (([(wrap64 (48 + (Int.tmod a0 10))) % 256] : List Int)))) else ((spec_decimal.f k (wrap64 (Int.tdiv a0 10))).bind fun t271 => ((some (([(wrap64 (48 + (Int.tmod a0 10))) % 256] : List Int) : List Int)).bind fun y272 => (if t271.size + (strOfNums y272).size ≤ 9223372036854775807 then (some (t271 ++ (strOfNums y272))) else (none))))) = some r := h
  clear h
  by_cases c2 : a0 < 10
  · rw [if_pos c2] at H
    have c2b0 : decide (a0 < 10) = true := decide_eq_true c2
    clear c2
    obtain ⟨y268, hy268⟩ : ∃ y_ : List Int, y_ = (([(wrap64 (48 + (Int.tmod a0 10))) % 256] : List Int)) := ⟨_, rfl⟩
    replace H : (some (strOfNums y268)) = some r := by first | (rw [hy268]; with_reducible exact H) | (have H2_ := (Option.bind_some _ _).symm.trans H; rw [hy268]; with_reducible exact H2_) | (have H2_ := (Option.bind_some _ _).symm.trans H; with_reducible exact H2_) | with_reducible exact H | (rw [hy268]; exact H) | exact H
    have Ny268 := Aside0.mk hy268
    clear hy268
    obtain rfl := Option.some.inj H
    go_enter Try.func64, Try.ntmps64
    go_wp2_with (first | ((with_reducible refine gate_dst (N := 9) rfl ?_); refine Kd.R_lit (Kd.int .u8) _ 5 ?hg (N := 9) ?hd (xs := ([(wrap64 (48 + (Int.tmod a0 10))) % 256] : List Int)) (inner := [.int .u8 ((wrap64 (48 + (Int.tmod a0 10))) % 256)]) (ok := fun _ => True) (okp := fun _ => True) ?hr ?hp (fun _ hk => hk) trivial (Below.refl _ _) (Nat.le_refl _) (by simp) ?_; (case hd => rfl); (case hg => rfl); (case hr => first | (go_simp; done) | (go_simp; rfl)); (case hp => exact (Reps.one (show Kd.M (Kd.int .u8) _ _ _ ((wrap64 (48 + (Int.tmod a0 10))) % 256) [.int .u8 ((wrap64 (48 + (Int.tmod a0 10))) % 256)] from rfl) (Reps.none _ _))); intro v269 w3 ho4 hb hg_ hnew_; clear hg_ hnew_; (first | rw [← Ny268.out] at ho4 | (simp only [Int.reduceToNat] at ho4; rw [← Ny268.out] at ho4)); have n0_ := Aside0.mk (Kd.R_lower ho4 (below_size (by repeat (first | (with_reducible first | exact HB.out | apply below_alloc | apply pw_below_drewN | apply below_drew1) | exact HB.out)))); have n1_ := Aside0.mk (below_step (by repeat (first | (with_reducible first | exact HB.out | apply below_alloc | apply pw_below_drewN | apply below_drew1) | exact HB.out)) hb); clear HB; have HO270 := n0_; have HB := n1_; clear n0_ n1_; clear hb ho4; have hcv5 := own_string (P := Try.prog) Try.underlying63 Try.underlying5 Try.underlying9 (Kd.own_of_R HO270.out)))
    go_ret
    exact ⟨by first | rfl | (simp [errW_none, errW_some] <;> rfl) | (simp [*, errW_none, errW_some] <;> rfl), by repeat (first | (with_reducible first | exact HB.out | apply below_alloc | apply pw_below_drewN | apply below_drew1) | exact HB.out)⟩
  · rw [if_neg c2] at H
    have c2b0 : decide (a0 < 10) = false := decide_eq_false c2
    clear c2
    replace H := Option.bind_eq_some_iff.mp H
    obtain ⟨t271, A60, H⟩ := H
    replace H : ((some (([(wrap64 (48 + (Int.tmod a0 10))) % 256] : List Int) : List Int)).bind fun y272 => (if t271.size + (strOfNums y272).size ≤ 9223372036854775807 then (some (t271 ++ (strOfNums y272))) else (none))) = some r := H
    have A6 := Aside0.mk A60
    clear A60
    obtain ⟨y272, hy272⟩ : ∃ y_ : List Int, y_ = (([(wrap64 (48 + (Int.tmod a0 10))) % 256] : List Int)) := ⟨_, rfl⟩
    replace H : (if t271.size + (strOfNums y272).size ≤ 9223372036854775807 then (some (t271 ++ (strOfNums y272))) else (none)) = some r := by first | (rw [hy272]; with_reducible exact H) | (have H2_ := (Option.bind_some _ _).symm.trans H; rw [hy272]; with_reducible exact H2_) | (have H2_ := (Option.bind_some _ _).symm.trans H; with_reducible exact H2_) | with_reducible exact H | (rw [hy272]; exact H) | exact H
    have Ny272 := Aside0.mk hy272
    clear hy272
    by_cases c7 : t271.size + (strOfNums y272).size ≤ 9223372036854775807
    · rw [if_pos c7] at H
      have c7b0 := eq_true c7
      have c7b1 : decide (t271.size + (strOfNums y272).size ≤ 9223372036854775807) = true := decide_eq_true c7
      try have c7b2 : (9223372036854775807 < t271.size + (strOfNums y272).size) = False := eq_false (Nat.not_lt.2 c7)
      obtain rfl := Option.some.inj H
      go_enter Try.func64, Try.ntmps64
      try go_wp2
      have n0_ := Aside0.mk (below_drew1 HB.out)
      clear HB
      have HB := n0_
      clear n0_
      refine start_ (n := 11) (S := fun w' => True) (ds := []) #[false, false, false, false, false, false, false, false, false, false, false] (by kernel_rfl) rfl rfl trivial (fun hHeld => ?_); refine with_tabW spec_decimal.tab3 spec_decimal.bits3 (fun HT_ HW_ => ?_)
      generalize w.drew = w8 at HB hHeld ⊢
      refine pure_ (i := 0) (N := some 11) (v := ?_) (a' := ?_) #[true, false, false, false, false, false, false, false, false, false, false] rfl rfl (any_of HT_.out (by kernel_rfl)) (fun _ _ _ h => h) (Or.inl ⟨by rfl, ?_⟩) ?_ ?_
      rotate_left
      · intro w'
        go_simp
        with_reducible rfl
      rotate_left
      · simp only [Act.put, List.setIfInBounds_toArray, List.set_cons_zero, List.set_cons_succ, i64_w, i32_w]
        rfl
      refine pure_ (i := 1) (N := some 12) (v := ?_) (a' := ?_) #[true, true, false, false, false, false, false, false, false, false, false] rfl rfl (any_of HT_.out (by kernel_rfl)) (fun _ _ _ h => h) (Or.inl ⟨by rfl, ?_⟩) ?_ ?_
      rotate_left
      · intro w'
        go_simp
        with_reducible rfl
      rotate_left
      · simp only [Act.put, List.setIfInBounds_toArray, List.set_cons_zero, List.set_cons_succ, i64_w, i32_w]
        rfl
      refine pure_ (i := 3) (N := some 14) (v := ?_) (a' := ?_) #[true, true, false, true, false, false, false, false, false, false, false] rfl rfl (any_of HT_.out (by kernel_rfl)) (fun _ _ _ h => h) (Or.inl ⟨by rfl, ?_⟩) ?_ ?_
      rotate_left
      · intro w'
        go_simp
        with_reducible rfl
      rotate_left
      · simp only [Act.put, List.setIfInBounds_toArray, List.set_cons_zero, List.set_cons_succ, i64_w, i32_w]
        rfl
      refine pure_ (i := 4) (N := some 15) (v := ?_) (a' := ?_) #[true, true, false, true, true, false, false, false, false, false, false] rfl rfl (any_of HT_.out (by kernel_rfl)) (fun _ _ _ h => h) (Or.inl ⟨by rfl, ?_⟩) ?_ ?_
      rotate_left
      · intro w'
        go_simp
        with_reducible rfl
      rotate_left
      · simp only [Act.put, List.setIfInBounds_toArray, List.set_cons_zero, List.set_cons_succ, i64_w, i32_w]
        rfl
      refine pure_ (i := 5) (N := some 16) (v := ?_) (a' := ?_) #[true, true, false, true, true, true, false, false, false, false, false] rfl rfl (any_of HT_.out (by kernel_rfl)) (fun _ _ _ h => h) (Or.inl ⟨by rfl, ?_⟩) ?_ ?_
      rotate_left
      · intro w'
        go_simp
        with_reducible rfl
      rotate_left
      · simp only [Act.put, List.setIfInBounds_toArray, List.set_cons_zero, List.set_cons_succ, i64_w, i32_w]
        rfl
      refine pure_ (i := 6) (N := some 17) (v := ?_) (a' := ?_) #[true, true, false, true, true, true, true, false, false, false, false] rfl rfl (any_of HT_.out (by kernel_rfl)) (fun _ _ _ h => h) (Or.inl ⟨by rfl, ?_⟩) ?_ ?_
      rotate_left
      · intro w'
        go_simp
        with_reducible rfl
      rotate_left
      · simp only [Act.put, List.setIfInBounds_toArray, List.set_cons_zero, List.set_cons_succ, i64_w, i32_w]
        rfl
      refine join_ (σ := Value) 2 #[true, true, true, true, true, true, true, true, true, false, false] (fun s_ => [(13, .string t271), (18, s_), (19, .string (strOfNums y272))]) (fun s_ w' => (Kd.R (Kd.int .u8) 5 w' w.heap.size (fun _ => True) s_ y272) ∧ (Below w.heap.size w w')) ?_ ?_
      rotate_left
      · intro hCont
        refine two_ (i := 2) (j := 7) (Ni := some 13) (Nj := some 18) #[true, true, true, true, true, true, true, false, false, false, false] #[true, true, false, true, true, true, true, true, false, false, false] rfl rfl rfl rfl (two_of HT_.out (by kernel_rfl)) (by decide) (by decide) (fun K hK => ?_) (fun K hK => ?_)
        · skip
          refine goes_ Try.func64 (by kernel_rfl) rfl #[.int .i64 (wrap64 (Int.tdiv a0 10))] (by rfl) rfl rfl (by (try simp only [List.map_toArray, List.map_cons, List.map_nil]); first | done | rfl | (simp only [List.length_drop, List.length_take]; rfl)) ?_
          with_reducible refine (ih k (by omega) (wrap64 (Int.tdiv a0 10)) t271 _ A6.out).mono ?_
          rintro e w9 ⟨rfl, hb⟩
          refine ⟨_, rfl, ?_⟩
          have n0_ := Aside0.mk (below_step (by repeat (first | (with_reducible first | exact HB.out | apply below_alloc | apply pw_below_drewN | apply below_drew1) | exact HB.out)) hb)
          clear HB
          have HB := n0_
          clear n0_
          (try clear hb)
          (try clear hb2)
          (try clear hk)
          (try clear hi)
          refine hK.out _ _ trivial (fun hHeld => ?_)
          clear hK K
          refine norm_ (a' := ?_) ?_ ?_
          rotate_left
          · show Act.put _ (some 13) _ = _
            simp only [Act.put, List.setIfInBounds_toArray, List.set_cons_zero, List.set_cons_succ, i64_w, i32_w]
            rfl
          refine one_ (i := 7) (N := some 18) #[true, true, true, true, true, true, true, true, false, false, false] rfl rfl (one_of HT_.out (by kernel_rfl)) (by decide) (fun K hK => ?_)
          refine Kd.R_lit_step (Kd.int .u8) _ 5 ?hg (N := 18) ?hd (xs := ([(wrap64 (48 + (Int.tmod a0 10))) % 256] : List Int)) (inner := [.int .u8 ((wrap64 (48 + (Int.tmod a0 10))) % 256)]) (ok := fun _ => True) (okp := fun _ => True) ?hr ?hp (fun _ hk => hk) trivial (Below.refl _ _) (Nat.le_refl _) (by simp) ?_; (case hd => rfl); (case hg => rfl); (case hr => first | (go_simp; done) | (go_simp; rfl)); (case hp => exact (Reps.one (show Kd.M (Kd.int .u8) _ _ _ ((wrap64 (48 + (Int.tmod a0 10))) % 256) [.int .u8 ((wrap64 (48 + (Int.tmod a0 10))) % 256)] from rfl) (Reps.none _ _)))
          intro v273 w10 ho11 hb hg_ hnew_
          clear hg_ hnew_
          (first | rw [← Ny272.out] at ho11 | (simp only [Int.reduceToNat] at ho11; rw [← Ny272.out] at ho11))
          have n0_ := Aside0.mk (Kd.R_lower ho11 (below_size (by repeat (first | (with_reducible first | exact HB.out | apply below_alloc | apply pw_below_drewN | apply below_drew1) | exact HB.out))))
          have n1_ := Aside0.mk (below_step (by repeat (first | (with_reducible first | exact HB.out | apply below_alloc | apply pw_below_drewN | apply below_drew1) | exact HB.out)) hb)
          clear HB
          have HO274 := n0_
          have HB := n1_
          clear n0_ n1_
          clear hb ho11
          refine hK.out _ _ trivial (fun hHeld => ?_)
          clear hK K
          refine norm_ (a' := ?_) ?_ ?_
          rotate_left
          · show Act.put _ (some 18) _ = _
            simp only [Act.put, List.setIfInBounds_toArray, List.set_cons_zero, List.set_cons_succ, i64_w, i32_w]
            rfl
          refine one_ (i := 8) (N := some 19) #[true, true, true, true, true, true, true, true, true, false, false] rfl rfl (one_of HT_.out (by kernel_rfl)) (by decide) (fun K hK => ?_)
          have hcv12 := And.intro (own_string (P := Try.prog) Try.underlying63 Try.underlying5 Try.underlying9 (Kd.own_of_R HO274.out)) (fun (m_ : Nat) => own_string (P := Try.prog) Try.underlying63 Try.underlying5 Try.underlying9 (Kd.own_of_R (Kd.R_drewN HO274.out m_)))
          refine value_ (w1 := ?_) (v := ?_) (by rfl) rfl ?_ ?_
          rotate_left 2
          · go_simp
            constructor
            · rfl
            · rfl
          clear hcv12
          refine hK.out _ _ trivial (fun hHeld => ?_)
          clear hK K
          refine norm_ (a' := ?_) ?_ ?_
          rotate_left
          · show Act.put _ (some 19) _ = _
            simp only [Act.put, List.setIfInBounds_toArray, List.set_cons_zero, List.set_cons_succ, i64_w, i32_w]
            rfl
          exact norm_ (by simp only [putAll, Act.put, List.setIfInBounds_toArray, List.set_cons_zero, List.set_cons_succ]) (hCont (v273) _ ⟨(by (with_reducible repeat (first | apply Kd.R_alloc | apply Kd.R_drewN | apply Kd.R_drew)); exact HO274.out), (by repeat (first | (with_reducible first | exact HB.out | apply below_alloc | apply pw_below_drewN | apply below_drew1) | exact HB.out))⟩)
        · skip
          refine Kd.R_lit_step (Kd.int .u8) _ 5 ?hg (N := 18) ?hd (xs := ([(wrap64 (48 + (Int.tmod a0 10))) % 256] : List Int)) (inner := [.int .u8 ((wrap64 (48 + (Int.tmod a0 10))) % 256)]) (ok := fun _ => True) (okp := fun _ => True) ?hr ?hp (fun _ hk => hk) trivial (Below.refl _ _) (Nat.le_refl _) (by simp) ?_; (case hd => rfl); (case hg => rfl); (case hr => first | (go_simp; done) | (go_simp; rfl)); (case hp => exact (Reps.one (show Kd.M (Kd.int .u8) _ _ _ ((wrap64 (48 + (Int.tmod a0 10))) % 256) [.int .u8 ((wrap64 (48 + (Int.tmod a0 10))) % 256)] from rfl) (Reps.none _ _)))
          intro v273 w9 ho10 hb hg_ hnew_
          clear hg_ hnew_
          (first | rw [← Ny272.out] at ho10 | (simp only [Int.reduceToNat] at ho10; rw [← Ny272.out] at ho10))
          have n0_ := Aside0.mk (Kd.R_lower ho10 (below_size (by repeat (first | (with_reducible first | exact HB.out | apply below_alloc | apply pw_below_drewN | apply below_drew1) | exact HB.out))))
          have n1_ := Aside0.mk (below_step (by repeat (first | (with_reducible first | exact HB.out | apply below_alloc | apply pw_below_drewN | apply below_drew1) | exact HB.out)) hb)
          clear HB
          have HO274 := n0_
          have HB := n1_
          clear n0_ n1_
          clear hb ho10
          refine hK.out _ _ trivial (fun hHeld => ?_)
          clear hK K
          refine norm_ (a' := ?_) ?_ ?_
          rotate_left
          · show Act.put _ (some 18) _ = _
            simp only [Act.put, List.setIfInBounds_toArray, List.set_cons_zero, List.set_cons_succ, i64_w, i32_w]
            rfl
          refine two_ (i := 2) (j := 8) (Ni := some 13) (Nj := some 19) #[true, true, true, true, true, true, true, true, false, false, false] #[true, true, false, true, true, true, true, true, true, false, false] rfl rfl rfl rfl (two_of HT_.out (by kernel_rfl)) (by decide) (by decide) (fun K hK => ?_) (fun K hK => ?_)
          · skip
            refine goes_ Try.func64 (by kernel_rfl) rfl #[.int .i64 (wrap64 (Int.tdiv a0 10))] (by rfl) rfl rfl (by (try simp only [List.map_toArray, List.map_cons, List.map_nil]); first | done | rfl | (simp only [List.length_drop, List.length_take]; rfl)) ?_
            with_reducible refine (ih k (by omega) (wrap64 (Int.tdiv a0 10)) t271 _ A6.out).mono ?_
            rintro e w11 ⟨rfl, hb⟩
            refine ⟨_, rfl, ?_⟩
            have n0_ := Aside0.mk (Kd.R_below (by (with_reducible repeat (first | apply Kd.R_alloc | apply Kd.R_drewN | apply Kd.R_drew)); exact HO274.out) hb)
            have n1_ := Aside0.mk (below_step (by repeat (first | (with_reducible first | exact HB.out | apply below_alloc | apply pw_below_drewN | apply below_drew1) | exact HB.out)) hb)
            clear HO274
            clear HB
            have HO274 := n0_
            have HB := n1_
            clear n0_ n1_
            (try clear hb)
            (try clear hb2)
            (try clear hk)
            (try clear hi)
            refine hK.out _ _ trivial (fun hHeld => ?_)
            clear hK K
            refine norm_ (a' := ?_) ?_ ?_
            rotate_left
            · show Act.put _ (some 13) _ = _
              simp only [Act.put, List.setIfInBounds_toArray, List.set_cons_zero, List.set_cons_succ, i64_w, i32_w]
              rfl
            refine one_ (i := 8) (N := some 19) #[true, true, true, true, true, true, true, true, true, false, false] rfl rfl (one_of HT_.out (by kernel_rfl)) (by decide) (fun K hK => ?_)
            have hcv12 := And.intro (own_string (P := Try.prog) Try.underlying63 Try.underlying5 Try.underlying9 (Kd.own_of_R HO274.out)) (fun (m_ : Nat) => own_string (P := Try.prog) Try.underlying63 Try.underlying5 Try.underlying9 (Kd.own_of_R (Kd.R_drewN HO274.out m_)))
            refine value_ (w1 := ?_) (v := ?_) (by rfl) rfl ?_ ?_
            rotate_left 2
            · go_simp
              constructor
              · rfl
              · rfl
            clear hcv12
            refine hK.out _ _ trivial (fun hHeld => ?_)
            clear hK K
            refine norm_ (a' := ?_) ?_ ?_
            rotate_left
            · show Act.put _ (some 19) _ = _
              simp only [Act.put, List.setIfInBounds_toArray, List.set_cons_zero, List.set_cons_succ, i64_w, i32_w]
              rfl
            exact norm_ (by simp only [putAll, Act.put, List.setIfInBounds_toArray, List.set_cons_zero, List.set_cons_succ]) (hCont (v273) _ ⟨(by (with_reducible repeat (first | apply Kd.R_alloc | apply Kd.R_drewN | apply Kd.R_drew)); exact HO274.out), (by repeat (first | (with_reducible first | exact HB.out | apply below_alloc | apply pw_below_drewN | apply below_drew1) | exact HB.out))⟩)
          · skip
            have hcv11 := And.intro (own_string (P := Try.prog) Try.underlying63 Try.underlying5 Try.underlying9 (Kd.own_of_R HO274.out)) (fun (m_ : Nat) => own_string (P := Try.prog) Try.underlying63 Try.underlying5 Try.underlying9 (Kd.own_of_R (Kd.R_drewN HO274.out m_)))
            refine value_ (w1 := ?_) (v := ?_) (by rfl) rfl ?_ ?_
            rotate_left 2
            · go_simp
              constructor
              · rfl
              · rfl
            clear hcv11
            refine hK.out _ _ trivial (fun hHeld => ?_)
            clear hK K
            refine norm_ (a' := ?_) ?_ ?_
            rotate_left
            · show Act.put _ (some 19) _ = _
              simp only [Act.put, List.setIfInBounds_toArray, List.set_cons_zero, List.set_cons_succ, i64_w, i32_w]
              rfl
            refine one_ (i := 2) (N := some 13) #[true, true, true, true, true, true, true, true, true, false, false] rfl rfl (one_of HT_.out (by kernel_rfl)) (by decide) (fun K hK => ?_)
            refine goes_ Try.func64 (by kernel_rfl) rfl #[.int .i64 (wrap64 (Int.tdiv a0 10))] (by rfl) rfl rfl (by (try simp only [List.map_toArray, List.map_cons, List.map_nil]); first | done | rfl | (simp only [List.length_drop, List.length_take]; rfl)) ?_
            with_reducible refine (ih k (by omega) (wrap64 (Int.tdiv a0 10)) t271 _ A6.out).mono ?_
            rintro e w12 ⟨rfl, hb⟩
            refine ⟨_, rfl, ?_⟩
            have n0_ := Aside0.mk (Kd.R_below (by (with_reducible repeat (first | apply Kd.R_alloc | apply Kd.R_drewN | apply Kd.R_drew)); exact HO274.out) hb)
            have n1_ := Aside0.mk (below_step (by repeat (first | (with_reducible first | exact HB.out | apply below_alloc | apply pw_below_drewN | apply below_drew1) | exact HB.out)) hb)
            clear HO274
            clear HB
            have HO274 := n0_
            have HB := n1_
            clear n0_ n1_
            (try clear hb)
            (try clear hb2)
            (try clear hk)
            (try clear hi)
            refine hK.out _ _ trivial (fun hHeld => ?_)
            clear hK K
            refine norm_ (a' := ?_) ?_ ?_
            rotate_left
            · show Act.put _ (some 13) _ = _
              simp only [Act.put, List.setIfInBounds_toArray, List.set_cons_zero, List.set_cons_succ, i64_w, i32_w]
              rfl
            exact norm_ (by simp only [putAll, Act.put, List.setIfInBounds_toArray, List.set_cons_zero, List.set_cons_succ]) (hCont (v273) _ ⟨(by (with_reducible repeat (first | apply Kd.R_alloc | apply Kd.R_drewN | apply Kd.R_drew)); exact HO274.out), (by repeat (first | (with_reducible first | exact HB.out | apply below_alloc | apply pw_below_drewN | apply below_drew1) | exact HB.out))⟩)
      rintro v273 w13 ⟨h0_, h1_⟩
      have n0_ : Aside0 (Kd.R (Kd.int .u8) 5 w13 w.heap.size (fun _ => True) v273 y272) := ⟨h0_⟩
      have n1_ : Aside0 (Below w.heap.size w w13) := ⟨h1_⟩
      clear HB
      clear h0_ h1_
      have HO274 := n0_
      have HB := n1_
      clear n0_ n1_
      have hHeld := trivial
      refine norm_ (a' := ?_) ?_ ?_
      rotate_left
      · simp only [putAll, Act.put, List.setIfInBounds_toArray, List.set_cons_zero, List.set_cons_succ]
        rfl
      refine pure_ (i := 9) (N := some 20) (v := ?_) (a' := ?_) #[true, true, true, true, true, true, true, true, true, true, false] rfl rfl (any_of HT_.out (by kernel_rfl)) (fun _ _ _ h => h) (Or.inl ⟨by rfl, ?_⟩) ?_ ?_
      rotate_left
      · intro w'
        go_simp
        with_reducible rfl
      rotate_left
      · simp only [Act.put, List.setIfInBounds_toArray, List.set_cons_zero, List.set_cons_succ, i64_w, i32_w]
        rfl
      refine pure_ (i := 10) (N := some 2) (v := ?_) (a' := ?_) #[true, true, true, true, true, true, true, true, true, true, true] rfl rfl (any_of HT_.out (by kernel_rfl)) (fun _ _ _ h => h) (Or.inl ⟨by rfl, ?_⟩) ?_ ?_
      rotate_left
      · intro w'
        go_simp
        with_reducible rfl
      rotate_left
      · simp only [Act.put, List.setIfInBounds_toArray, List.set_cons_zero, List.set_cons_succ, i64_w, i32_w]
        rfl
      refine done_ (done_of HT_.out (by kernel_rfl)) ?_
      try go_wp2
      go_ret
      exact ⟨by first | rfl | (simp [errW_none, errW_some] <;> rfl) | (simp [*, errW_none, errW_some] <;> rfl), by repeat (first | (with_reducible first | exact HB.out | apply below_alloc | apply pw_below_drewN | apply below_drew1) | exact HB.out)⟩
    · rw [if_neg c7] at H
      exact absurd H (by simp)
end Go.Proofs.Ytfbllodbcmcndaa.Q
end
