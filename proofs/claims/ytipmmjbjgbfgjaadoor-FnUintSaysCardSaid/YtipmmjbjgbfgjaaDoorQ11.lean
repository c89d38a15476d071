-- Written by a program of this session out of the translation, with the kit's printer. Not trusted: Lean checks it.
import Derived.Test.YtipmmjbjgbfgjaaDoorQ0
import Derived.Test.YtipmmjbjgbfgjaaDoorQ10
namespace Go.Proofs.YtipmmjbjgbfgjaaDoor.Q
open Go.RowKit Go.Proofs.YtipmmjbjgbfgjaaDoorW.PrintWords Go.Proofs.YtipmmjbjgbfgjaaDoorW.PrintLast Go.Proofs.YtipmmjbjgbfgjaaDoorW.PrintMore
attribute [local go_sem] max2_int min2_int max_two min_two max_three min_three max_four min_four   -- for this text's walks alone
set_option linter.unusedVariables false
set_option linter.unusedSimpArgs false

/-! ### spec_UintText: function 12 -/
def spec_UintText.f (k : Nat) (a0 : Int) : Option (ByteArray × Bool) := if a0 < 0 then (some ((⟨#[]⟩ : ByteArray), false)) else ((spec_decimal.f k a0).bind fun t125 => (some (t125, true)))
theorem spec_UintText.mono : ∀ a0 k, LeO (spec_UintText.f k a0) (spec_UintText.f (k + 1) a0) := by
  intro a0 k
  unfold spec_UintText.f
  repeat' first
      | (with_reducible exact spec_decimal.mono _ _)
      | (with_reducible exact LeO.refl _)
      | (with_reducible exact LeO.none _)
      | (with_reducible refine LeO.ite ?_ ?_)
      | (with_reducible refine LeO.bind ?_ (fun _ => ?_))
      | exact spec_decimal.mono _ _
      | exact LeO.none _
      | refine LeO.ite ?_ ?_
      | refine LeO.bind ?_ (fun _ => ?_)
set_option maxHeartbeats 8000000 in
set_option maxRecDepth 100000 in
theorem spec_UintText.calls (k : Nat) (a0 : Int) (r1 : ByteArray) (r2 : Bool) (w : World) (h : spec_UintText.f k a0 = some (r1, r2)) :
    Calls Tryd.prog 12 #[.int .i64 a0] w fun e w' => e = .returned (.tuple #[.string r1, .bool r2]) ∧ Below w.heap.size w w' := by
  have HB := Aside0.mk (Below.refl w.heap.size w)
  have H : (if a0 < 0 then (some ((⟨#[]⟩ : ByteArray), false)) else ((spec_decimal.f k a0).bind fun t125 => (some (t125, true)))) = some (r1, r2) := h
  clear h
  by_cases c2 : a0 < 0
  · rw [if_pos c2] at H
    have c2b0 : decide (a0 < 0) = true := decide_eq_true c2
    clear c2
    simp only [Option.some.injEq, Prod.mk.injEq] at H
    obtain ⟨rfl, rfl⟩ := H
    go_enter Tryd.func12, Tryd.ntmps12
    go_wp2
    go_ret2
    exact ⟨by first | rfl | (simp [errW_none, errW_some] <;> rfl) | (simp [*, errW_none, errW_some] <;> rfl), by repeat (first | (with_reducible first | exact HB.out | apply below_alloc | apply pw_below_drewN | apply below_drew1) | exact HB.out)⟩
  · rw [if_neg c2] at H
    have c2b0 : decide (a0 < 0) = false := decide_eq_false c2
    clear c2
    replace H := Option.bind_eq_some_iff.mp H
    obtain ⟨t125, A30, H⟩ := H
    replace H : (some (t125, true)) = some (r1, r2) := H
    have A3 := Aside0.mk A30
    clear A30
    simp only [Option.some.injEq, Prod.mk.injEq] at H
    obtain ⟨rfl, rfl⟩ := H
    go_enter Tryd.func12, Tryd.ntmps12
    go_wp2_with (first | ((with_reducible refine gate_callee (f := 19) rfl ?_); refine goesL_ (some 7) rfl rfl Tryd.func19 (by kernel_rfl) rfl #[.int .i64 a0] rfl (by (try simp only [List.map_toArray, List.map_cons, List.map_nil]); first | done | rfl | (simp only [List.length_drop, List.length_take]; rfl)) ?_; (with_reducible refine (spec_decimal.calls k a0 t125 _ A3.out).mono ?_); rintro e w4 ⟨rfl, hb⟩; refine ⟨_, rfl, ?_⟩; have n0_ := Aside0.mk (below_step (by repeat (first | (with_reducible first | exact HB.out | apply below_alloc | apply pw_below_drewN | apply below_drew1) | exact HB.out)) hb); clear HB; have HB := n0_; clear n0_; (try clear hb); (try clear hb2); (try clear hk); (try clear hi)))
    go_ret2
    exact ⟨by first | rfl | (simp [errW_none, errW_some] <;> rfl) | (simp [*, errW_none, errW_some] <;> rfl), by repeat (first | (with_reducible first | exact HB.out | apply below_alloc | apply pw_below_drewN | apply below_drew1) | exact HB.out)⟩

/-! ### spec_HexText: function 13 -/
def spec_HexText.f : Nat → Int → Option (ByteArray × Int)
  | 0, _ => none
  | k + 1, a0 => if 0 ≤ (Go.bits .and .u64 a0 15) then (if (Go.bits .and .u64 a0 15) ≤ (IntKind.u64.wrap ((Go.bits .and .u64 a0 15) + 1)) then (if (IntKind.u64.wrap ((Go.bits .and .u64 a0 15) + 1)) ≤ 16 then (if a0 < 16 then (some ((⟨#[48, 49, 50, 51, 52, 53, 54, 55, 56, 57, 97, 98, 99, 100, 101, 102]⟩ : ByteArray).extract ((Go.bits .and .u64 a0 15) : Int).toNat ((IntKind.u64.wrap ((Go.bits .and .u64 a0 15) + 1)) : Int).toNat, 1)) else ((spec_HexText.f k (a0 / 16)).bind fun bt126 => (if bt126.1.size + ((min ((IntKind.u64.wrap ((Go.bits .and .u64 a0 15) + 1)) : Int).toNat 16 - ((Go.bits .and .u64 a0 15) : Int).toNat)) ≤ 9223372036854775807 then (some (bt126.1 ++ ((⟨#[48, 49, 50, 51, 52, 53, 54, 55, 56, 57, 97, 98, 99, 100, 101, 102]⟩ : ByteArray).extract ((Go.bits .and .u64 a0 15) : Int).toNat ((IntKind.u64.wrap ((Go.bits .and .u64 a0 15) + 1)) : Int).toNat), wrap64 (bt126.2 + 1))) else (none)))) else (none)) else (none)) else (none)
theorem spec_HexText.mono_l : ∀ k, (∀ y0, LeO (spec_HexText.f k y0) (spec_HexText.f (k + 1) y0))
  | 0 => fun _ r h => by simp [spec_HexText.f] at h
  | k + 1 => by
    have ih0 := spec_HexText.mono_l k
    · intro y0
      unfold spec_HexText.f
      repeat' first
      | (with_reducible exact ih0 _)
      | (with_reducible exact LeO.refl _)
      | (with_reducible exact LeO.none _)
      | (with_reducible refine LeO.ite ?_ ?_)
      | (with_reducible refine LeO.bind ?_ (fun _ => ?_))
      | exact ih0 _
      | exact LeO.none _
      | refine LeO.ite ?_ ?_
      | refine LeO.bind ?_ (fun _ => ?_)
theorem spec_HexText.mono : ∀ a0 k, LeO (spec_HexText.f k a0) (spec_HexText.f (k + 1) a0) := by
  intro a0 k
  have ih0 := spec_HexText.mono_l k
  exact ih0 a0
set_option maxHeartbeats 8000000 in
set_option maxRecDepth 100000 in
theorem spec_HexText.calls (k : Nat) : ∀ (a0 : Int) (r1 : ByteArray) (r2 : Int) (w : World) (h : spec_HexText.f k a0 = some (r1, r2)),
    Calls Tryd.prog 13 #[.int .u64 a0] w fun e w' => e = .returned (.tuple #[.string r1, .int .i64 r2]) ∧ Drawn0 w w' := by
  induction k using Nat.strongRecOn with
  | _ k ih =>
  intro a0 r1 r2 w h
  cases k with
  | zero => exact absurd h (by simp [spec_HexText.f])
  | succ k =>
  simp only [spec_HexText.f] at h
  have H : (if 0 ≤ (Go.bits .and .u64 a0 15) then (if (Go.bits .and .u64 a0 15) ≤ (IntKind.u64.wrap ((Go.bits .and .u64 a0 15) + 1)) then (if (IntKind.u64.wrap ((Go.bits .and .u64 a0 15) + 1)) ≤ 16 then (if a0 < 16 then (some ((⟨#[48, 49, 50, 51, 52, 53, 54, 55, 56, 57, 97, 98, 99, 100, 101, 102]⟩ : ByteArray).extract ((Go.bits .and .u64 a0 15) : Int).toNat ((IntKind.u64.wrap ((Go.bits .and .u64 a0 15) + 1)) : Int).toNat, 1)) else ((spec_HexText.f k (a0 / 16)).bind fun bt126 => (if bt126.1.size + ((min ((IntKind.u64.wrap ((Go.bits .and .u64 a0 15) + 1)) : Int).toNat 16 - ((Go.bits .and .u64 a0 15) : Int).toNat)) ≤ 9223372036854775807 then (some (bt126.1 ++ ((⟨#[48, 49, 50, 51, 52, 53, 54, 55, 56, 57, 97, 98, 99, 100, 101, 102]⟩ : ByteArray).extract ((Go.bits .and .u64 a0 15) : Int).toNat ((IntKind.u64.wrap ((Go.bits .and .u64 a0 15) + 1)) : Int).toNat), wrap64 (bt126.2 + 1))) else (none)))) else (none)) else (none)) else (none)) = some (r1, r2) := h
  clear h
  by_cases c2 : 0 ≤ (Go.bits .and .u64 a0 15)
  · rw [if_pos c2] at H
    have c2b0 := eq_true c2
    have c2b1 : decide (0 ≤ (Go.bits .and .u64 a0 15)) = true := decide_eq_true c2
    clear c2
    by_cases c3 : (Go.bits .and .u64 a0 15) ≤ (IntKind.u64.wrap ((Go.bits .and .u64 a0 15) + 1))
    · rw [if_pos c3] at H
      have c3b0 := eq_true c3
      have c3b1 : decide ((Go.bits .and .u64 a0 15) ≤ (IntKind.u64.wrap ((Go.bits .and .u64 a0 15) + 1))) = true := decide_eq_true c3
      by_cases c4 : (IntKind.u64.wrap ((Go.bits .and .u64 a0 15) + 1)) ≤ 16
      · rw [if_pos c4] at H
        have c4b0 := eq_true c4
        have c4b1 : decide ((IntKind.u64.wrap ((Go.bits .and .u64 a0 15) + 1)) ≤ 16) = true := decide_eq_true c4
        by_cases c5 : a0 < 16
        · rw [if_pos c5] at H
          have c5b0 : decide (a0 < 16) = true := decide_eq_true c5
          clear c5
          simp only [Option.some.injEq, Prod.mk.injEq] at H
          obtain ⟨rfl, rfl⟩ := H
          go_enter Tryd.func13, Tryd.ntmps13
          go_wp2
          go_ret2
          exact ⟨by first | rfl | (simp; done) | (simp [*]; done) | (simp [Go.Proofs.YtipmmjbjgbfgjaaDoorX.isEmpty_ne]; done), by repeat (first | exact Drawn0.refl _ | apply Drawn0.step)⟩
        · rw [if_neg c5] at H
          have c5b0 : decide (a0 < 16) = false := decide_eq_false c5
          clear c5
          replace H := Option.bind_eq_some_iff.mp H
          obtain ⟨⟨t126, t127⟩, A60, H⟩ := H
          replace H : (if t126.size + ((min ((IntKind.u64.wrap ((Go.bits .and .u64 a0 15) + 1)) : Int).toNat 16 - ((Go.bits .and .u64 a0 15) : Int).toNat)) ≤ 9223372036854775807 then (some (t126 ++ ((⟨#[48, 49, 50, 51, 52, 53, 54, 55, 56, 57, 97, 98, 99, 100, 101, 102]⟩ : ByteArray).extract ((Go.bits .and .u64 a0 15) : Int).toNat ((IntKind.u64.wrap ((Go.bits .and .u64 a0 15) + 1)) : Int).toNat), wrap64 (t127 + 1))) else (none)) = some (r1, r2) := H
          have A6 := Aside0.mk A60
          clear A60
          by_cases c7 : t126.size + ((min ((IntKind.u64.wrap ((Go.bits .and .u64 a0 15) + 1)) : Int).toNat 16 - ((Go.bits .and .u64 a0 15) : Int).toNat)) ≤ 9223372036854775807
          · rw [if_pos c7] at H
            have c7b0 := eq_true c7
            have c7b1 : decide (t126.size + ((min ((IntKind.u64.wrap ((Go.bits .and .u64 a0 15) + 1)) : Int).toNat 16 - ((Go.bits .and .u64 a0 15) : Int).toNat)) ≤ 9223372036854775807) = true := decide_eq_true c7
            try have c7b2 : (9223372036854775807 < t126.size + ((min ((IntKind.u64.wrap ((Go.bits .and .u64 a0 15) + 1)) : Int).toNat 16 - ((Go.bits .and .u64 a0 15) : Int).toNat))) = False := eq_false (Nat.not_lt.2 c7)
            simp only [Option.some.injEq, Prod.mk.injEq] at H
            obtain ⟨rfl, rfl⟩ := H
            go_enter Tryd.func13, Tryd.ntmps13
            go_wp2_with (first | ((with_reducible refine gate_callee (f := 13) rfl ?_); refine goesL_ (some 19) rfl rfl Tryd.func13 (by kernel_rfl) rfl #[.int .u64 (a0 / 16)] rfl (by (try simp only [List.map_toArray, List.map_cons, List.map_nil]); first | done | rfl | (simp only [List.length_drop, List.length_take]; rfl)) ?_; (with_reducible refine (ih k (by omega) (a0 / 16) t126 t127 _ A6.out).mono ?_); rintro e w' ⟨rfl, ⟨nd, rfl⟩⟩; refine ⟨_, rfl, ?_⟩))
            any_goals (try (exfalso; have zc2b1 := of_decide_eq_true c2b1; have zc3b1 := of_decide_eq_true c3b1; have zc4b1 := of_decide_eq_true c4b1; have zc7b1 := of_decide_eq_true c7b1; omega))
            go_ret2
            exact ⟨by first | rfl | (simp; done) | (simp [*]; done) | (simp [Go.Proofs.YtipmmjbjgbfgjaaDoorX.isEmpty_ne]; done), by repeat (first | exact Drawn0.refl _ | apply Drawn0.step)⟩
          · rw [if_neg c7] at H
            exact absurd H (by simp)
      · rw [if_neg c4] at H
        exact absurd H (by simp)
    · rw [if_neg c3] at H
      exact absurd H (by simp)
  · rw [if_neg c2] at H
    exact absurd H (by simp)

end Go.Proofs.YtipmmjbjgbfgjaaDoor.Q
