import Derived.Test.YtjklempjljikpaaQ0
import Derived.Test.YtjklempjljikpaaQ9
import Derived.Test.YtjklempjljikpaaQ12
import Derived.Test.YtjklempjljikpaaQ1
import Derived.Test.YtjklempjljikpaaQ2
import Derived.Test.YtjklempjljikpaaQ5
-- Written by a program of this session out of the translation, with the kit's printer. Not trusted: Lean checks it.
namespace Go.Proofs.Ytjklempjljikpaa.Q
open Go.RowKit Go.Proofs.YtjklempjljikpaaW.PrintWords Go.Proofs.YtjklempjljikpaaW.PrintLast Go.Proofs.YtjklempjljikpaaW.PrintMore
attribute [local go_sem] max2_int min2_int max_two min_two max_three min_three max_four min_four   -- for this text's walks alone
set_option linter.unusedVariables false
set_option linter.unusedSimpArgs false

/-! ### spec_ArgsOf: function 28 -/
mutual
def spec_ArgsOf.l0 : Nat → List (S62) → List ByteArray → Int → Int → Option ((List (S62)) × Int)
  | 0, _, _, _, _ => none
  | k + 1, x4, x14, x15, x16 => if x16 < x15 then (if 0 ≤ x16 then (if x16 < (x14.length : Int) then ((spec_indexOf.f k (rdOf ByteArray.empty x14 x16) 61).bind fun t211 => (if (rdOf ByteArray.empty x14 x16).toList = ([] : List UInt8) then (spec_ArgsOf.j1 k x4 (rdOf ByteArray.empty x14 x16) t211 x14 x15 x16 true) else (spec_ArgsOf.j1 k x4 (rdOf ByteArray.empty x14 x16) t211 x14 x15 x16 (t211 == 0)))) else (none)) else (none)) else (some (x4, 1))
def spec_ArgsOf.j1 : Nat → List (S62) → ByteArray → Int → List ByteArray → Int → Int → Bool → Option ((List (S62)) × Int)
  | 0, _, _, _, _, _, _, _ => none
  | k + 1, x4, x6, x7, x14, x15, x16, x35 => if x35 = true then (some (([] : List (S62)), 2)) else (if x7 < 0 then ((spec_Decoded.f k x6 true).bind fun t212 => (if x4.length < 3518437208883 then (spec_ArgsOf.l0 k (x4 ++ [(⟨t212, (⟨#[]⟩ : ByteArray), true⟩ : S62)]) x14 x15 (wrap64 (x16 + 1))) else (none))) else (if 0 ≤ x7 then (if x7 ≤ (x6.size : Int) then ((spec_Decoded.f k (x6.extract 0 (x7 : Int).toNat) true).bind fun t216 => (if 0 ≤ (wrap64 (x7 + 1)) then (if (wrap64 (x7 + 1)) ≤ (x6.size : Int) then ((spec_Decoded.f k (x6.extract ((wrap64 (x7 + 1)) : Int).toNat x6.size) true).bind fun t217 => (if x4.length < 3518437208883 then (spec_ArgsOf.l0 k (x4 ++ [(⟨t216, t217, false⟩ : S62)]) x14 x15 (wrap64 (x16 + 1))) else (none))) else (none)) else (none))) else (none)) else (none)))
end
def spec_ArgsOf.f (k : Nat) (a0 : ByteArray) : Option ((List (S62)) × Int) := if a0.toList = ([] : List UInt8) then (some (([] : List (S62)), 1)) else ((spec_Sound.f k a0).bind fun t206 => (if t206 = true then ((spec_split.f k a0 38).bind fun t207 => (spec_ArgsOf.l0 k ([] : List (S62)) t207 (t207.length : Int) 0)) else (some (([] : List (S62)), 2))))
theorem spec_ArgsOf.mono_l : ∀ k, (∀ y0 y1 y2 y3, LeO (spec_ArgsOf.l0 k y0 y1 y2 y3) (spec_ArgsOf.l0 (k + 1) y0 y1 y2 y3)) ∧ (∀ y0 y1 y2 y3 y4 y5 y6, LeO (spec_ArgsOf.j1 k y0 y1 y2 y3 y4 y5 y6) (spec_ArgsOf.j1 (k + 1) y0 y1 y2 y3 y4 y5 y6))
  | 0 => ⟨fun _ _ _ _ r h => by simp [spec_ArgsOf.l0] at h, fun _ _ _ _ _ _ _ r h => by simp [spec_ArgsOf.j1] at h⟩
  | k + 1 => by
    obtain ⟨ih0, ih1⟩ := spec_ArgsOf.mono_l k
    refine ⟨?_, ?_⟩
    · intro y0 y1 y2 y3
      unfold spec_ArgsOf.l0
      repeat' first
      | (with_reducible exact ih0 _ _ _ _)
      | (with_reducible exact ih1 _ _ _ _ _ _ _)
      | (with_reducible exact spec_Decoded.mono _ _ _)
      | (with_reducible exact spec_Sound.mono _ _)
      | (with_reducible exact spec_indexOf.mono _ _ _)
      | (with_reducible exact spec_split.mono _ _ _)
      | (with_reducible exact LeO.refl _)
      | (with_reducible exact LeO.none _)
      | (with_reducible refine LeO.ite ?_ ?_)
      | (with_reducible refine LeO.bind ?_ (fun _ => ?_))
      | exact ih0 _ _ _ _
      | exact ih1 _ _ _ _ _ _ _
      | exact spec_Decoded.mono _ _ _
      | exact spec_Sound.mono _ _
      | exact spec_indexOf.mono _ _ _
      | exact spec_split.mono _ _ _
      | exact LeO.none _
      | refine LeO.ite ?_ ?_
      | refine LeO.bind ?_ (fun _ => ?_)
    · intro y0 y1 y2 y3 y4 y5 y6
      unfold spec_ArgsOf.j1
      repeat' first
      | (with_reducible exact ih0 _ _ _ _)
      | (with_reducible exact ih1 _ _ _ _ _ _ _)
      | (with_reducible exact spec_Decoded.mono _ _ _)
      | (with_reducible exact spec_Sound.mono _ _)
      | (with_reducible exact spec_indexOf.mono _ _ _)
      | (with_reducible exact spec_split.mono _ _ _)
      | (with_reducible exact LeO.refl _)
      | (with_reducible exact LeO.none _)
      | (with_reducible refine LeO.ite ?_ ?_)
      | (with_reducible refine LeO.bind ?_ (fun _ => ?_))
      | exact ih0 _ _ _ _
      | exact ih1 _ _ _ _ _ _ _
      | exact spec_Decoded.mono _ _ _
      | exact spec_Sound.mono _ _
      | exact spec_indexOf.mono _ _ _
      | exact spec_split.mono _ _ _
      | exact LeO.none _
      | refine LeO.ite ?_ ?_
      | refine LeO.bind ?_ (fun _ => ?_)
theorem spec_ArgsOf.mono : ∀ a0 k, LeO (spec_ArgsOf.f k a0) (spec_ArgsOf.f (k + 1) a0) := by
  intro a0 k
  obtain ⟨ih0, ih1⟩ := spec_ArgsOf.mono_l k
  unfold spec_ArgsOf.f
  repeat' first
      | (with_reducible exact ih0 _ _ _ _)
      | (with_reducible exact ih1 _ _ _ _ _ _ _)
      | (with_reducible exact spec_Decoded.mono _ _ _)
      | (with_reducible exact spec_Sound.mono _ _)
      | (with_reducible exact spec_indexOf.mono _ _ _)
      | (with_reducible exact spec_split.mono _ _ _)
      | (with_reducible exact LeO.refl _)
      | (with_reducible exact LeO.none _)
      | (with_reducible refine LeO.ite ?_ ?_)
      | (with_reducible refine LeO.bind ?_ (fun _ => ?_))
      | exact ih0 _ _ _ _
      | exact ih1 _ _ _ _ _ _ _
      | exact spec_Decoded.mono _ _ _
      | exact spec_Sound.mono _ _
      | exact spec_indexOf.mono _ _ _
      | exact spec_split.mono _ _ _
      | exact LeO.none _
      | refine LeO.ite ?_ ?_
      | refine LeO.bind ?_ (fun _ => ?_)
def spec_ArgsOf.T10 : Bool × List (List Nat × List Nat) := (true, [([], []), ([], []), ([], []), ([1, 2], [1, 2]), ([3], [3]), ([], []), ([], []), ([6], [6]), ([5, 7], [5, 7]), ([8, 4], [8]), ([4, 9], [4, 9]), ([10], [10]), ([0, 11, 9], [0, 11]), ([12, 12, 0, 1, 2, 3, 4, 5, 6, 7, 8, 9, 10, 11, 12], [0, 12])])
def spec_ArgsOf.B10 : List Nat := [0, 0, 0, 6, 14, 0, 0, 64, 224, 510, 1022, 2046, 4095, 8191]
theorem spec_ArgsOf.tab10 : rtab .any (opsOf Try.f28 10) = spec_ArgsOf.T10 := by kernel_rfl
theorem spec_ArgsOf.bits10 : waitsOk spec_ArgsOf.T10.2 spec_ArgsOf.B10 = true := by kernel_rfl
set_option maxHeartbeats 8000000 in
set_option maxRecDepth 100000 in
theorem spec_ArgsOf.calls (k : Nat) (a0 : ByteArray) (r1 : List (S62)) (r2 : Int) (w : World) (h : spec_ArgsOf.f k a0 = some (r1, r2)) :
    Calls Try.prog 28 #[.string a0] w fun e w' => ∃ v0_ : Value, e = .returned (.tuple #[v0_, .int .i64 r2]) ∧ Kd.R k62 62 w' w.heap.size (fun _ => True) v0_ r1 ∧ Below w.heap.size w w' := by
  have hu62 := Try.underlying62
  have HB := Aside0.mk (Below.refl w.heap.size w)
  have H : (if a0.toList = ([] : List UInt8) then (some (([] : List (S62)), 1)) else ((spec_Sound.f k a0).bind fun t206 => (if t206 = true then ((spec_split.f k a0 38).bind fun t207 => (spec_ArgsOf.l0 k ([] : List (S62)) t207 (t207.length : Int) 0)) else (some (([] : List (S62)), 2))))) = some (r1, r2) := h
  clear h
  by_cases c2 : a0.toList = ([] : List UInt8)
  · rw [if_pos c2] at H
    have c2b0 : (a0.toList == ([] : List UInt8)) = true := beq_iff_eq.mpr c2
    have c2b1 : (a0.toList != ([] : List UInt8)) = false := bne_eq_false_iff_eq.mpr c2
    clear c2
    simp only [Option.some.injEq, Prod.mk.injEq] at H
    obtain ⟨rfl, rfl⟩ := H
    go_enter Try.func28, Try.ntmps28
    go_wp2
    go_ret2
    exact ⟨_, by first | rfl | (simp [errW_none, errW_some] <;> rfl) | (simp [*, errW_none, errW_some] <;> rfl), by first | exact Kd.R_nil _ _ _ _ _ | exact Kd.N_nil _ _ _ _ _ | exact Kd.V_nil _ _ _ _ _ | exact Kd.Q_nil _ _ _ _ _ | exact Kd.S_nil _ _ _ _ _, by repeat (first | (with_reducible first | exact HB.out | apply below_alloc | apply pw_below_drewN | apply below_drew1) | exact HB.out)⟩
  · rw [if_neg c2] at H
    have c2b0 : (a0.toList == ([] : List UInt8)) = false := beq_eq_false_iff_ne.mpr c2
    have c2b1 : (a0.toList != ([] : List UInt8)) = true := bne_iff_ne.mpr c2
    replace H := Option.bind_eq_some_iff.mp H
    obtain ⟨t206, A30, H⟩ := H
    replace H : (if t206 = true then ((spec_split.f k a0 38).bind fun t207 => (spec_ArgsOf.l0 k ([] : List (S62)) t207 (t207.length : Int) 0)) else (some (([] : List (S62)), 2))) = some (r1, r2) := H
    have A3 := Aside0.mk A30
    clear A30
    by_cases c4 : t206 = true
    · subst c4
      have H1 : ((spec_split.f k a0 38).bind fun t207 => (spec_ArgsOf.l0 k ([] : List (S62)) t207 (t207.length : Int) 0)) = some (r1, r2) := by rw [if_pos rfl] at H; exact H
      clear H
      have H := H1
      clear H1
      replace H := Option.bind_eq_some_iff.mp H
      obtain ⟨t207, A50, H⟩ := H
      replace H : (spec_ArgsOf.l0 k ([] : List (S62)) t207 (t207.length : Int) 0) = some (r1, r2) := H
      have A5 := Aside0.mk A50
      clear A50
      have H' := Aside0.mk H
      clear H
      go_enter Try.func28, Try.ntmps28
      go_wp2_with (first | ((with_reducible refine gate_callee (f := 33) rfl ?_); refine goesL_ (some 11) rfl rfl Try.func33 (by kernel_rfl) rfl #[.string a0] rfl (by (try simp only [List.map_toArray, List.map_cons, List.map_nil]); first | done | rfl | (simp only [List.length_drop, List.length_take]; rfl)) ?_; (with_reducible refine (spec_Sound.calls k a0 true _ A3.out).mono ?_); rintro e w' ⟨rfl, ⟨nd, rfl⟩⟩; refine ⟨_, rfl, ?_⟩) | ((with_reducible refine gate_callee (f := 44) rfl ?_); refine goesL_ (some 14) rfl rfl Try.func44 (by kernel_rfl) rfl #[.string a0, .int .u8 38] rfl (by (try simp only [List.map_toArray, List.map_cons, List.map_nil]); first | done | rfl | (simp only [List.length_drop, List.length_take]; rfl)) ?_; (with_reducible refine (spec_split.calls k a0 38 t207 _ A5.out).mono ?_); rintro e w6 ⟨v208, rfl, ho0, hb⟩; refine ⟨_, rfl, ?_⟩; have n0_ := Aside0.mk (Kd.R_lower ho0 (below_size (by repeat (first | (with_reducible first | exact HB.out | apply below_alloc | apply pw_below_drewN | apply below_drew1) | exact HB.out)))); have n1_ := Aside0.mk (below_step (by repeat (first | (with_reducible first | exact HB.out | apply below_alloc | apply pw_below_drewN | apply below_drew1) | exact HB.out)) hb); clear HB; have HO209 := n0_; have HB := n1_; clear n0_ n1_; (try clear hb); (try clear hb2); (try clear hk); (try clear hi); (try clear ho0); obtain ⟨Ao7, co7, eo7⟩ := Kd.R_slice HO209.out; subst eo7))
      go_loopg [4, 16] k (fun kq v4 v16 w' => ∃ (x4_1 : List (S62)) (x16_1 : Int), v16 = .int .i64 x16_1 ∧ Aside0 (spec_ArgsOf.l0 kq x4_1 t207 (t207.length : Int) x16_1 = some (r1, r2)) ∧ Aside0 (kq ≤ k) ∧ Aside0 (Kd.R k62 62 w' w.heap.size (fun _ => True) v4 x4_1) ∧ Aside0 (Kd.R Kd.string 9 w' w.heap.size (fun _ => True) (.slice Ao7 t207.length co7) t207) ∧ Aside0 (Below w.heap.size w w'))
      case atStart => exact ⟨(([] : List (S62))), (0), (by first | rfl | (simp; done) | (simp [*]; done) | (simp [Go.Proofs.YtjklempjljikpaaX.isEmpty_ne]; done)), H', ⟨Nat.le_refl _⟩, ⟨by first | exact Kd.R_nil _ _ _ _ _ | exact Kd.N_nil _ _ _ _ _ | exact Kd.V_nil _ _ _ _ _ | exact Kd.Q_nil _ _ _ _ _ | exact Kd.S_nil _ _ _ _ _⟩, ⟨by (with_reducible repeat (first | apply Kd.R_alloc | apply Kd.R_drewN | apply Kd.R_drew)); exact HO209.out⟩, ⟨by repeat (first | (with_reducible first | exact HB.out | apply below_alloc | apply pw_below_drewN | apply below_drew1) | exact HB.out)⟩⟩
      case round =>
        clear H'
        try clear c2
        try clear c2b0
        try clear c2b1
        try clear p2
        try clear c3
        try clear c4
        obtain ⟨x4_1, x16_1, rfl, HA, HK1, HO_4, HO_14, HB⟩ := hrel
        cases gk with
        | zero => exact absurd HA.out (by simp [spec_ArgsOf.l0])
        | succ k1 =>
          have H := HA.out
          clear HA
          simp only [spec_ArgsOf.l0] at H
          by_cases c8 : x16_1 < (t207.length : Int)
          · rw [if_pos c8] at H
            have c8b0 : decide (x16_1 < (t207.length : Int)) = true := decide_eq_true c8
            clear c8
            by_cases c9 : 0 ≤ x16_1
            · rw [if_pos c9] at H
              have c9b0 : decide (0 ≤ x16_1) = true := decide_eq_true c9
              clear c9
              by_cases c10 : x16_1 < (t207.length : Int)
              · rw [if_pos c10] at H
                have c10b0 : decide (x16_1 < (t207.length : Int)) = true := decide_eq_true c10
                clear c10
                replace H := Option.bind_eq_some_iff.mp H
                obtain ⟨t211, A110, H⟩ := H
                replace H : (if (rdOf ByteArray.empty t207 x16_1).toList = ([] : List UInt8) then (spec_ArgsOf.j1 k1 x4_1 (rdOf ByteArray.empty t207 x16_1) t211 t207 (t207.length : Int) x16_1 true) else (spec_ArgsOf.j1 k1 x4_1 (rdOf ByteArray.empty t207 x16_1) t211 t207 (t207.length : Int) x16_1 (t211 == 0))) = some (r1, r2) := H
                have A11 := Aside0.mk A110
                clear A110
                have HC12 := Aside0.mk H
                clear H
                have p210 : 0 ≤ (x16_1 : Int) := of_decide_eq_true (by first | (with_reducible assumption) | assumption)
                have q210 : x16_1 < (t207.length : Int) := of_decide_eq_true (by first | (with_reducible assumption) | assumption)
                obtain ⟨ad210, e210, hx210_0⟩ := Kd.at_string (Kd.R_reads' HO_14.out).2.2 x16_1 p210 q210
                cases e210
                replace p210 := eq_true p210
                replace q210 := eq_true q210
                go_upto_region 11 with (first | ((with_reducible refine gate_callee (f := 45) rfl ?_); refine goesL_ (some 21) rfl rfl Try.func45 (by kernel_rfl) rfl #[.string (rdOf ByteArray.empty t207 x16_1), .int .u8 61] rfl (by (try simp only [List.map_toArray, List.map_cons, List.map_nil]); first | done | rfl | (simp only [List.length_drop, List.length_take]; rfl)) ?_; (with_reducible refine (spec_indexOf.calls k1 (rdOf ByteArray.empty t207 x16_1) 61 t211 _ A11.out).mono ?_); rintro e w' ⟨rfl, ⟨nd, rfl⟩⟩; refine ⟨_, rfl, ?_⟩))
                (try simp only [Act.put, List.setIfInBounds_toArray, List.set_cons_zero, List.set_cons_succ])
                go_cut [35] (fun v35 wc => ∃ (kq : Nat) (x35_11 : Bool), v35 = .bool x35_11 ∧ Aside0 (spec_ArgsOf.j1 kq x4_1 (rdOf ByteArray.empty t207 x16_1) t211 t207 (t207.length : Int) x16_1 x35_11 = some (r1, r2)) ∧ Aside0 (kq ≤ k1) ∧ Aside0 (Kd.R k62 62 wc w.heap.size (fun _ => True) u4 x4_1) ∧ Aside0 (Kd.R Kd.string 9 wc w.heap.size (fun _ => True) (.slice (some ad210) t207.length co7) t207) ∧ Aside0 (Below w.heap.size w wc))
                case first =>
                  have H := HC12.out
                  clear HC12
                  by_cases c13 : (rdOf ByteArray.empty t207 x16_1).toList = ([] : List UInt8)
                  · rw [if_pos c13] at H
                    have c13b0 : ((rdOf ByteArray.empty t207 x16_1).toList == ([] : List UInt8)) = true := beq_iff_eq.mpr c13
                    have c13b1 : ((rdOf ByteArray.empty t207 x16_1).toList != ([] : List UInt8)) = false := bne_eq_false_iff_eq.mpr c13
                    clear c13
                    (first | rw [c13b0] | (simp only [i64_w, i32_w]; rw [c13b0]) | (rw [Go.Proofs.YtjklempjljikpaaX.isEmpty_eq]; rw [c13b0]) | skip)
                    have H' := Aside0.mk H
                    clear H
                    go_wp2
                    go_meet
                    case rel => exact ⟨_, (true), (by first | rfl | (simp; done) | (simp [*]; done) | (simp [Go.Proofs.YtjklempjljikpaaX.isEmpty_ne]; done)), H', ⟨by have := HK1.out; first | omega | exact Nat.le_refl _⟩, ⟨by (with_reducible repeat (first | apply Kd.R_alloc | apply Kd.R_drewN | apply Kd.R_drew)); exact HO_4.out⟩, ⟨by (with_reducible repeat (first | apply Kd.R_alloc | apply Kd.R_drewN | apply Kd.R_drew)); exact HO_14.out⟩, ⟨by repeat (first | (with_reducible first | exact HB.out | apply below_alloc | apply pw_below_drewN | apply below_drew1) | exact HB.out)⟩⟩
                  · rw [if_neg c13] at H
                    have c13b0 : ((rdOf ByteArray.empty t207 x16_1).toList == ([] : List UInt8)) = false := beq_eq_false_iff_ne.mpr c13
                    have c13b1 : ((rdOf ByteArray.empty t207 x16_1).toList != ([] : List UInt8)) = true := bne_iff_ne.mpr c13
                    (first | rw [c13b0] | (simp only [i64_w, i32_w]; rw [c13b0]) | (rw [Go.Proofs.YtjklempjljikpaaX.isEmpty_eq]; rw [c13b0]) | skip)
                    have H' := Aside0.mk H
                    clear H
                    go_wp2
                    go_meet
                    case rel => exact ⟨_, ((t211 == 0)), (by first | rfl | (simp; done) | (simp [*]; done) | (simp [Go.Proofs.YtjklempjljikpaaX.isEmpty_ne]; done)), H', ⟨by have := HK1.out; first | omega | exact Nat.le_refl _⟩, ⟨by (with_reducible repeat (first | apply Kd.R_alloc | apply Kd.R_drewN | apply Kd.R_drew)); exact HO_4.out⟩, ⟨by (with_reducible repeat (first | apply Kd.R_alloc | apply Kd.R_drewN | apply Kd.R_drew)); exact HO_14.out⟩, ⟨by repeat (first | (with_reducible first | exact HB.out | apply below_alloc | apply pw_below_drewN | apply below_drew1) | exact HB.out)⟩⟩
                case rest =>
                  clear HC12
                  try clear c1
                  try clear c2
                  try clear c2b0
                  try clear c2b1
                  try clear p2
                  try clear q2
                  try clear hx2
                  try clear c3
                  try clear c4
                  try clear c8
                  try clear c8b0
                  try clear c9
                  try clear c9b0
                  try clear c10
                  try clear c10b0
                  try clear c13
                  try clear c13b0
                  try clear c13b1
                  try clear hx210_0
                  try clear p2
                  try clear p210
                  try clear q210
                  obtain ⟨kq, x35_11, rfl, HA, HJ11, HO_4, HO_14, HB⟩ := hcut
                  cases kq with
                  | zero => exact absurd HA.out (by simp [spec_ArgsOf.j1])
                  | succ kj11 =>
                    have H := HA.out
                    clear HA
                    simp only [spec_ArgsOf.j1] at H
                    by_cases c14 : x35_11 = true
                    · subst c14
                      have H1 : (some (([] : List (S62)), 2)) = some (r1, r2) := by rw [if_pos rfl] at H; exact H
                      clear H
                      have H := H1
                      clear H1
                      simp only [Option.some.injEq, Prod.mk.injEq] at H
                      obtain ⟨rfl, rfl⟩ := H
                      go_wp2
                      go_ret2
                      exact ⟨_, by first | rfl | (simp [errW_none, errW_some] <;> rfl) | (simp [*, errW_none, errW_some] <;> rfl), by first | exact Kd.R_nil _ _ _ _ _ | exact Kd.N_nil _ _ _ _ _ | exact Kd.V_nil _ _ _ _ _ | exact Kd.Q_nil _ _ _ _ _ | exact Kd.S_nil _ _ _ _ _, by repeat (first | (with_reducible first | exact HB.out | apply below_alloc | apply pw_below_drewN | apply below_drew1) | exact HB.out)⟩
                    · replace c14 := Bool.eq_false_iff.mpr c14
                      subst c14
                      have H1 : (if t211 < 0 then ((spec_Decoded.f kj11 (rdOf ByteArray.empty t207 x16_1) true).bind fun t212 => (if x4_1.length < 3518437208883 then (spec_ArgsOf.l0 kj11 (x4_1 ++ [(⟨t212, (⟨#[]⟩ : ByteArray), true⟩ : S62)]) t207 (t207.length : Int) (wrap64 (x16_1 + 1))) else (none))) else (if 0 ≤ t211 then (if t211 ≤ ((rdOf ByteArray.empty t207 x16_1).size : Int) then ((spec_Decoded.f kj11 ((rdOf ByteArray.empty t207 x16_1).extract 0 (t211 : Int).toNat) true).bind fun t216 => (if 0 ≤ (wrap64 (t211 + 1)) then (if (wrap64 (t211 + 1)) ≤ ((rdOf ByteArray.empty t207 x16_1).size : Int) then ((spec_Decoded.f kj11 ((rdOf ByteArray.empty t207 x16_1).extract ((wrap64 (t211 + 1)) : Int).toNat (rdOf ByteArray.empty t207 x16_1).size) true).bind fun t217 => (if x4_1.length < 3518437208883 then (spec_ArgsOf.l0 kj11 (x4_1 ++ [(⟨t216, t217, false⟩ : S62)]) t207 (t207.length : Int) (wrap64 (x16_1 + 1))) else (none))) else (none)) else (none))) else (none)) else (none))) = some (r1, r2) := by rw [if_neg (show ¬ (false = true) by decide)] at H; exact H
                      clear H
                      have H := H1
                      clear H1
                      by_cases c15 : t211 < 0
                      · rw [if_pos c15] at H
                        have c15b0 : decide (t211 < 0) = true := decide_eq_true c15
                        clear c15
                        replace H := Option.bind_eq_some_iff.mp H
                        obtain ⟨t212, A160, H⟩ := H
                        replace H : (if x4_1.length < 3518437208883 then (spec_ArgsOf.l0 kj11 (x4_1 ++ [(⟨t212, (⟨#[]⟩ : ByteArray), true⟩ : S62)]) t207 (t207.length : Int) (wrap64 (x16_1 + 1))) else (none)) = some (r1, r2) := H
                        have A16 := Aside0.mk A160
                        clear A160
                        by_cases c17 : x4_1.length < 3518437208883
                        · rw [if_pos c17] at H
                          have LMc17 := Aside0.mk c17
                          clear c17
                          obtain ⟨y213, hy213⟩ : ∃ y_ : List (S62), y_ = (x4_1 ++ [(⟨t212, (⟨#[]⟩ : ByteArray), true⟩ : S62)]) := ⟨_, rfl⟩
                          replace H : (spec_ArgsOf.l0 kj11 y213 t207 (t207.length : Int) (wrap64 (x16_1 + 1))) = some (r1, r2) := by first | (rw [hy213]; with_reducible exact H) | (have H2_ := (Option.bind_some _ _).symm.trans H; rw [hy213]; with_reducible exact H2_) | (have H2_ := (Option.bind_some _ _).symm.trans H; with_reducible exact H2_) | with_reducible exact H | (rw [hy213]; exact H) | exact H
                          have Ny213 := Aside0.mk hy213
                          clear hy213
                          have H' := Aside0.mk H
                          clear H
                          go_wp2_with (first | ((with_reducible refine gate_callee (f := 35) rfl ?_); refine goesL_ (some 47) rfl rfl Try.func35 (by kernel_rfl) rfl #[.string (rdOf ByteArray.empty t207 x16_1), .bool true] rfl (by (try simp only [List.map_toArray, List.map_cons, List.map_nil]); first | done | rfl | (simp only [List.length_drop, List.length_take]; rfl)) ?_; (with_reducible refine (spec_Decoded.calls kj11 (rdOf ByteArray.empty t207 x16_1) true t212 _ A16.out).mono ?_); rintro e w18 ⟨rfl, hb⟩; refine ⟨_, rfl, ?_⟩; have n0_ := Aside0.mk (Kd.R_below (by (with_reducible repeat (first | apply Kd.R_alloc | apply Kd.R_drewN | apply Kd.R_drew)); exact HO_4.out) hb); have n1_ := Aside0.mk (Kd.R_below (by (with_reducible repeat (first | apply Kd.R_alloc | apply Kd.R_drewN | apply Kd.R_drew)); exact HO_14.out) hb); have n2_ := Aside0.mk (below_step (by repeat (first | (with_reducible first | exact HB.out | apply below_alloc | apply pw_below_drewN | apply below_drew1) | exact HB.out)) hb); clear HO_4; clear HO_14; clear HB; have HO_4 := n0_; have HO_14 := n1_; have HB := n2_; clear n0_ n1_ n2_; (try clear hb); (try clear hb2); (try clear hk); (try clear hi)) | ((with_reducible refine gate_builtin (b := .append) (xs := #[.tmp 45, .tmp 49]) rfl ?_); at_builtin; refine Kd.R_append k62 (w0 := w) w.heap.size rfl (.tmp 45) (.tmp 49) 40 62 (.agg #[(.string ⟨#[]⟩), (.string ⟨#[]⟩), (.bool false)]) 40 rfl Try.underlying40 info62 rfl (by decide) (by omega) u4 x4_1 (⟨t212, (⟨#[]⟩ : ByteArray), true⟩ : S62) [.string t212, .string (⟨#[]⟩ : ByteArray), .bool true] (fun _ => True) (fun _ => False) rfl rfl ?aP (fun _ hk => hk.elim) ?aF ?aO ?aB ?aS ?aL ?_; (case aP => exact k62_mkM _ _ _ (⟨t212, (⟨#[]⟩ : ByteArray), true⟩ : S62)); (case aB => exact (by repeat (first | (with_reducible first | exact HB.out | apply below_alloc | apply pw_below_drewN | apply below_drew1) | exact HB.out))); (case aF => exact (fun _ _ => trivial)); (case aO => exact (by (with_reducible repeat (first | apply Kd.R_alloc | apply Kd.R_drewN | apply Kd.R_drew)); exact HO_4.out)); (case aS => exact (below_size (by repeat (first | (with_reducible first | exact HB.out | apply below_alloc | apply pw_below_drewN | apply below_drew1) | exact HB.out)))); (case aL => have := LMc17.out; omega); intro v214 w19 ho hb hg hat; rw [← Ny213.out] at ho; have n0_ := Aside0.mk (Kd.R_over' (by (with_reducible repeat (first | apply Kd.R_alloc | apply Kd.R_drewN | apply Kd.R_drew)); exact HO_14.out) (Kd.R_typed (by (with_reducible repeat (first | apply Kd.R_alloc | apply Kd.R_drewN | apply Kd.R_drew)); exact HO_4.out)) (by decide) hg); have n1_ := Aside0.mk (hb); have n2_ := Aside0.mk (ho); clear HO_14; clear HB; clear HO_4; have HO_14 := n0_; have HB := n1_; have HO215 := n2_; clear n0_ n1_ n2_; clear ho hb hg hat))
                          go_roundg kj11
                          case measure => have := HK1.out; have := HJ11.out; omega
                          case rel => exact ⟨(y213), (wrap64 (x16_1 + 1)), (by first | rfl | (simp; done) | (simp [*]; done) | (simp [Go.Proofs.YtjklempjljikpaaX.isEmpty_ne]; done)), H', ⟨by have := HK1.out; have := HJ11.out; omega⟩, ⟨by (with_reducible repeat (first | apply Kd.R_alloc | apply Kd.R_drewN | apply Kd.R_drew)); exact HO215.out⟩, ⟨by (with_reducible repeat (first | apply Kd.R_alloc | apply Kd.R_drewN | apply Kd.R_drew)); exact HO_14.out⟩, ⟨by repeat (first | (with_reducible first | exact HB.out | apply below_alloc | apply pw_below_drewN | apply below_drew1) | exact HB.out)⟩⟩
                        · rw [if_neg c17] at H
                          exact absurd H (by simp)
                      · rw [if_neg c15] at H
                        have c15b0 : decide (t211 < 0) = false := decide_eq_false c15
                        clear c15
                        by_cases c20 : 0 ≤ t211
                        · rw [if_pos c20] at H
                          have c20b0 := eq_true c20
                          have c20b1 : decide (0 ≤ t211) = true := decide_eq_true c20
                          clear c20
                          by_cases c21 : t211 ≤ ((rdOf ByteArray.empty t207 x16_1).size : Int)
                          · rw [if_pos c21] at H
                            have c21b0 := eq_true c21
                            have c21b1 : decide (t211 ≤ ((rdOf ByteArray.empty t207 x16_1).size : Int)) = true := decide_eq_true c21
                            clear c21
                            replace H := Option.bind_eq_some_iff.mp H
                            obtain ⟨t216, A220, H⟩ := H
                            replace H : (if 0 ≤ (wrap64 (t211 + 1)) then (if (wrap64 (t211 + 1)) ≤ ((rdOf ByteArray.empty t207 x16_1).size : Int) then ((spec_Decoded.f kj11 ((rdOf ByteArray.empty t207 x16_1).extract ((wrap64 (t211 + 1)) : Int).toNat (rdOf ByteArray.empty t207 x16_1).size) true).bind fun t217 => (if x4_1.length < 3518437208883 then (spec_ArgsOf.l0 kj11 (x4_1 ++ [(⟨t216, t217, false⟩ : S62)]) t207 (t207.length : Int) (wrap64 (x16_1 + 1))) else (none))) else (none)) else (none)) = some (r1, r2) := H
                            have A22 := Aside0.mk A220
                            clear A220
                            obtain ⟨ji23, hji23⟩ : ∃ j_ : Int, (wrap64 (t211 + 1)) = j_ := ⟨_, rfl⟩
                            replace H : (if 0 ≤ (ji23) then (if (ji23) ≤ ((rdOf ByteArray.empty t207 x16_1).size : Int) then ((spec_Decoded.f kj11 ((rdOf ByteArray.empty t207 x16_1).extract ((ji23) : Int).toNat (rdOf ByteArray.empty t207 x16_1).size) true).bind fun t217 => (if x4_1.length < 3518437208883 then (spec_ArgsOf.l0 kj11 (x4_1 ++ [(⟨t216, t217, false⟩ : S62)]) t207 (t207.length : Int) (wrap64 (x16_1 + 1))) else (none))) else (none)) else (none)) = some (r1, r2) := by first | (rw [hji23] at H; exact H) | (simp only [hji23] at H ⊢; exact H)
                            (try rw [hji23] at A22)
                            have hji23w : (IntKind.i64.wrap (t211 + 1)) = ji23 := (i64_w _).trans hji23
                            by_cases c24 : 0 ≤ (ji23)
                            · rw [if_pos c24] at H
                              have c24b0 := eq_true c24
                              have c24b1 : decide (0 ≤ (ji23)) = true := decide_eq_true c24
                              clear c24
                              by_cases c25 : (ji23) ≤ ((rdOf ByteArray.empty t207 x16_1).size : Int)
                              · rw [if_pos c25] at H
                                have c25b0 := eq_true c25
                                have c25b1 : decide ((ji23) ≤ ((rdOf ByteArray.empty t207 x16_1).size : Int)) = true := decide_eq_true c25
                                clear c25
                                replace H := Option.bind_eq_some_iff.mp H
                                obtain ⟨t217, A260, H⟩ := H
                                replace H : (if x4_1.length < 3518437208883 then (spec_ArgsOf.l0 kj11 (x4_1 ++ [(⟨t216, t217, false⟩ : S62)]) t207 (t207.length : Int) (wrap64 (x16_1 + 1))) else (none)) = some (r1, r2) := H
                                have A26 := Aside0.mk A260
                                clear A260
                                by_cases c27 : x4_1.length < 3518437208883
                                · rw [if_pos c27] at H
                                  have LMc27 := Aside0.mk c27
                                  clear c27
                                  obtain ⟨y218, hy218⟩ : ∃ y_ : List (S62), y_ = (x4_1 ++ [(⟨t216, t217, false⟩ : S62)]) := ⟨_, rfl⟩
                                  replace H : (spec_ArgsOf.l0 kj11 y218 t207 (t207.length : Int) (wrap64 (x16_1 + 1))) = some (r1, r2) := by first | (rw [hy218]; with_reducible exact H) | (have H2_ := (Option.bind_some _ _).symm.trans H; rw [hy218]; with_reducible exact H2_) | (have H2_ := (Option.bind_some _ _).symm.trans H; with_reducible exact H2_) | with_reducible exact H | (rw [hy218]; exact H) | exact H
                                  have Ny218 := Aside0.mk hy218
                                  clear hy218
                                  have H' := Aside0.mk H
                                  clear H
                                  try go_wp2
                                  have n0_ := Aside0.mk (Kd.R_drew HO_4.out)
                                  have n1_ := Aside0.mk (Kd.R_drew HO_14.out)
                                  have n2_ := Aside0.mk (below_drew1 HB.out)
                                  clear HO_4
                                  clear HO_14
                                  clear HB
                                  have HO_4 := n0_
                                  have HO_14 := n1_
                                  have HB := n2_
                                  clear n0_ n1_ n2_
                                  refine start_ (n := 14) (S := fun w' => True) (ds := []) #[false, false, false, false, false, false, false, false, false, false, false, false, false, false] (by kernel_rfl) rfl rfl trivial (fun hHeld => ?_); refine with_tabW spec_ArgsOf.tab10 spec_ArgsOf.bits10 (fun HT_ HW_ => ?_)
                                  generalize wc.drew = w28 at HO_4 HO_14 HB hHeld ⊢
                                  refine pure_ (i := 0) (N := some 22) (v := ?_) (a' := ?_) #[true, false, false, false, false, false, false, false, false, false, false, false, false, false] rfl rfl (any_of HT_.out (by kernel_rfl)) (fun _ _ _ h => h) (Or.inl ⟨by rfl, ?_⟩) ?_ ?_
                                  rotate_left
                                  · intro w'
                                    go_simp
                                    with_reducible rfl
                                  rotate_left
                                  · simp only [Act.put, List.setIfInBounds_toArray, List.set_cons_zero, List.set_cons_succ, i64_w, i32_w]
                                    rfl
                                  refine pure_ (i := 1) (N := some 23) (v := ?_) (a' := ?_) #[true, true, false, false, false, false, false, false, false, false, false, false, false, false] rfl rfl (any_of HT_.out (by kernel_rfl)) (fun _ _ _ h => h) (Or.inl ⟨by rfl, ?_⟩) ?_ ?_
                                  rotate_left
                                  · intro w'
                                    go_simp
                                    with_reducible rfl
                                  rotate_left
                                  · simp only [Act.put, List.setIfInBounds_toArray, List.set_cons_zero, List.set_cons_succ, i64_w, i32_w]
                                    rfl
                                  refine pure_ (i := 2) (N := some 24) (v := ?_) (a' := ?_) #[true, true, true, false, false, false, false, false, false, false, false, false, false, false] rfl rfl (any_of HT_.out (by kernel_rfl)) (fun _ _ _ h => h) (Or.inl ⟨by rfl, ?_⟩) ?_ ?_
                                  rotate_left
                                  · intro w'
                                    go_simp
                                    with_reducible rfl
                                  rotate_left
                                  · simp only [Act.put, List.setIfInBounds_toArray, List.set_cons_zero, List.set_cons_succ, i64_w, i32_w]
                                    rfl
                                  refine pure_ (i := 3) (N := some 25) (v := ?_) (a' := ?_) #[true, true, true, true, false, false, false, false, false, false, false, false, false, false] rfl rfl (any_of HT_.out (by kernel_rfl)) (fun _ _ _ h => h) (Or.inl ⟨by rfl, ?_⟩) ?_ ?_
                                  rotate_left
                                  · intro w'
                                    go_simp
                                    with_reducible rfl
                                  rotate_left
                                  · simp only [Act.put, List.setIfInBounds_toArray, List.set_cons_zero, List.set_cons_succ, i64_w, i32_w]
                                    rfl
                                  refine pure_ (i := 5) (N := some 27) (v := ?_) (a' := ?_) #[true, true, true, true, false, true, false, false, false, false, false, false, false, false] rfl rfl (any_of HT_.out (by kernel_rfl)) (fun _ _ _ h => h) (Or.inl ⟨by rfl, ?_⟩) ?_ ?_
                                  rotate_left
                                  · intro w'
                                    go_simp
                                    with_reducible rfl
                                  rotate_left
                                  · simp only [Act.put, List.setIfInBounds_toArray, List.set_cons_zero, List.set_cons_succ, i64_w, i32_w]
                                    rfl
                                  refine pure_ (i := 6) (N := some 28) (v := ?_) (a' := ?_) #[true, true, true, true, false, true, true, false, false, false, false, false, false, false] rfl rfl (any_of HT_.out (by kernel_rfl)) (fun _ _ _ h => h) (Or.inl ⟨by rfl, ?_⟩) ?_ ?_
                                  rotate_left
                                  · intro w'
                                    go_simp
                                    with_reducible rfl
                                  rotate_left
                                  · simp only [Act.put, List.setIfInBounds_toArray, List.set_cons_zero, List.set_cons_succ, i64_w, i32_w]
                                    rfl
                                  refine pure_ (i := 7) (N := some 29) (v := ?_) (a' := ?_) #[true, true, true, true, false, true, true, true, false, false, false, false, false, false] rfl rfl (any_of HT_.out (by kernel_rfl)) (fun _ _ _ h => h) (Or.inl ⟨by rfl, ?_⟩) ?_ ?_
                                  rotate_left
                                  · intro w'
                                    go_simp
                                    with_reducible rfl
                                  rotate_left
                                  · simp only [Act.put, List.setIfInBounds_toArray, List.set_cons_zero, List.set_cons_succ, i64_w, i32_w]
                                    rfl
                                  refine pure_ (i := 8) (N := some 30) (v := ?_) (a' := ?_) #[true, true, true, true, false, true, true, true, true, false, false, false, false, false] rfl rfl (any_of HT_.out (by kernel_rfl)) (fun _ _ _ h => h) (Or.inl ⟨by rfl, ?_⟩) ?_ ?_
                                  rotate_left
                                  · intro w'
                                    go_simp
                                    with_reducible rfl
                                  rotate_left
                                  · simp only [Act.put, List.setIfInBounds_toArray, List.set_cons_zero, List.set_cons_succ, i64_w, i32_w]
                                    rfl
                                  refine one_ (i := 4) (N := some 26) #[true, true, true, true, true, true, true, true, true, false, false, false, false, false] rfl rfl (one_of HT_.out (by kernel_rfl)) (by decide) (fun K hK => ?_)
                                  refine goes_ Try.func35 (by kernel_rfl) rfl #[.string ((rdOf ByteArray.empty t207 x16_1).extract 0 (t211 : Int).toNat), .bool true] (by rfl) rfl rfl (by (try simp only [List.map_toArray, List.map_cons, List.map_nil]); first | done | rfl | (simp only [List.length_drop, List.length_take]; rfl)) ?_
                                  with_reducible refine (spec_Decoded.calls kj11 ((rdOf ByteArray.empty t207 x16_1).extract 0 (t211 : Int).toNat) true t216 _ A22.out).mono ?_
                                  rintro e w29 ⟨rfl, hb⟩
                                  refine ⟨_, rfl, ?_⟩
                                  have n0_ := Aside0.mk (Kd.R_below (by (with_reducible repeat (first | apply Kd.R_alloc | apply Kd.R_drewN | apply Kd.R_drew)); exact HO_4.out) hb)
                                  have n1_ := Aside0.mk (Kd.R_below (by (with_reducible repeat (first | apply Kd.R_alloc | apply Kd.R_drewN | apply Kd.R_drew)); exact HO_14.out) hb)
                                  have n2_ := Aside0.mk (below_step (by repeat (first | (with_reducible first | exact HB.out | apply below_alloc | apply pw_below_drewN | apply below_drew1) | exact HB.out)) hb)
                                  clear HO_4
                                  clear HO_14
                                  clear HB
                                  have HO_4 := n0_
                                  have HO_14 := n1_
                                  have HB := n2_
                                  clear n0_ n1_ n2_
                                  (try clear hb)
                                  (try clear hb2)
                                  (try clear hk)
                                  (try clear hi)
                                  refine hK.out _ _ trivial (fun hHeld => ?_)
                                  clear hK K
                                  refine norm_ (a' := ?_) ?_ ?_
                                  rotate_left
                                  · show Act.put _ (some 26) _ = _
                                    simp only [Act.put, List.setIfInBounds_toArray, List.set_cons_zero, List.set_cons_succ, i64_w, i32_w]
                                    rfl
                                  refine one_ (i := 9) (N := some 31) #[true, true, true, true, true, true, true, true, true, true, false, false, false, false] rfl rfl (one_of HT_.out (by kernel_rfl)) (by decide) (fun K hK => ?_)
                                  refine goes_ Try.func35 (by kernel_rfl) rfl #[.string ((rdOf ByteArray.empty t207 x16_1).extract ((ji23) : Int).toNat (rdOf ByteArray.empty t207 x16_1).size), .bool true] (by rfl) rfl rfl (by (try simp only [List.map_toArray, List.map_cons, List.map_nil]); first | done | (simp only [hji23]; rfl) | rfl | (simp only [List.length_drop, List.length_take]; rfl)) ?_
                                  with_reducible refine (spec_Decoded.calls kj11 ((rdOf ByteArray.empty t207 x16_1).extract ((ji23) : Int).toNat (rdOf ByteArray.empty t207 x16_1).size) true t217 _ A26.out).mono ?_
                                  rintro e w30 ⟨rfl, hb⟩
                                  refine ⟨_, rfl, ?_⟩
                                  have n0_ := Aside0.mk (Kd.R_below (by (with_reducible repeat (first | apply Kd.R_alloc | apply Kd.R_drewN | apply Kd.R_drew)); exact HO_4.out) hb)
                                  have n1_ := Aside0.mk (Kd.R_below (by (with_reducible repeat (first | apply Kd.R_alloc | apply Kd.R_drewN | apply Kd.R_drew)); exact HO_14.out) hb)
                                  have n2_ := Aside0.mk (below_step (by repeat (first | (with_reducible first | exact HB.out | apply below_alloc | apply pw_below_drewN | apply below_drew1) | exact HB.out)) hb)
                                  clear HO_4
                                  clear HO_14
                                  clear HB
                                  have HO_4 := n0_
                                  have HO_14 := n1_
                                  have HB := n2_
                                  clear n0_ n1_ n2_
                                  (try clear hb)
                                  (try clear hb2)
                                  (try clear hk)
                                  (try clear hi)
                                  refine hK.out _ _ trivial (fun hHeld => ?_)
                                  clear hK K
                                  refine norm_ (a' := ?_) ?_ ?_
                                  rotate_left
                                  · show Act.put _ (some 31) _ = _
                                    simp only [Act.put, List.setIfInBounds_toArray, List.set_cons_zero, List.set_cons_succ, i64_w, i32_w]
                                    rfl
                                  refine pure_ (i := 10) (N := some 32) (v := ?_) (a' := ?_) #[true, true, true, true, true, true, true, true, true, true, true, false, false, false] rfl rfl (any_of HT_.out (by kernel_rfl)) (fun _ _ _ h => h) (Or.inl ⟨by rfl, ?_⟩) ?_ ?_
                                  rotate_left
                                  · intro w'
                                    go_simp
                                    with_reducible rfl
                                  rotate_left
                                  · simp only [Act.put, List.setIfInBounds_toArray, List.set_cons_zero, List.set_cons_succ, i64_w, i32_w]
                                    rfl
                                  refine one_ (i := 11) (N := some 33) #[true, true, true, true, true, true, true, true, true, true, true, true, false, false] rfl rfl (one_of HT_.out (by kernel_rfl)) (by decide) (fun K hK => ?_)
                                  refine value_ (w1 := ?_) (v := ?_) (by rfl) rfl ?_ ?_
                                  rotate_left 2
                                  · go_simp
                                    constructor
                                    · rfl
                                    · rfl
                                  refine hK.out _ _ trivial (fun hHeld => ?_)
                                  clear hK K
                                  refine norm_ (a' := ?_) ?_ ?_
                                  rotate_left
                                  · show Act.put _ (some 33) _ = _
                                    simp only [Act.put, List.setIfInBounds_toArray, List.set_cons_zero, List.set_cons_succ, i64_w, i32_w]
                                    rfl
                                  refine one_ (i := 12) (N := some 34) #[true, true, true, true, true, true, true, true, true, true, true, true, true, false] rfl rfl (one_of HT_.out (by kernel_rfl)) (by decide) (fun K hK => ?_)
                                  refine Kd.R_append_step k62 (w0 := w) w.heap.size (by rfl) (.tmp 22) (.tmp 33) 40 62 (.agg #[(.string ⟨#[]⟩), (.string ⟨#[]⟩), (.bool false)]) 40 rfl Try.underlying40 info62 rfl (by decide) (by omega) u4 x4_1 (⟨t216, t217, false⟩ : S62) [.string t216, .string t217, .bool false] (fun _ => True) (fun _ => False) rfl rfl ?aP (fun _ hk => hk.elim) ?aF ?aO ?aB ?aS ?aL ?_
                                  (case aP => exact k62_mkM _ _ _ (⟨t216, t217, false⟩ : S62))
                                  (case aB => exact (by repeat (first | (with_reducible first | exact HB.out | apply below_alloc | apply pw_below_drewN | apply below_drew1) | exact HB.out)))
                                  (case aF => exact (fun _ _ => trivial))
                                  (case aO => exact (by (with_reducible repeat (first | apply Kd.R_alloc | apply Kd.R_drewN | apply Kd.R_drew)); exact HO_4.out))
                                  (case aS => exact (below_size (by repeat (first | (with_reducible first | exact HB.out | apply below_alloc | apply pw_below_drewN | apply below_drew1) | exact HB.out))))
                                  (case aL => have := LMc27.out; omega)
                                  intro v219 w31 ho hb hg hat
                                  rw [← Ny218.out] at ho
                                  have n0_ := Aside0.mk (Kd.R_over' (by (with_reducible repeat (first | apply Kd.R_alloc | apply Kd.R_drewN | apply Kd.R_drew)); exact HO_14.out) (Kd.R_typed (by (with_reducible repeat (first | apply Kd.R_alloc | apply Kd.R_drewN | apply Kd.R_drew)); exact HO_4.out)) (by decide) hg)
                                  have n1_ := Aside0.mk (hb)
                                  have n2_ := Aside0.mk (ho)
                                  clear HO_14
                                  clear HB
                                  clear HO_4
                                  have HO_14 := n0_
                                  have HB := n1_
                                  have HO220 := n2_
                                  clear n0_ n1_ n2_
                                  clear ho hb hg hat
                                  refine hK.out _ _ trivial (fun hHeld => ?_)
                                  clear hK K
                                  refine norm_ (a' := ?_) ?_ ?_
                                  rotate_left
                                  · show Act.put _ (some 34) _ = _
                                    simp only [Act.put, List.setIfInBounds_toArray, List.set_cons_zero, List.set_cons_succ, i64_w, i32_w]
                                    rfl
                                  refine pure_ (i := 13) (N := some 4) (v := ?_) (a' := ?_) #[true, true, true, true, true, true, true, true, true, true, true, true, true, true] rfl rfl (any_of HT_.out (by kernel_rfl)) (fun _ _ _ h => h) (Or.inl ⟨by rfl, ?_⟩) ?_ ?_
                                  rotate_left
                                  · intro w'
                                    go_simp
                                    with_reducible rfl
                                  rotate_left
                                  · simp only [Act.put, List.setIfInBounds_toArray, List.set_cons_zero, List.set_cons_succ, i64_w, i32_w]
                                    rfl
                                  refine done_ (done_of HT_.out (by kernel_rfl)) ?_
                                  try go_wp2
                                  go_roundg kj11
                                  case measure => have := HK1.out; have := HJ11.out; omega
                                  case rel => exact ⟨(y218), (wrap64 (x16_1 + 1)), (by first | rfl | (simp; done) | (simp [*]; done) | (simp [Go.Proofs.YtjklempjljikpaaX.isEmpty_ne]; done)), H', ⟨by have := HK1.out; have := HJ11.out; omega⟩, ⟨by (with_reducible repeat (first | apply Kd.R_alloc | apply Kd.R_drewN | apply Kd.R_drew)); exact HO220.out⟩, ⟨by (with_reducible repeat (first | apply Kd.R_alloc | apply Kd.R_drewN | apply Kd.R_drew)); exact HO_14.out⟩, ⟨by repeat (first | (with_reducible first | exact HB.out | apply below_alloc | apply pw_below_drewN | apply below_drew1) | exact HB.out)⟩⟩
                                · rw [if_neg c27] at H
                                  exact absurd H (by simp)
                              · rw [if_neg c25] at H
                                exact absurd H (by simp)
                            · rw [if_neg c24] at H
                              exact absurd H (by simp)
                          · rw [if_neg c21] at H
                            exact absurd H (by simp)
                        · rw [if_neg c20] at H
                          exact absurd H (by simp)
              · rw [if_neg c10] at H
                exact absurd H (by simp)
            · rw [if_neg c9] at H
              exact absurd H (by simp)
          · rw [if_neg c8] at H
            have c8b0 : decide (x16_1 < (t207.length : Int)) = false := decide_eq_false c8
            clear c8
            simp only [Option.some.injEq, Prod.mk.injEq] at H
            obtain ⟨rfl, rfl⟩ := H
            go_wp2
            go_ret2
            exact ⟨_, by first | rfl | (simp [errW_none, errW_some] <;> rfl) | (simp [*, errW_none, errW_some] <;> rfl), by (with_reducible repeat (first | apply Kd.R_alloc | apply Kd.R_drewN | apply Kd.R_drew)); exact HO_4.out, by repeat (first | (with_reducible first | exact HB.out | apply below_alloc | apply pw_below_drewN | apply below_drew1) | exact HB.out)⟩
    · replace c4 := Bool.eq_false_iff.mpr c4
      subst c4
      have H1 : (some (([] : List (S62)), 2)) = some (r1, r2) := by rw [if_neg (show ¬ (false = true) by decide)] at H; exact H
      clear H
      have H := H1
      clear H1
      simp only [Option.some.injEq, Prod.mk.injEq] at H
      obtain ⟨rfl, rfl⟩ := H
      go_enter Try.func28, Try.ntmps28
      go_wp2_with (first | ((with_reducible refine gate_callee (f := 33) rfl ?_); refine goesL_ (some 11) rfl rfl Try.func33 (by kernel_rfl) rfl #[.string a0] rfl (by (try simp only [List.map_toArray, List.map_cons, List.map_nil]); first | done | rfl | (simp only [List.length_drop, List.length_take]; rfl)) ?_; (with_reducible refine (spec_Sound.calls k a0 false _ A3.out).mono ?_); rintro e w' ⟨rfl, ⟨nd, rfl⟩⟩; refine ⟨_, rfl, ?_⟩))
      go_ret2
      exact ⟨_, by first | rfl | (simp [errW_none, errW_some] <;> rfl) | (simp [*, errW_none, errW_some] <;> rfl), by first | exact Kd.R_nil _ _ _ _ _ | exact Kd.N_nil _ _ _ _ _ | exact Kd.V_nil _ _ _ _ _ | exact Kd.Q_nil _ _ _ _ _ | exact Kd.S_nil _ _ _ _ _, by repeat (first | (with_reducible first | exact HB.out | apply below_alloc | apply pw_below_drewN | apply below_drew1) | exact HB.out)⟩

end Go.Proofs.Ytjklempjljikpaa.Q

-- Written by a program of this session out of the translation, with the kit's printer. Not trusted: Lean checks it.
namespace Go.Proofs.Ytjklempjljikpaa.Q
open Go.RowKit Go.Proofs.YtjklempjljikpaaW.PrintWords Go.Proofs.YtjklempjljikpaaW.PrintLast Go.Proofs.YtjklempjljikpaaW.PrintMore
attribute [local go_sem] max2_int min2_int max_two min_two max_three min_three max_four min_four   -- for this text's walks alone
set_option linter.unusedVariables false
set_option linter.unusedSimpArgs false

attribute [local go_sem high] eqA36
theorem eqA62 (d : Nat) (w : World) (x0 y0 : ByteArray) (x1 y1 : ByteArray) (x2 y2 : Bool) :
    (Op.equalIn (d + 2) 62 (.agg #[.string x0, .string x1, .bool x2]) (.agg #[.string y0, .string y1, .bool y2])).run Try.prog w = .ok (x0.toList == y0.toList && (x1.toList == y1.toList && (x2 == y2))) w := by
  refine eqA_of Try.underlying62 (by kernel_rfl) ?_
  refine eqf_cons (by rfl) (by go_simp; rfl) (by go_simp; rfl) (by go_simp) ?_
  refine eqf_cons (by rfl) (by go_simp; rfl) (by go_simp; rfl) (by go_simp) ?_
  exact eqf_last (by rfl) (by go_simp; rfl) (by go_simp; rfl) (by go_simp)
attribute [local go_sem high] eqA62
/-! ### laws_alikeArgs: function 29 -/
def laws_alikeArgs.l0 : Nat → List (S36) → List (S62) → Int → Int → Option (Bool)
  | 0, _, _, _, _ => none
  | k + 1, x0, x1, x12, x13 => if x13 < x12 then (if 0 ≤ x13 then (if x13 < (x0.length : Int) then (if x13 < (x1.length : Int) then (if (!((((rd_T36 x0 x13).f0).toList) == (((rd_T62 x1 x13).f0).toList)) || (!((((rd_T36 x0 x13).f1).toList) == (((rd_T62 x1 x13).f1).toList)) || (!(((rd_T36 x0 x13).f2) == ((rd_T62 x1 x13).f2))))) = true then (some false) else (laws_alikeArgs.l0 k x0 x1 x12 (wrap64 (x13 + 1)))) else (none)) else (none)) else (none)) else (some true)
def laws_alikeArgs.f (k : Nat) (l0 : List (S36)) (l1 : List (S62)) : Option (Bool) := if (l0.length : Int) = (l1.length : Int) then (laws_alikeArgs.l0 k l0 l1 (l0.length : Int) 0) else (some false)
theorem laws_alikeArgs.mono_l : ∀ k, (∀ y0 y1 y2 y3, LeO (laws_alikeArgs.l0 k y0 y1 y2 y3) (laws_alikeArgs.l0 (k + 1) y0 y1 y2 y3))
  | 0 => fun _ _ _ _ r h => by simp [laws_alikeArgs.l0] at h
  | k + 1 => by
    have ih0 := laws_alikeArgs.mono_l k
    · intro y0 y1 y2 y3
      unfold laws_alikeArgs.l0
      repeat' first
      | (with_reducible exact ih0 _ _ _ _)
      | (with_reducible exact LeO.refl _)
      | (with_reducible exact LeO.none _)
      | (with_reducible refine LeO.ite ?_ ?_)
      | (with_reducible refine LeO.bind ?_ (fun _ => ?_))
      | exact ih0 _ _ _ _
      | exact LeO.none _
      | refine LeO.ite ?_ ?_
      | refine LeO.bind ?_ (fun _ => ?_)
theorem laws_alikeArgs.mono : ∀ a0 a1 k, LeO (laws_alikeArgs.f k a0 a1) (laws_alikeArgs.f (k + 1) a0 a1) := by
  intro a0 a1 k
  have ih0 := laws_alikeArgs.mono_l k
  unfold laws_alikeArgs.f
  repeat' first
      | (with_reducible exact ih0 _ _ _ _)
      | (with_reducible exact LeO.refl _)
      | (with_reducible exact LeO.none _)
      | (with_reducible refine LeO.ite ?_ ?_)
      | (with_reducible refine LeO.bind ?_ (fun _ => ?_))
      | exact ih0 _ _ _ _
      | exact LeO.none _
      | refine LeO.ite ?_ ?_
      | refine LeO.bind ?_ (fun _ => ?_)
set_option maxHeartbeats 8000000 in
set_option maxRecDepth 100000 in
theorem laws_alikeArgs.calls (k : Nat) (A0 : Option Addr) (c0 : Nat) (l0 : List (S36)) (A1 : Option Addr) (c1 : Nat) (l1 : List (S62)) (r : Bool) (w : World) (hr0 : Kd.C k36 w A0 l0.length l0) (hc0 : l0.length ≤ c0) (hr1 : Kd.C k62 w A1 l1.length l1) (hc1 : l1.length ≤ c1) (h : laws_alikeArgs.f k l0 l1 = some r) :
    Calls Try.prog 29 #[.slice A0 l0.length c0, .slice A1 l1.length c1] w fun e w' => e = .returned (.bool r) ∧ Drawn0 w w' := by
  have hu36 := Try.underlying36
  have hu62 := Try.underlying62
  have HR0 := Aside0.mk hr0
  have HC0 := Aside0.mk hc0
  clear hr0 hc0
  have HR1 := Aside0.mk hr1
  have HC1 := Aside0.mk hc1
  clear hr1 hc1
  have H : (if (l0.length : Int) = (l1.length : Int) then (laws_alikeArgs.l0 k l0 l1 (l0.length : Int) 0) else (some false)) = some r := h
  clear h
  by_cases c3 : (l0.length : Int) = (l1.length : Int)
  · rw [if_pos c3] at H
    have c3b0 : ((l0.length : Int) == (l1.length : Int)) = true := beq_iff_eq.mpr c3
    have c3b1 : ((l0.length : Int) != (l1.length : Int)) = false := bne_eq_false_iff_eq.mpr c3
    have c3b2 : (l0.length == l1.length) = true := by first | simpa using c3 | (simp at c3 ⊢; omega)
    clear c3
    have H' := Aside0.mk H
    clear H
    go_enter Try.func29, Try.ntmps29
    go_wp2
    have hw8_ := Go.Proofs.YtjklempjljikpaaX.wrap_u8; have hw64_ := Go.Proofs.YtjklempjljikpaaX.wrap_i64; repeat (go_quiet (fail); try go_wp2)
    go_loopg [13] k (fun kq v13 w' => ∃ (x13_1 : Int), v13 = .int .i64 x13_1 ∧ Aside0 (laws_alikeArgs.l0 kq l0 l1 (l0.length : Int) x13_1 = some r) ∧ Aside0 (kq ≤ k) ∧ Drawn0 w w')
    case atStart => exact ⟨(0), (by first | rfl | (simp; done) | (simp [*]; done) | (simp [Go.Proofs.YtjklempjljikpaaX.isEmpty_ne]; done)), H', ⟨Nat.le_refl _⟩, by repeat (first | exact Drawn0.refl _ | apply Drawn0.step)⟩
    case round =>
      clear H'
      try clear c1
      try clear c2
      try clear p2
      try clear c3
      try clear c3b0
      try clear c3b1
      try clear c3b2
      obtain ⟨x13_1, rfl, HA, HK1, ⟨m1, rfl⟩⟩ := hrel
      cases gk with
      | zero => exact absurd HA.out (by simp [laws_alikeArgs.l0])
      | succ k1 =>
        have H := HA.out
        clear HA
        simp only [laws_alikeArgs.l0] at H
        by_cases c4 : x13_1 < (l0.length : Int)
        · rw [if_pos c4] at H
          have c4b0 : decide (x13_1 < (l0.length : Int)) = true := decide_eq_true c4
          clear c4
          by_cases c5 : 0 ≤ x13_1
          · rw [if_pos c5] at H
            have c5b0 : decide (0 ≤ x13_1) = true := decide_eq_true c5
            clear c5
            by_cases c6 : x13_1 < (l0.length : Int)
            · rw [if_pos c6] at H
              have c6b0 : decide (x13_1 < (l0.length : Int)) = true := decide_eq_true c6
              clear c6
              by_cases c7 : x13_1 < (l1.length : Int)
              · rw [if_pos c7] at H
                have c7b0 : decide (x13_1 < (l1.length : Int)) = true := decide_eq_true c7
                clear c7
                by_cases c8 : (!((((rd_T36 l0 x13_1).f0).toList) == (((rd_T62 l1 x13_1).f0).toList)) || (!((((rd_T36 l0 x13_1).f1).toList) == (((rd_T62 l1 x13_1).f1).toList)) || (!(((rd_T36 l0 x13_1).f2) == ((rd_T62 l1 x13_1).f2))))) = true
                · rw [if_pos c8] at H
                  have c8b0 : (!((((rd_T36 l0 x13_1).f0).toList) == (((rd_T62 l1 x13_1).f0).toList)) || (!((((rd_T36 l0 x13_1).f1).toList) == (((rd_T62 l1 x13_1).f1).toList)) || (!(((rd_T36 l0 x13_1).f2) == ((rd_T62 l1 x13_1).f2))))) = true := c8
                  clear c8
                  obtain rfl := Option.some.inj H
                  have p221 : 0 ≤ (x13_1 : Int) := of_decide_eq_true (by first | (with_reducible assumption) | assumption)
                  have q221 : x13_1 < (l0.length : Int) := of_decide_eq_true (by first | (with_reducible assumption) | assumption)
                  obtain ⟨ad221, e221, hx221_0, hx221_1, hx221_2⟩ := at_T36 HR0.out x13_1 p221 q221
                  cases e221
                  replace p221 := eq_true p221
                  replace q221 := eq_true q221
                  have p222 : 0 ≤ (x13_1 : Int) := of_decide_eq_true (by first | (with_reducible assumption) | assumption)
                  have q222 : x13_1 < (l1.length : Int) := of_decide_eq_true (by first | (with_reducible assumption) | assumption)
                  obtain ⟨ad222, e222, hx222_0, hx222_1, hx222_2⟩ := at_T62 HR1.out x13_1 p222 q222
                  cases e222
                  replace p222 := eq_true p222
                  replace q222 := eq_true q222
                  go_wp2
                  have hw8_ := Go.Proofs.YtjklempjljikpaaX.wrap_u8; have hw64_ := Go.Proofs.YtjklempjljikpaaX.wrap_i64; repeat (go_quiet (fail); try go_wp2)
                  go_ret
                  exact ⟨by first | rfl | (simp; done) | (simp [*]; done) | (simp [Go.Proofs.YtjklempjljikpaaX.isEmpty_ne]; done), by repeat (first | exact Drawn0.refl _ | apply Drawn0.step)⟩
                · rw [if_neg c8] at H
                  have c8b0 : (!((((rd_T36 l0 x13_1).f0).toList) == (((rd_T62 l1 x13_1).f0).toList)) || (!((((rd_T36 l0 x13_1).f1).toList) == (((rd_T62 l1 x13_1).f1).toList)) || (!(((rd_T36 l0 x13_1).f2) == ((rd_T62 l1 x13_1).f2))))) = false := by simpa using c8
                  clear c8
                  have H' := Aside0.mk H
                  clear H
                  have p221 : 0 ≤ (x13_1 : Int) := of_decide_eq_true (by first | (with_reducible assumption) | assumption)
                  have q221 : x13_1 < (l0.length : Int) := of_decide_eq_true (by first | (with_reducible assumption) | assumption)
                  obtain ⟨ad221, e221, hx221_0, hx221_1, hx221_2⟩ := at_T36 HR0.out x13_1 p221 q221
                  cases e221
                  replace p221 := eq_true p221
                  replace q221 := eq_true q221
                  have p222 : 0 ≤ (x13_1 : Int) := of_decide_eq_true (by first | (with_reducible assumption) | assumption)
                  have q222 : x13_1 < (l1.length : Int) := of_decide_eq_true (by first | (with_reducible assumption) | assumption)
                  obtain ⟨ad222, e222, hx222_0, hx222_1, hx222_2⟩ := at_T62 HR1.out x13_1 p222 q222
                  cases e222
                  replace p222 := eq_true p222
                  replace q222 := eq_true q222
                  go_wp2
                  have hw8_ := Go.Proofs.YtjklempjljikpaaX.wrap_u8; have hw64_ := Go.Proofs.YtjklempjljikpaaX.wrap_i64; repeat (go_quiet (fail); try go_wp2)
                  go_roundg k1
                  case measure => have := HK1.out; omega
                  case rel => exact ⟨(wrap64 (x13_1 + 1)), (by first | rfl | (simp; done) | (simp [*]; done) | (simp [Go.Proofs.YtjklempjljikpaaX.isEmpty_ne]; done)), H', ⟨by have := HK1.out; omega⟩, by repeat (first | exact Drawn0.refl _ | apply Drawn0.step)⟩
              · rw [if_neg c7] at H
                exact absurd H (by simp)
            · rw [if_neg c6] at H
              exact absurd H (by simp)
          · rw [if_neg c5] at H
            exact absurd H (by simp)
        · rw [if_neg c4] at H
          have c4b0 : decide (x13_1 < (l0.length : Int)) = false := decide_eq_false c4
          clear c4
          obtain rfl := Option.some.inj H
          go_wp2
          have hw8_ := Go.Proofs.YtjklempjljikpaaX.wrap_u8; have hw64_ := Go.Proofs.YtjklempjljikpaaX.wrap_i64; repeat (go_quiet (fail); try go_wp2)
          go_ret
          exact ⟨by first | rfl | (simp; done) | (simp [*]; done) | (simp [Go.Proofs.YtjklempjljikpaaX.isEmpty_ne]; done), by repeat (first | exact Drawn0.refl _ | apply Drawn0.step)⟩
  · rw [if_neg c3] at H
    have c3b0 : ((l0.length : Int) == (l1.length : Int)) = false := beq_eq_false_iff_ne.mpr c3
    have c3b1 : ((l0.length : Int) != (l1.length : Int)) = true := bne_iff_ne.mpr c3
    have c3b2 : (l0.length == l1.length) = false := by first | simpa using c3 | (simp at c3 ⊢; omega)
    obtain rfl := Option.some.inj H
    go_enter Try.func29, Try.ntmps29
    go_wp2
    have hw8_ := Go.Proofs.YtjklempjljikpaaX.wrap_u8; have hw64_ := Go.Proofs.YtjklempjljikpaaX.wrap_i64; repeat (go_quiet (fail); try go_wp2)
    go_ret
    exact ⟨by first | rfl | (simp; done) | (simp [*]; done) | (simp [Go.Proofs.YtjklempjljikpaaX.isEmpty_ne]; done), by repeat (first | exact Drawn0.refl _ | apply Drawn0.step)⟩

/-! ### laws_FnArgsSay: function 10 -/
def laws_FnArgsSay.f (k : Nat) (a0 : ByteArray) : Option (Bool) := if (a0.size : Int) > 2147483647 then (some true) else ((laws_reads.f k).bind fun t223 => (if t223 = true then ((laws_short.f k (([a0] : List ByteArray))).bind fun t227 => (if t227 = true then ((spec_ArgsOf.f k a0).bind fun bt228 => (if bt228.2 = 1 then ((impl_ArgsOf.f a0).bind fun t232 => ((laws_alikeArgs.f k t232 bt228.1).bind fun t235 => (some t235))) else (some true))) else (some true))) else (some false)))
theorem laws_FnArgsSay.mono : ∀ a0 k, LeO (laws_FnArgsSay.f k a0) (laws_FnArgsSay.f (k + 1) a0) := by
  intro a0 k
  unfold laws_FnArgsSay.f
  repeat' first
      | (with_reducible exact laws_alikeArgs.mono _ _ _)
      | (with_reducible exact laws_reads.mono _)
      | (with_reducible exact laws_short.mono _ _)
      | (with_reducible exact spec_ArgsOf.mono _ _)
      | (with_reducible exact LeO.refl _)
      | (with_reducible exact LeO.none _)
      | (with_reducible refine LeO.ite ?_ ?_)
      | (with_reducible refine LeO.bind ?_ (fun _ => ?_))
      | exact laws_alikeArgs.mono _ _ _
      | exact laws_reads.mono _
      | exact laws_short.mono _ _
      | exact spec_ArgsOf.mono _ _
      | exact LeO.none _
      | refine LeO.ite ?_ ?_
      | refine LeO.bind ?_ (fun _ => ?_)
set_option maxHeartbeats 8000000 in
set_option maxRecDepth 100000 in
theorem laws_FnArgsSay.calls (k : Nat) (a0 : ByteArray) (r : Bool) (w : World) (h : laws_FnArgsSay.f k a0 = some r) :
    Calls Try.prog 10 #[.string a0] w fun e w' => e = .returned (.bool r) ∧ Below w.heap.size w w' := by
  have HB := Aside0.mk (Below.refl w.heap.size w)
  have H : (if (a0.size : Int) > 2147483647 then (some true) else ((laws_reads.f k).bind fun t223 => (if t223 = true then ((laws_short.f k (([a0] : List ByteArray))).bind fun t227 => (if t227 = true then ((spec_ArgsOf.f k a0).bind fun bt228 => (if bt228.2 = 1 then ((impl_ArgsOf.f a0).bind fun t232 => ((laws_alikeArgs.f k t232 bt228.1).bind fun t235 => (some t235))) else (some true))) else (some true))) else (some false)))) = some r := h
  clear h
  by_cases c2 : (a0.size : Int) > 2147483647
  · rw [if_pos c2] at H
    have c2b0 : decide (2147483647 < (a0.size : Int)) = true := decide_eq_true c2
    have c2b1 : decide (2147483647 < a0.size) = true := decide_eq_true (by omega)
    clear c2
    obtain rfl := Option.some.inj H
    go_enter Try.func10, Try.ntmps10
    go_wp2
    go_ret
    exact ⟨by first | rfl | (simp [errW_none, errW_some] <;> rfl) | (simp [*, errW_none, errW_some] <;> rfl), by repeat (first | (with_reducible first | exact HB.out | apply below_alloc | apply pw_below_drewN | apply below_drew1) | exact HB.out)⟩
  · rw [if_neg c2] at H
    have c2b0 : decide (2147483647 < (a0.size : Int)) = false := decide_eq_false c2
    have c2b1 : decide (2147483647 < a0.size) = false := decide_eq_false (by omega)
    clear c2
    replace H := Option.bind_eq_some_iff.mp H
    obtain ⟨t223, A30, H⟩ := H
    replace H : (if t223 = true then ((laws_short.f k (([a0] : List ByteArray))).bind fun t227 => (if t227 = true then ((spec_ArgsOf.f k a0).bind fun bt228 => (if bt228.2 = 1 then ((impl_ArgsOf.f a0).bind fun t232 => ((laws_alikeArgs.f k t232 bt228.1).bind fun t235 => (some t235))) else (some true))) else (some true))) else (some false)) = some r := H
    have A3 := Aside0.mk A30
    clear A30
    by_cases c4 : t223 = true
    · subst c4
      have H1 : ((laws_short.f k (([a0] : List ByteArray))).bind fun t227 => (if t227 = true then ((spec_ArgsOf.f k a0).bind fun bt228 => (if bt228.2 = 1 then ((impl_ArgsOf.f a0).bind fun t232 => ((laws_alikeArgs.f k t232 bt228.1).bind fun t235 => (some t235))) else (some true))) else (some true))) = some r := by rw [if_pos rfl] at H; exact H
      clear H
      have H := H1
      clear H1
      obtain ⟨y224, hy224⟩ : ∃ y_ : List ByteArray, y_ = (([a0] : List ByteArray)) := ⟨_, rfl⟩
      replace H : ((laws_short.f k y224).bind fun t227 => (if t227 = true then ((spec_ArgsOf.f k a0).bind fun bt228 => (if bt228.2 = 1 then ((impl_ArgsOf.f a0).bind fun t232 => ((laws_alikeArgs.f k t232 bt228.1).bind fun t235 => (some t235))) else (some true))) else (some true))) = some r := by first | (rw [hy224]; with_reducible exact H) | (have H2_ := (Option.bind_some _ _).symm.trans H; rw [hy224]; with_reducible exact H2_) | (have H2_ := (Option.bind_some _ _).symm.trans H; with_reducible exact H2_) | with_reducible exact H | (rw [hy224]; exact H) | exact H
      have Ny224 := Aside0.mk hy224
      clear hy224
      replace H := Option.bind_eq_some_iff.mp H
      obtain ⟨t227, A50, H⟩ := H
      replace H : (if t227 = true then ((spec_ArgsOf.f k a0).bind fun bt228 => (if bt228.2 = 1 then ((impl_ArgsOf.f a0).bind fun t232 => ((laws_alikeArgs.f k t232 bt228.1).bind fun t235 => (some t235))) else (some true))) else (some true)) = some r := H
      have A5 := Aside0.mk A50
      clear A50
      by_cases c6 : t227 = true
      · subst c6
        have H1 : ((spec_ArgsOf.f k a0).bind fun bt228 => (if bt228.2 = 1 then ((impl_ArgsOf.f a0).bind fun t232 => ((laws_alikeArgs.f k t232 bt228.1).bind fun t235 => (some t235))) else (some true))) = some r := by rw [if_pos rfl] at H; exact H
        clear H
        have H := H1
        clear H1
        replace H := Option.bind_eq_some_iff.mp H
        obtain ⟨⟨t228, t229⟩, A70, H⟩ := H
        replace H : (if t229 = 1 then ((impl_ArgsOf.f a0).bind fun t232 => ((laws_alikeArgs.f k t232 t228).bind fun t235 => (some t235))) else (some true)) = some r := H
        have A7 := Aside0.mk A70
        clear A70
        by_cases c8 : t229 = 1
        · rw [if_pos c8] at H
          have c8b0 : (t229 == 1) = true := beq_iff_eq.mpr c8
          have c8b1 : (t229 != 1) = false := bne_eq_false_iff_eq.mpr c8
          clear c8
          replace H := Option.bind_eq_some_iff.mp H
          obtain ⟨t232, A90, H⟩ := H
          replace H : ((laws_alikeArgs.f k t232 t228).bind fun t235 => (some t235)) = some r := H
          have A9 := Aside0.mk A90
          clear A90
          replace H := Option.bind_eq_some_iff.mp H
          obtain ⟨t235, A100, H⟩ := H
          replace H : (some t235) = some r := H
          have A10 := Aside0.mk A100
          clear A100
          obtain rfl := Option.some.inj H
          go_enter Try.func10, Try.ntmps10
          go_wp2_with (first | ((with_reducible refine gate_callee (f := 22) rfl ?_); refine goesL_ (some 8) rfl rfl Try.func22 (by kernel_rfl) rfl #[] rfl (by (try simp only [List.map_toArray, List.map_cons, List.map_nil]); first | done | rfl | (simp only [List.length_drop, List.length_take]; rfl)) ?_; (with_reducible refine (laws_reads.calls k  true _ A3.out).mono ?_); rintro e w11 ⟨rfl, hb⟩; refine ⟨_, rfl, ?_⟩; have n0_ := Aside0.mk (below_step (by repeat (first | (with_reducible first | exact HB.out | apply below_alloc | apply pw_below_drewN | apply below_drew1) | exact HB.out)) hb); clear HB; have HB := n0_; clear n0_; (try clear hb); (try clear hb2); (try clear hk); (try clear hi)) | ((with_reducible refine gate_dst (N := 11) rfl ?_); refine Kd.R_lit Kd.string _ 9 ?hg (N := 11) ?hd (xs := ([a0] : List ByteArray)) (inner := [.string a0]) (ok := fun _ => True) (okp := fun _ => True) ?hr ?hp (fun _ hk => hk) trivial (Below.refl _ _) (Nat.le_refl _) (by simp) ?_; (case hd => rfl); (case hg => rfl); (case hr => first | (go_simp; done) | (go_simp; rfl)); (case hp => exact (Reps.one (show Kd.M Kd.string _ _ _ a0 [.string a0] from rfl) (Reps.none _ _))); intro v225 w12 ho13 hb hg_ hnew_; clear hg_ hnew_; (first | rw [← Ny224.out] at ho13 | (simp only [Int.reduceToNat] at ho13; rw [← Ny224.out] at ho13)); have n0_ := Aside0.mk (Kd.R_lower ho13 (below_size (by repeat (first | (with_reducible first | exact HB.out | apply below_alloc | apply pw_below_drewN | apply below_drew1) | exact HB.out)))); have n1_ := Aside0.mk (below_step (by repeat (first | (with_reducible first | exact HB.out | apply below_alloc | apply pw_below_drewN | apply below_drew1) | exact HB.out)) hb); clear HB; have HO226 := n0_; have HB := n1_; clear n0_ n1_; clear hb ho13; obtain ⟨Ao14, co14, eo14⟩ := Kd.R_slice HO226.out; subst eo14) | ((with_reducible refine gate_callee (f := 14) rfl ?_); refine goesL_ (some 12) rfl rfl Try.func14 (by kernel_rfl) rfl #[.slice Ao14 y224.length co14] rfl (by (try simp only [List.map_toArray, List.map_cons, List.map_nil]); first | done | rfl | (simp only [List.length_drop, List.length_take]; rfl)) ?_; (with_reducible refine (laws_short.calls k _ _ y224 true _ ?side1 ?side2 A5.out).mono ?_); (case side1 => repeat (first | exact (Kd.R_reads' HO226.out).2.2 | (with_reducible refine Kd.C_alloc ?_ _) | (with_reducible refine Kd.C_drewN ?_ _) | (with_reducible refine Kd.C_drew ?_))); (case side2 => exact (Kd.R_reads' HO226.out).2.1); rintro e w' ⟨rfl, ⟨nd, rfl⟩⟩; refine ⟨_, rfl, ?_⟩) | ((with_reducible refine gate_callee (f := 28) rfl ?_); refine goesL_ (some 16) rfl rfl Try.func28 (by kernel_rfl) rfl #[.string a0] rfl (by (try simp only [List.map_toArray, List.map_cons, List.map_nil]); first | done | rfl | (simp only [List.length_drop, List.length_take]; rfl)) ?_; (with_reducible refine (spec_ArgsOf.calls k a0 t228 t229 _ A7.out).mono ?_); rintro e w15 ⟨v230, rfl, ho0, hb⟩; refine ⟨_, rfl, ?_⟩; have n0_ := Aside0.mk (Kd.R_below (by (with_reducible repeat (first | apply Kd.R_alloc | apply Kd.R_drewN | apply Kd.R_drew)); exact HO226.out) hb); have n1_ := Aside0.mk (Kd.R_lower ho0 (below_size (by repeat (first | (with_reducible first | exact HB.out | apply below_alloc | apply pw_below_drewN | apply below_drew1) | exact HB.out)))); have n2_ := Aside0.mk (below_step (by repeat (first | (with_reducible first | exact HB.out | apply below_alloc | apply pw_below_drewN | apply below_drew1) | exact HB.out)) hb); clear HO226; clear HB; have HO226 := n0_; have HO231 := n1_; have HB := n2_; clear n0_ n1_ n2_; (try clear hb); (try clear hb2); (try clear hk); (try clear hi); (try clear ho0)) | (go_at_call 23; (with_reducible refine (impl_ArgsOf.calls a0 t232 _ A9.out).mono ?_); rintro e w16 ⟨v233, rfl, ho0, hb⟩; have n0_ := Aside0.mk (Kd.R_below (by (with_reducible repeat (first | apply Kd.R_alloc | apply Kd.R_drewN | apply Kd.R_drew)); exact HO226.out) hb); have n1_ := Aside0.mk (Kd.R_below (by (with_reducible repeat (first | apply Kd.R_alloc | apply Kd.R_drewN | apply Kd.R_drew)); exact HO231.out) hb); have n2_ := Aside0.mk (Kd.R_lower ho0 (below_size (by repeat (first | (with_reducible first | exact HB.out | apply below_alloc | apply pw_below_drewN | apply below_drew1) | exact HB.out)))); have n3_ := Aside0.mk (below_step (by repeat (first | (with_reducible first | exact HB.out | apply below_alloc | apply pw_below_drewN | apply below_drew1) | exact HB.out)) hb); clear HO226; clear HO231; clear HB; have HO226 := n0_; have HO231 := n1_; have HO234 := n2_; have HB := n3_; clear n0_ n1_ n2_ n3_; (try clear hb); (try clear hb2); (try clear hk); (try clear hi); (try clear ho0); obtain ⟨Ao17, co17, eo17⟩ := Kd.R_slice HO234.out; subst eo17; obtain ⟨Ao18, co18, eo18⟩ := Kd.R_slice HO231.out; subst eo18) | (go_at_call 29; (with_reducible refine (laws_alikeArgs.calls k _ _ t232 _ _ t228 t235 _ ?side1 ?side2 ?side3 ?side4 A10.out).mono ?_); (case side1 => repeat (first | exact (Kd.R_reads' HO234.out).2.2 | (with_reducible refine Kd.C_alloc ?_ _) | (with_reducible refine Kd.C_drewN ?_ _) | (with_reducible refine Kd.C_drew ?_))); (case side2 => exact (Kd.R_reads' HO234.out).2.1); (case side3 => repeat (first | exact (Kd.R_reads' HO231.out).2.2 | (with_reducible refine Kd.C_alloc ?_ _) | (with_reducible refine Kd.C_drewN ?_ _) | (with_reducible refine Kd.C_drew ?_))); (case side4 => exact (Kd.R_reads' HO231.out).2.1); rintro e w' ⟨rfl, ⟨nd, rfl⟩⟩))
          go_ret
          exact ⟨by first | rfl | (simp [errW_none, errW_some] <;> rfl) | (simp [*, errW_none, errW_some] <;> rfl), by repeat (first | (with_reducible first | exact HB.out | apply below_alloc | apply pw_below_drewN | apply below_drew1) | exact HB.out)⟩
        · rw [if_neg c8] at H
          have c8b0 : (t229 == 1) = false := beq_eq_false_iff_ne.mpr c8
          have c8b1 : (t229 != 1) = true := bne_iff_ne.mpr c8
          obtain rfl := Option.some.inj H
          go_enter Try.func10, Try.ntmps10
          go_wp2_with (first | ((with_reducible refine gate_callee (f := 22) rfl ?_); refine goesL_ (some 8) rfl rfl Try.func22 (by kernel_rfl) rfl #[] rfl (by (try simp only [List.map_toArray, List.map_cons, List.map_nil]); first | done | rfl | (simp only [List.length_drop, List.length_take]; rfl)) ?_; (with_reducible refine (laws_reads.calls k  true _ A3.out).mono ?_); rintro e w19 ⟨rfl, hb⟩; refine ⟨_, rfl, ?_⟩; have n0_ := Aside0.mk (below_step (by repeat (first | (with_reducible first | exact HB.out | apply below_alloc | apply pw_below_drewN | apply below_drew1) | exact HB.out)) hb); clear HB; have HB := n0_; clear n0_; (try clear hb); (try clear hb2); (try clear hk); (try clear hi)) | ((with_reducible refine gate_dst (N := 11) rfl ?_); refine Kd.R_lit Kd.string _ 9 ?hg (N := 11) ?hd (xs := ([a0] : List ByteArray)) (inner := [.string a0]) (ok := fun _ => True) (okp := fun _ => True) ?hr ?hp (fun _ hk => hk) trivial (Below.refl _ _) (Nat.le_refl _) (by simp) ?_; (case hd => rfl); (case hg => rfl); (case hr => first | (go_simp; done) | (go_simp; rfl)); (case hp => exact (Reps.one (show Kd.M Kd.string _ _ _ a0 [.string a0] from rfl) (Reps.none _ _))); intro v225 w20 ho21 hb hg_ hnew_; clear hg_ hnew_; (first | rw [← Ny224.out] at ho21 | (simp only [Int.reduceToNat] at ho21; rw [← Ny224.out] at ho21)); have n0_ := Aside0.mk (Kd.R_lower ho21 (below_size (by repeat (first | (with_reducible first | exact HB.out | apply below_alloc | apply pw_below_drewN | apply below_drew1) | exact HB.out)))); have n1_ := Aside0.mk (below_step (by repeat (first | (with_reducible first | exact HB.out | apply below_alloc | apply pw_below_drewN | apply below_drew1) | exact HB.out)) hb); clear HB; have HO226 := n0_; have HB := n1_; clear n0_ n1_; clear hb ho21; obtain ⟨Ao22, co22, eo22⟩ := Kd.R_slice HO226.out; subst eo22) | ((with_reducible refine gate_callee (f := 14) rfl ?_); refine goesL_ (some 12) rfl rfl Try.func14 (by kernel_rfl) rfl #[.slice Ao22 y224.length co22] rfl (by (try simp only [List.map_toArray, List.map_cons, List.map_nil]); first | done | rfl | (simp only [List.length_drop, List.length_take]; rfl)) ?_; (with_reducible refine (laws_short.calls k _ _ y224 true _ ?side1 ?side2 A5.out).mono ?_); (case side1 => repeat (first | exact (Kd.R_reads' HO226.out).2.2 | (with_reducible refine Kd.C_alloc ?_ _) | (with_reducible refine Kd.C_drewN ?_ _) | (with_reducible refine Kd.C_drew ?_))); (case side2 => exact (Kd.R_reads' HO226.out).2.1); rintro e w' ⟨rfl, ⟨nd, rfl⟩⟩; refine ⟨_, rfl, ?_⟩) | ((with_reducible refine gate_callee (f := 28) rfl ?_); refine goesL_ (some 16) rfl rfl Try.func28 (by kernel_rfl) rfl #[.string a0] rfl (by (try simp only [List.map_toArray, List.map_cons, List.map_nil]); first | done | rfl | (simp only [List.length_drop, List.length_take]; rfl)) ?_; (with_reducible refine (spec_ArgsOf.calls k a0 t228 t229 _ A7.out).mono ?_); rintro e w23 ⟨v230, rfl, ho0, hb⟩; refine ⟨_, rfl, ?_⟩; have n0_ := Aside0.mk (Kd.R_below (by (with_reducible repeat (first | apply Kd.R_alloc | apply Kd.R_drewN | apply Kd.R_drew)); exact HO226.out) hb); have n1_ := Aside0.mk (Kd.R_lower ho0 (below_size (by repeat (first | (with_reducible first | exact HB.out | apply below_alloc | apply pw_below_drewN | apply below_drew1) | exact HB.out)))); have n2_ := Aside0.mk (below_step (by repeat (first | (with_reducible first | exact HB.out | apply below_alloc | apply pw_below_drewN | apply below_drew1) | exact HB.out)) hb); clear HO226; clear HB; have HO226 := n0_; have HO231 := n1_; have HB := n2_; clear n0_ n1_ n2_; (try clear hb); (try clear hb2); (try clear hk); (try clear hi); (try clear ho0)))
          go_ret
          exact ⟨by first | rfl | (simp [errW_none, errW_some] <;> rfl) | (simp [*, errW_none, errW_some] <;> rfl), by repeat (first | (with_reducible first | exact HB.out | apply below_alloc | apply pw_below_drewN | apply below_drew1) | exact HB.out)⟩
      · replace c6 := Bool.eq_false_iff.mpr c6
        subst c6
        have H1 : (some true) = some r := by rw [if_neg (show ¬ (false = true) by decide)] at H; exact H
        clear H
        have H := H1
        clear H1
        obtain rfl := Option.some.inj H
        go_enter Try.func10, Try.ntmps10
        go_wp2_with (first | ((with_reducible refine gate_callee (f := 22) rfl ?_); refine goesL_ (some 8) rfl rfl Try.func22 (by kernel_rfl) rfl #[] rfl (by (try simp only [List.map_toArray, List.map_cons, List.map_nil]); first | done | rfl | (simp only [List.length_drop, List.length_take]; rfl)) ?_; (with_reducible refine (laws_reads.calls k  true _ A3.out).mono ?_); rintro e w24 ⟨rfl, hb⟩; refine ⟨_, rfl, ?_⟩; have n0_ := Aside0.mk (below_step (by repeat (first | (with_reducible first | exact HB.out | apply below_alloc | apply pw_below_drewN | apply below_drew1) | exact HB.out)) hb); clear HB; have HB := n0_; clear n0_; (try clear hb); (try clear hb2); (try clear hk); (try clear hi)) | ((with_reducible refine gate_dst (N := 11) rfl ?_); refine Kd.R_lit Kd.string _ 9 ?hg (N := 11) ?hd (xs := ([a0] : List ByteArray)) (inner := [.string a0]) (ok := fun _ => True) (okp := fun _ => True) ?hr ?hp (fun _ hk => hk) trivial (Below.refl _ _) (Nat.le_refl _) (by simp) ?_; (case hd => rfl); (case hg => rfl); (case hr => first | (go_simp; done) | (go_simp; rfl)); (case hp => exact (Reps.one (show Kd.M Kd.string _ _ _ a0 [.string a0] from rfl) (Reps.none _ _))); intro v225 w25 ho26 hb hg_ hnew_; clear hg_ hnew_; (first | rw [← Ny224.out] at ho26 | (simp only [Int.reduceToNat] at ho26; rw [← Ny224.out] at ho26)); have n0_ := Aside0.mk (Kd.R_lower ho26 (below_size (by repeat (first | (with_reducible first | exact HB.out | apply below_alloc | apply pw_below_drewN | apply below_drew1) | exact HB.out)))); have n1_ := Aside0.mk (below_step (by repeat (first | (with_reducible first | exact HB.out | apply below_alloc | apply pw_below_drewN | apply below_drew1) | exact HB.out)) hb); clear HB; have HO226 := n0_; have HB := n1_; clear n0_ n1_; clear hb ho26; obtain ⟨Ao27, co27, eo27⟩ := Kd.R_slice HO226.out; subst eo27) | ((with_reducible refine gate_callee (f := 14) rfl ?_); refine goesL_ (some 12) rfl rfl Try.func14 (by kernel_rfl) rfl #[.slice Ao27 y224.length co27] rfl (by (try simp only [List.map_toArray, List.map_cons, List.map_nil]); first | done | rfl | (simp only [List.length_drop, List.length_take]; rfl)) ?_; (with_reducible refine (laws_short.calls k _ _ y224 false _ ?side1 ?side2 A5.out).mono ?_); (case side1 => repeat (first | exact (Kd.R_reads' HO226.out).2.2 | (with_reducible refine Kd.C_alloc ?_ _) | (with_reducible refine Kd.C_drewN ?_ _) | (with_reducible refine Kd.C_drew ?_))); (case side2 => exact (Kd.R_reads' HO226.out).2.1); rintro e w' ⟨rfl, ⟨nd, rfl⟩⟩; refine ⟨_, rfl, ?_⟩))
        go_ret
        exact ⟨by first | rfl | (simp [errW_none, errW_some] <;> rfl) | (simp [*, errW_none, errW_some] <;> rfl), by repeat (first | (with_reducible first | exact HB.out | apply below_alloc | apply pw_below_drewN | apply below_drew1) | exact HB.out)⟩
    · replace c4 := Bool.eq_false_iff.mpr c4
      subst c4
      have H1 : (some false) = some r := by rw [if_neg (show ¬ (false = true) by decide)] at H; exact H
      clear H
      have H := H1
      clear H1
      obtain rfl := Option.some.inj H
      go_enter Try.func10, Try.ntmps10
      go_wp2_with (first | ((with_reducible refine gate_callee (f := 22) rfl ?_); refine goesL_ (some 8) rfl rfl Try.func22 (by kernel_rfl) rfl #[] rfl (by (try simp only [List.map_toArray, List.map_cons, List.map_nil]); first | done | rfl | (simp only [List.length_drop, List.length_take]; rfl)) ?_; (with_reducible refine (laws_reads.calls k  false _ A3.out).mono ?_); rintro e w28 ⟨rfl, hb⟩; refine ⟨_, rfl, ?_⟩; have n0_ := Aside0.mk (below_step (by repeat (first | (with_reducible first | exact HB.out | apply below_alloc | apply pw_below_drewN | apply below_drew1) | exact HB.out)) hb); clear HB; have HB := n0_; clear n0_; (try clear hb); (try clear hb2); (try clear hk); (try clear hi)))
      go_ret
      exact ⟨by first | rfl | (simp [errW_none, errW_some] <;> rfl) | (simp [*, errW_none, errW_some] <;> rfl), by repeat (first | (with_reducible first | exact HB.out | apply below_alloc | apply pw_below_drewN | apply below_drew1) | exact HB.out)⟩

/-- THE ONE PURE STATEMENT of laws_FnArgsSay: yours. -/
def laws_FnArgsSay.Pure : Prop := ∀ (a0 : ByteArray), a0.size ≤ 140737488351232 → ∃ k, laws_FnArgsSay.f k a0 = some true
theorem laws_FnArgsSay.walk (P : laws_FnArgsSay.Pure) (a0 : ByteArray) (w : World) (w0 : a0.size ≤ 140737488351232) :
    Calls Try.prog 10 #[.string a0] w fun e w' => e = .returned (.bool true) ∧ Below w.heap.size w w' := by
  obtain ⟨k, h⟩ := P a0 w0
  refine (laws_FnArgsSay.calls k a0 true w h).mono ?_
  rintro e w' ⟨rfl, hd⟩
  exact ⟨rfl, hd⟩

end Go.Proofs.Ytjklempjljikpaa.Q

-- Written by a program of this session out of the translation, with the kit's printer. Not trusted: Lean checks it.
namespace Go.Proofs.Ytjklempjljikpaa.Q
open Go.RowKit Go.Proofs.YtjklempjljikpaaW.PrintWords Go.Proofs.YtjklempjljikpaaW.PrintLast Go.Proofs.YtjklempjljikpaaW.PrintMore
attribute [local go_sem] max2_int min2_int max_two min_two max_three min_three max_four min_four   -- for this text's walks alone
set_option linter.unusedVariables false
set_option linter.unusedSimpArgs false

/-! ### laws_zzFits8: function 43 -/
def laws_zzFits8.f (a0_0 : ByteArray) (a0_1 : ByteArray) (a0_2 : Bool) : Option (Bool) := if (a0_0.size : Int) > 2147483647 then (some false) else (if (a0_1.size : Int) > 2147483647 then (some false) else (some true))
set_option maxHeartbeats 8000000 in
set_option maxRecDepth 100000 in
theorem laws_zzFits8.calls (a0_0 : ByteArray) (a0_1 : ByteArray) (a0_2 : Bool) (r : Bool) (w : World) (h : laws_zzFits8.f a0_0 a0_1 a0_2 = some r) :
    Calls Try.prog 43 #[.agg #[.string a0_0, .string a0_1, .bool a0_2]] w fun e w' => e = .returned (.bool r) ∧ Below w.heap.size w w' := by
  have hu36 := Try.underlying36
  have HB := Aside0.mk (Below.refl w.heap.size w)
  have H : (if (a0_0.size : Int) > 2147483647 then (some false) else (if (a0_1.size : Int) > 2147483647 then (some false) else (some true))) = some r := h
  clear h
  by_cases c2 : (a0_0.size : Int) > 2147483647
  · rw [if_pos c2] at H
    have c2b0 : decide (2147483647 < (a0_0.size : Int)) = true := decide_eq_true c2
    have c2b1 : decide (2147483647 < a0_0.size) = true := decide_eq_true (by omega)
    clear c2
    obtain rfl := Option.some.inj H
    go_enter Try.func43, Try.ntmps43
    go_wp2_with (first | ((with_reducible refine gate_dst (N := 1) rfl ?_); refine box_event ?hg (N := 1) ?hd (cs := #[.string a0_0, .string a0_1, .bool a0_2]) (t := 36) ?hr ?_; (case hd => rfl); (case hg => rfl); (case hr => first | (go_simp; done) | (go_simp; rfl)); intro gb236 hg w3 hbox hb; have n0_ := Aside0.mk (below_step (by repeat (first | (with_reducible first | exact HB.out | apply below_alloc | apply pw_below_drewN | apply below_drew1) | exact HB.out)) hb); have n1_ := Aside0.mk (hbox); have n2_ := Aside0.mk ((by rw [hg]; exact (below_size (by repeat (first | (with_reducible first | exact HB.out | apply below_alloc | apply pw_below_drewN | apply below_drew1) | exact HB.out))) : w.heap.size ≤ gb236)); have n3_ := Aside0.mk ((by rw [hg]; exact (below_size (by repeat (first | (with_reducible first | exact HB.out | apply below_alloc | apply pw_below_drewN | apply below_drew1) | exact HB.out))) : w.heap.size ≤ gb236)); clear HB; have HB := n0_; have BK236 := n1_; have GW236 := n2_; have GE236 := n3_; clear n0_ n1_ n2_ n3_; clear hb hbox hg; have hcz4_0 : w3.cell? ⟨gb236, 0, none⟩ = some (.string a0_0) := (blk_cell BK236.out 0).trans rfl; have hcz4_1 : w3.cell? ⟨gb236, 1, none⟩ = some (.string a0_1) := (blk_cell BK236.out 1).trans rfl; have hcz4_2 : w3.cell? ⟨gb236, 2, none⟩ = some (.bool a0_2) := (blk_cell BK236.out 2).trans rfl; have hfz4_0 := blk_frozen BK236.out 0; have hfz4_1 := blk_frozen BK236.out 1; have hfz4_2 := blk_frozen BK236.out 2))
    go_ret
    exact ⟨by first | rfl | (simp [errW_none, errW_some] <;> rfl) | (simp [*, errW_none, errW_some] <;> rfl), by repeat (first | (with_reducible first | exact HB.out | apply below_alloc | apply pw_below_drewN | apply below_drew1 | refine below_set ?_ GE236.out) | exact HB.out)⟩
  · rw [if_neg c2] at H
    have c2b0 : decide (2147483647 < (a0_0.size : Int)) = false := decide_eq_false c2
    have c2b1 : decide (2147483647 < a0_0.size) = false := decide_eq_false (by omega)
    clear c2
    by_cases c5 : (a0_1.size : Int) > 2147483647
    · rw [if_pos c5] at H
      have c5b0 : decide (2147483647 < (a0_1.size : Int)) = true := decide_eq_true c5
      have c5b1 : decide (2147483647 < a0_1.size) = true := decide_eq_true (by omega)
      clear c5
      obtain rfl := Option.some.inj H
      go_enter Try.func43, Try.ntmps43
      go_wp2_with (first | ((with_reducible refine gate_dst (N := 1) rfl ?_); refine box_event ?hg (N := 1) ?hd (cs := #[.string a0_0, .string a0_1, .bool a0_2]) (t := 36) ?hr ?_; (case hd => rfl); (case hg => rfl); (case hr => first | (go_simp; done) | (go_simp; rfl)); intro gb236 hg w6 hbox hb; have n0_ := Aside0.mk (below_step (by repeat (first | (with_reducible first | exact HB.out | apply below_alloc | apply pw_below_drewN | apply below_drew1) | exact HB.out)) hb); have n1_ := Aside0.mk (hbox); have n2_ := Aside0.mk ((by rw [hg]; exact (below_size (by repeat (first | (with_reducible first | exact HB.out | apply below_alloc | apply pw_below_drewN | apply below_drew1) | exact HB.out))) : w.heap.size ≤ gb236)); have n3_ := Aside0.mk ((by rw [hg]; exact (below_size (by repeat (first | (with_reducible first | exact HB.out | apply below_alloc | apply pw_below_drewN | apply below_drew1) | exact HB.out))) : w.heap.size ≤ gb236)); clear HB; have HB := n0_; have BK236 := n1_; have GW236 := n2_; have GE236 := n3_; clear n0_ n1_ n2_ n3_; clear hb hbox hg; have hcz7_0 : w6.cell? ⟨gb236, 0, none⟩ = some (.string a0_0) := (blk_cell BK236.out 0).trans rfl; have hcz7_1 : w6.cell? ⟨gb236, 1, none⟩ = some (.string a0_1) := (blk_cell BK236.out 1).trans rfl; have hcz7_2 : w6.cell? ⟨gb236, 2, none⟩ = some (.bool a0_2) := (blk_cell BK236.out 2).trans rfl; have hfz7_0 := blk_frozen BK236.out 0; have hfz7_1 := blk_frozen BK236.out 1; have hfz7_2 := blk_frozen BK236.out 2))
      go_ret
      exact ⟨by first | rfl | (simp [errW_none, errW_some] <;> rfl) | (simp [*, errW_none, errW_some] <;> rfl), by repeat (first | (with_reducible first | exact HB.out | apply below_alloc | apply pw_below_drewN | apply below_drew1 | refine below_set ?_ GE236.out) | exact HB.out)⟩
    · rw [if_neg c5] at H
      have c5b0 : decide (2147483647 < (a0_1.size : Int)) = false := decide_eq_false c5
      have c5b1 : decide (2147483647 < a0_1.size) = false := decide_eq_false (by omega)
      clear c5
      obtain rfl := Option.some.inj H
      go_enter Try.func43, Try.ntmps43
      go_wp2_with (first | ((with_reducible refine gate_dst (N := 1) rfl ?_); refine box_event ?hg (N := 1) ?hd (cs := #[.string a0_0, .string a0_1, .bool a0_2]) (t := 36) ?hr ?_; (case hd => rfl); (case hg => rfl); (case hr => first | (go_simp; done) | (go_simp; rfl)); intro gb236 hg w8 hbox hb; have n0_ := Aside0.mk (below_step (by repeat (first | (with_reducible first | exact HB.out | apply below_alloc | apply pw_below_drewN | apply below_drew1) | exact HB.out)) hb); have n1_ := Aside0.mk (hbox); have n2_ := Aside0.mk ((by rw [hg]; exact (below_size (by repeat (first | (with_reducible first | exact HB.out | apply below_alloc | apply pw_below_drewN | apply below_drew1) | exact HB.out))) : w.heap.size ≤ gb236)); have n3_ := Aside0.mk ((by rw [hg]; exact (below_size (by repeat (first | (with_reducible first | exact HB.out | apply below_alloc | apply pw_below_drewN | apply below_drew1) | exact HB.out))) : w.heap.size ≤ gb236)); clear HB; have HB := n0_; have BK236 := n1_; have GW236 := n2_; have GE236 := n3_; clear n0_ n1_ n2_ n3_; clear hb hbox hg; have hcz9_0 : w8.cell? ⟨gb236, 0, none⟩ = some (.string a0_0) := (blk_cell BK236.out 0).trans rfl; have hcz9_1 : w8.cell? ⟨gb236, 1, none⟩ = some (.string a0_1) := (blk_cell BK236.out 1).trans rfl; have hcz9_2 : w8.cell? ⟨gb236, 2, none⟩ = some (.bool a0_2) := (blk_cell BK236.out 2).trans rfl; have hfz9_0 := blk_frozen BK236.out 0; have hfz9_1 := blk_frozen BK236.out 1; have hfz9_2 := blk_frozen BK236.out 2))
      go_ret
      exact ⟨by first | rfl | (simp [errW_none, errW_some] <;> rfl) | (simp [*, errW_none, errW_some] <;> rfl), by repeat (first | (with_reducible first | exact HB.out | apply below_alloc | apply pw_below_drewN | apply below_drew1 | refine below_set ?_ GE236.out) | exact HB.out)⟩

/-! ### laws_zzFits7: function 26 -/
def laws_zzFits7.l0 : Nat → List (S36) → Int → Int → Option (Bool)
  | 0, _, _, _ => none
  | k + 1, x8, x9, x10 => if x10 < x9 then (if 0 ≤ x10 then (if x10 < (x8.length : Int) then ((laws_zzFits8.f ((rd_T36 x8 x10).f0) ((rd_T36 x8 x10).f1) ((rd_T36 x8 x10).f2)).bind fun t239 => (if t239 = true then (laws_zzFits7.l0 k x8 x9 (wrap64 (x10 + 1))) else (some false))) else (none)) else (none)) else (some true)
def laws_zzFits7.f (k : Nat) (l0 : List (S36)) : Option (Bool) := if (l0.length : Int) > 2147483647 then (some false) else (laws_zzFits7.l0 k l0 (l0.length : Int) 0)
theorem laws_zzFits7.mono_l : ∀ k, (∀ y0 y1 y2, LeO (laws_zzFits7.l0 k y0 y1 y2) (laws_zzFits7.l0 (k + 1) y0 y1 y2))
  | 0 => fun _ _ _ r h => by simp [laws_zzFits7.l0] at h
  | k + 1 => by
    have ih0 := laws_zzFits7.mono_l k
    · intro y0 y1 y2
      unfold laws_zzFits7.l0
      repeat' first
      | (with_reducible exact ih0 _ _ _)
      | (with_reducible exact LeO.refl _)
      | (with_reducible exact LeO.none _)
      | (with_reducible refine LeO.ite ?_ ?_)
      | (with_reducible refine LeO.bind ?_ (fun _ => ?_))
      | exact ih0 _ _ _
      | exact LeO.none _
      | refine LeO.ite ?_ ?_
      | refine LeO.bind ?_ (fun _ => ?_)
theorem laws_zzFits7.mono : ∀ a0 k, LeO (laws_zzFits7.f k a0) (laws_zzFits7.f (k + 1) a0) := by
  intro a0 k
  have ih0 := laws_zzFits7.mono_l k
  unfold laws_zzFits7.f
  repeat' first
      | (with_reducible exact ih0 _ _ _)
      | (with_reducible exact LeO.refl _)
      | (with_reducible exact LeO.none _)
      | (with_reducible refine LeO.ite ?_ ?_)
      | (with_reducible refine LeO.bind ?_ (fun _ => ?_))
      | exact ih0 _ _ _
      | exact LeO.none _
      | refine LeO.ite ?_ ?_
      | refine LeO.bind ?_ (fun _ => ?_)
set_option maxHeartbeats 8000000 in
set_option maxRecDepth 100000 in
theorem laws_zzFits7.calls (k : Nat) (A0 : Option Addr) (c0 : Nat) (l0 : List (S36)) (r : Bool) (w : World) (hr0 : Kd.C k36 w A0 l0.length l0) (hc0 : l0.length ≤ c0) (h : laws_zzFits7.f k l0 = some r) :
    Calls Try.prog 26 #[.slice A0 l0.length c0] w fun e w' => e = .returned (.bool r) ∧ Below w.heap.size w w' := by
  have hu36 := Try.underlying36
  have HR0 := Aside0.mk hr0
  have HC0 := Aside0.mk hc0
  clear hr0 hc0
  have HB := Aside0.mk (Below.refl w.heap.size w)
  have H : (if (l0.length : Int) > 2147483647 then (some false) else (laws_zzFits7.l0 k l0 (l0.length : Int) 0)) = some r := h
  clear h
  by_cases c2 : (l0.length : Int) > 2147483647
  · rw [if_pos c2] at H
    have c2b0 : decide (2147483647 < (l0.length : Int)) = true := decide_eq_true c2
    have c2b1 : decide (2147483647 < l0.length) = true := decide_eq_true (by omega)
    clear c2
    obtain rfl := Option.some.inj H
    go_enter Try.func26, Try.ntmps26
    go_wp2
    go_ret
    exact ⟨by first | rfl | (simp [errW_none, errW_some] <;> rfl) | (simp [*, errW_none, errW_some] <;> rfl), by repeat (first | (with_reducible first | exact HB.out | apply below_alloc | apply pw_below_drewN | apply below_drew1) | exact HB.out)⟩
  · rw [if_neg c2] at H
    have c2b0 : decide (2147483647 < (l0.length : Int)) = false := decide_eq_false c2
    have c2b1 : decide (2147483647 < l0.length) = false := decide_eq_false (by omega)
    clear c2
    have H' := Aside0.mk H
    clear H
    go_enter Try.func26, Try.ntmps26
    go_wp2
    go_loopg [10] k (fun kq v10 w' => ∃ (x10_1 : Int), v10 = .int .i64 x10_1 ∧ Aside0 (laws_zzFits7.l0 kq l0 (l0.length : Int) x10_1 = some r) ∧ Aside0 (kq ≤ k) ∧ Aside0 (Below w.heap.size w w'))
    case atStart => exact ⟨(0), (by first | rfl | (simp; done) | (simp [*]; done) | (simp [Go.Proofs.YtjklempjljikpaaX.isEmpty_ne]; done)), H', ⟨Nat.le_refl _⟩, ⟨by repeat (first | (with_reducible first | exact HB.out | apply below_alloc | apply pw_below_drewN | apply below_drew1) | exact HB.out)⟩⟩
    case round =>
      clear H'
      try clear c2
      try clear c2b0
      try clear c2b1
      try clear p2
      obtain ⟨x10_1, rfl, HA, HK1, HB⟩ := hrel
      cases gk with
      | zero => exact absurd HA.out (by simp [laws_zzFits7.l0])
      | succ k1 =>
        have H := HA.out
        clear HA
        simp only [laws_zzFits7.l0] at H
        by_cases c3 : x10_1 < (l0.length : Int)
        · rw [if_pos c3] at H
          have c3b0 : decide (x10_1 < (l0.length : Int)) = true := decide_eq_true c3
          clear c3
          by_cases c4 : 0 ≤ x10_1
          · rw [if_pos c4] at H
            have c4b0 : decide (0 ≤ x10_1) = true := decide_eq_true c4
            clear c4
            by_cases c5 : x10_1 < (l0.length : Int)
            · rw [if_pos c5] at H
              have c5b0 : decide (x10_1 < (l0.length : Int)) = true := decide_eq_true c5
              clear c5
              replace H := Option.bind_eq_some_iff.mp H
              obtain ⟨t239, A60, H⟩ := H
              replace H : (if t239 = true then (laws_zzFits7.l0 k1 l0 (l0.length : Int) (wrap64 (x10_1 + 1))) else (some false)) = some r := H
              have A6 := Aside0.mk A60
              clear A60
              by_cases c7 : t239 = true
              · subst c7
                have H1 : (laws_zzFits7.l0 k1 l0 (l0.length : Int) (wrap64 (x10_1 + 1))) = some r := by rw [if_pos rfl] at H; exact H
                clear H
                have H := H1
                clear H1
                have H' := Aside0.mk H
                clear H
                have p237 : 0 ≤ (x10_1 : Int) := of_decide_eq_true (by first | (with_reducible assumption) | assumption)
                have q237 : x10_1 < (l0.length : Int) := of_decide_eq_true (by first | (with_reducible assumption) | assumption)
                obtain ⟨ad237, e237, hx237_0, hx237_1, hx237_2⟩ := at_T36 HR0.out x10_1 p237 q237
                cases e237
                replace hx237_0 := (HB.out.cell (World.block_lt_of_cell? w _ hx237_0)).trans hx237_0
                replace hx237_1 := (HB.out.cell (World.block_lt_of_cell? w _ hx237_1)).trans hx237_1
                replace hx237_2 := (HB.out.cell (World.block_lt_of_cell? w _ hx237_2)).trans hx237_2
                replace p237 := eq_true p237
                replace q237 := eq_true q237
                go_wp2_with (first | ((with_reducible refine gate_dst (N := 4) rfl ?_); refine box_event ?hg (N := 4) ?hd (cs := #[.string (⟨#[]⟩ : ByteArray), .string (⟨#[]⟩ : ByteArray), .bool false]) (t := 36) ?hr ?_; (case hd => rfl); (case hg => rfl); (case hr => first | (go_simp; done) | (go_simp; rfl)); intro gb238 hg w8 hbox hb; have n0_ := Aside0.mk (below_step (by repeat (first | (with_reducible first | exact HB.out | apply below_alloc | apply pw_below_drewN | apply below_drew1) | exact HB.out)) hb); have n1_ := Aside0.mk (hbox); have n2_ := Aside0.mk ((by rw [hg]; exact (below_size (by repeat (first | (with_reducible first | exact HB.out | apply below_alloc | apply pw_below_drewN | apply below_drew1) | exact HB.out))) : w.heap.size ≤ gb238)); have n3_ := Aside0.mk ((by rw [hg]; exact (below_size (by repeat (first | (with_reducible first | exact HB.out | apply below_alloc | apply pw_below_drewN | apply below_drew1) | exact HB.out))) : w.heap.size ≤ gb238)); clear HB; have HB := n0_; have BK238 := n1_; have GW238 := n2_; have GE238 := n3_; clear n0_ n1_ n2_ n3_; clear hb hbox hg; have hcz9_0 : w8.cell? ⟨gb238, 0, none⟩ = some (.string (⟨#[]⟩ : ByteArray)) := (blk_cell BK238.out 0).trans rfl; have hcz9_1 : w8.cell? ⟨gb238, 1, none⟩ = some (.string (⟨#[]⟩ : ByteArray)) := (blk_cell BK238.out 1).trans rfl; have hcz9_2 : w8.cell? ⟨gb238, 2, none⟩ = some (.bool false) := (blk_cell BK238.out 2).trans rfl; have hfz9_0 := blk_frozen BK238.out 0; have hfz9_1 := blk_frozen BK238.out 1; have hfz9_2 := blk_frozen BK238.out 2) | ((with_reducible refine gate_callee (f := 43) rfl ?_); refine goesL_ (some 15) rfl rfl Try.func43 (by kernel_rfl) rfl #[.agg #[.string ((rd_T36 l0 x10_1).f0), .string ((rd_T36 l0 x10_1).f1), .bool ((rd_T36 l0 x10_1).f2)]] rfl (by (try simp only [List.map_toArray, List.map_cons, List.map_nil]); first | done | rfl | (simp only [List.length_drop, List.length_take]; rfl)) ?_; (with_reducible refine (laws_zzFits8.calls ((rd_T36 l0 x10_1).f0) ((rd_T36 l0 x10_1).f1) ((rd_T36 l0 x10_1).f2) true _ A6.out).mono ?_); rintro e w10 ⟨rfl, hb⟩; refine ⟨_, rfl, ?_⟩; have n0_ := Aside0.mk (blk_below (g := gb238) (o := .cells #[.string ((rd_T36 l0 x10_1).f0), .string ((rd_T36 l0 x10_1).f1), .bool ((rd_T36 l0 x10_1).f2)] 36 (0, 0)) (by (with_reducible repeat (first | refine blk_drewN ?_ _ | refine blk_drew ?_ | refine blk_alloc ?_ _)); refine blk_put (cs := #[.string ((rd_T36 l0 x10_1).f0), .string ((rd_T36 l0 x10_1).f1), .bool false]) ?_ 2 _ rfl; (with_reducible repeat (first | refine blk_drewN ?_ _ | refine blk_drew ?_ | refine blk_alloc ?_ _)); refine blk_put (cs := #[.string ((rd_T36 l0 x10_1).f0), .string (⟨#[]⟩ : ByteArray), .bool false]) ?_ 1 _ rfl; (with_reducible repeat (first | refine blk_drewN ?_ _ | refine blk_drew ?_ | refine blk_alloc ?_ _)); refine blk_put (cs := #[.string (⟨#[]⟩ : ByteArray), .string (⟨#[]⟩ : ByteArray), .bool false]) ?_ 0 _ rfl; (with_reducible repeat (first | refine blk_drewN ?_ _ | refine blk_drew ?_ | refine blk_alloc ?_ _)); exact BK238.out) hb); have n1_ := Aside0.mk (below_step (by repeat (first | (with_reducible first | exact HB.out | apply below_alloc | apply pw_below_drewN | apply below_drew1 | refine below_set ?_ GE238.out) | exact HB.out)) hb); clear BK238; clear HB; have BK238 := n0_; have HB := n1_; clear n0_ n1_; (try clear hb); (try clear hb2); (try clear hk); (try clear hi)))
                go_roundg k1
                case measure => have := HK1.out; omega
                case rel => exact ⟨(wrap64 (x10_1 + 1)), (by first | rfl | (simp; done) | (simp [*]; done) | (simp [Go.Proofs.YtjklempjljikpaaX.isEmpty_ne]; done)), H', ⟨by have := HK1.out; omega⟩, ⟨by repeat (first | (with_reducible first | exact HB.out | apply below_alloc | apply pw_below_drewN | apply below_drew1 | refine below_set ?_ GE238.out) | exact HB.out)⟩⟩
              · replace c7 := Bool.eq_false_iff.mpr c7
                subst c7
                have H1 : (some false) = some r := by rw [if_neg (show ¬ (false = true) by decide)] at H; exact H
                clear H
                have H := H1
                clear H1
                obtain rfl := Option.some.inj H
                have p237 : 0 ≤ (x10_1 : Int) := of_decide_eq_true (by first | (with_reducible assumption) | assumption)
                have q237 : x10_1 < (l0.length : Int) := of_decide_eq_true (by first | (with_reducible assumption) | assumption)
                obtain ⟨ad237, e237, hx237_0, hx237_1, hx237_2⟩ := at_T36 HR0.out x10_1 p237 q237
                cases e237
                replace hx237_0 := (HB.out.cell (World.block_lt_of_cell? w _ hx237_0)).trans hx237_0
                replace hx237_1 := (HB.out.cell (World.block_lt_of_cell? w _ hx237_1)).trans hx237_1
                replace hx237_2 := (HB.out.cell (World.block_lt_of_cell? w _ hx237_2)).trans hx237_2
                replace p237 := eq_true p237
                replace q237 := eq_true q237
                go_wp2_with (first | ((with_reducible refine gate_dst (N := 4) rfl ?_); refine box_event ?hg (N := 4) ?hd (cs := #[.string (⟨#[]⟩ : ByteArray), .string (⟨#[]⟩ : ByteArray), .bool false]) (t := 36) ?hr ?_; (case hd => rfl); (case hg => rfl); (case hr => first | (go_simp; done) | (go_simp; rfl)); intro gb238 hg w11 hbox hb; have n0_ := Aside0.mk (below_step (by repeat (first | (with_reducible first | exact HB.out | apply below_alloc | apply pw_below_drewN | apply below_drew1) | exact HB.out)) hb); have n1_ := Aside0.mk (hbox); have n2_ := Aside0.mk ((by rw [hg]; exact (below_size (by repeat (first | (with_reducible first | exact HB.out | apply below_alloc | apply pw_below_drewN | apply below_drew1) | exact HB.out))) : w.heap.size ≤ gb238)); have n3_ := Aside0.mk ((by rw [hg]; exact (below_size (by repeat (first | (with_reducible first | exact HB.out | apply below_alloc | apply pw_below_drewN | apply below_drew1) | exact HB.out))) : w.heap.size ≤ gb238)); clear HB; have HB := n0_; have BK238 := n1_; have GW238 := n2_; have GE238 := n3_; clear n0_ n1_ n2_ n3_; clear hb hbox hg; have hcz12_0 : w11.cell? ⟨gb238, 0, none⟩ = some (.string (⟨#[]⟩ : ByteArray)) := (blk_cell BK238.out 0).trans rfl; have hcz12_1 : w11.cell? ⟨gb238, 1, none⟩ = some (.string (⟨#[]⟩ : ByteArray)) := (blk_cell BK238.out 1).trans rfl; have hcz12_2 : w11.cell? ⟨gb238, 2, none⟩ = some (.bool false) := (blk_cell BK238.out 2).trans rfl; have hfz12_0 := blk_frozen BK238.out 0; have hfz12_1 := blk_frozen BK238.out 1; have hfz12_2 := blk_frozen BK238.out 2) | ((with_reducible refine gate_callee (f := 43) rfl ?_); refine goesL_ (some 15) rfl rfl Try.func43 (by kernel_rfl) rfl #[.agg #[.string ((rd_T36 l0 x10_1).f0), .string ((rd_T36 l0 x10_1).f1), .bool ((rd_T36 l0 x10_1).f2)]] rfl (by (try simp only [List.map_toArray, List.map_cons, List.map_nil]); first | done | rfl | (simp only [List.length_drop, List.length_take]; rfl)) ?_; (with_reducible refine (laws_zzFits8.calls ((rd_T36 l0 x10_1).f0) ((rd_T36 l0 x10_1).f1) ((rd_T36 l0 x10_1).f2) false _ A6.out).mono ?_); rintro e w13 ⟨rfl, hb⟩; refine ⟨_, rfl, ?_⟩; have n0_ := Aside0.mk (blk_below (g := gb238) (o := .cells #[.string ((rd_T36 l0 x10_1).f0), .string ((rd_T36 l0 x10_1).f1), .bool ((rd_T36 l0 x10_1).f2)] 36 (0, 0)) (by (with_reducible repeat (first | refine blk_drewN ?_ _ | refine blk_drew ?_ | refine blk_alloc ?_ _)); refine blk_put (cs := #[.string ((rd_T36 l0 x10_1).f0), .string ((rd_T36 l0 x10_1).f1), .bool false]) ?_ 2 _ rfl; (with_reducible repeat (first | refine blk_drewN ?_ _ | refine blk_drew ?_ | refine blk_alloc ?_ _)); refine blk_put (cs := #[.string ((rd_T36 l0 x10_1).f0), .string (⟨#[]⟩ : ByteArray), .bool false]) ?_ 1 _ rfl; (with_reducible repeat (first | refine blk_drewN ?_ _ | refine blk_drew ?_ | refine blk_alloc ?_ _)); refine blk_put (cs := #[.string (⟨#[]⟩ : ByteArray), .string (⟨#[]⟩ : ByteArray), .bool false]) ?_ 0 _ rfl; (with_reducible repeat (first | refine blk_drewN ?_ _ | refine blk_drew ?_ | refine blk_alloc ?_ _)); exact BK238.out) hb); have n1_ := Aside0.mk (below_step (by repeat (first | (with_reducible first | exact HB.out | apply below_alloc | apply pw_below_drewN | apply below_drew1 | refine below_set ?_ GE238.out) | exact HB.out)) hb); clear BK238; clear HB; have BK238 := n0_; have HB := n1_; clear n0_ n1_; (try clear hb); (try clear hb2); (try clear hk); (try clear hi)))
                go_ret
                exact ⟨by first | rfl | (simp [errW_none, errW_some] <;> rfl) | (simp [*, errW_none, errW_some] <;> rfl), by repeat (first | (with_reducible first | exact HB.out | apply below_alloc | apply pw_below_drewN | apply below_drew1 | refine below_set ?_ GE238.out) | exact HB.out)⟩
            · rw [if_neg c5] at H
              exact absurd H (by simp)
          · rw [if_neg c4] at H
            exact absurd H (by simp)
        · rw [if_neg c3] at H
          have c3b0 : decide (x10_1 < (l0.length : Int)) = false := decide_eq_false c3
          clear c3
          obtain rfl := Option.some.inj H
          go_wp2
          go_ret
          exact ⟨by first | rfl | (simp [errW_none, errW_some] <;> rfl) | (simp [*, errW_none, errW_some] <;> rfl), by repeat (first | (with_reducible first | exact HB.out | apply below_alloc | apply pw_below_drewN | apply below_drew1) | exact HB.out)⟩

end Go.Proofs.Ytjklempjljikpaa.Q
