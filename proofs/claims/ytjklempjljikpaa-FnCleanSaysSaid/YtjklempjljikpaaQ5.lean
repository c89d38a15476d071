import Derived.Test.YtjklempjljikpaaQ0
import Derived.Test.YtjklempjljikpaaQ3
-- Written by a program of this session out of the translation, with the kit's printer. Not trusted: Lean checks it.
namespace Go.Proofs.Ytjklempjljikpaa.Q
open Go.RowKit Go.Proofs.YtjklempjljikpaaW.PrintWords Go.Proofs.YtjklempjljikpaaW.PrintLast Go.Proofs.YtjklempjljikpaaW.PrintMore
attribute [local go_sem] max2_int min2_int max_two min_two max_three min_three max_four min_four   -- for this text's walks alone
set_option linter.unusedVariables false
set_option linter.unusedSimpArgs false

/-! ### bytealg_LastIndexRabinKarp_byte: function 73 -/
mutual
def bytealg_LastIndexRabinKarp_byte.l0 : Nat → List Int → List Int → Int → Int → Int → Int → Int → Int → Option (Int)
  | 0, _, _, _, _, _, _, _, _ => none
  | k + 1, x0, x1, x5, x6, x7, x8, x9, x10 => if x10 ≥ x8 then (if 0 ≤ x10 then (if x10 < (x0.length : Int) then (bytealg_LastIndexRabinKarp_byte.l0 k x0 x1 x5 x6 x7 x8 ((((x9 * 16777619) % 4294967296) + ((rd x0 x10) % 4294967296)) % 4294967296) (wrap64 (x10 - 1))) else (none)) else (none)) else (if x9 = x5 then (if 0 ≤ x8 then (if x8 ≤ (x0.length : Int) then (bytealg_LastIndexRabinKarp_byte.j1 k x0 x1 x5 x6 x7 x8 x9 ((strOfNums (x0.drop (x8 : Int).toNat)).toList == (strOfNums x1).toList)) else (none)) else (none)) else (bytealg_LastIndexRabinKarp_byte.j1 k x0 x1 x5 x6 x7 x8 x9 false))
def bytealg_LastIndexRabinKarp_byte.j1 : Nat → List Int → List Int → Int → Int → Int → Int → Int → Bool → Option (Int)
  | 0, _, _, _, _, _, _, _, _ => none
  | k + 1, x0, x1, x5, x6, x7, x8, x9, x50 => if x50 = true then (some x8) else (bytealg_LastIndexRabinKarp_byte.l1 k x0 x1 x5 x6 x7 x9 (wrap64 (x8 - 1)))
def bytealg_LastIndexRabinKarp_byte.l1 : Nat → List Int → List Int → Int → Int → Int → Int → Int → Option (Int)
  | 0, _, _, _, _, _, _, _ => none
  | k + 1, x0, x1, x5, x6, x7, x9, x11 => if x11 ≥ 0 then (if 0 ≤ x11 then (if x11 < (x0.length : Int) then (if 0 ≤ (wrap64 (x11 + x7)) then (if (wrap64 (x11 + x7)) < (x0.length : Int) then (if ((((((x9 * 16777619) % 4294967296) + ((rd x0 x11) % 4294967296)) % 4294967296) - ((x6 * ((rd x0 (wrap64 (x11 + x7))) % 4294967296)) % 4294967296)) % 4294967296) = x5 then (if x11 ≤ (wrap64 (x11 + x7)) then (if (wrap64 (x11 + x7)) ≤ (x0.length : Int) then (if (strOfNums ((x0.take ((wrap64 (x11 + x7)) : Int).toNat).drop (x11 : Int).toNat)).toList = (strOfNums x1).toList then (some x11) else (bytealg_LastIndexRabinKarp_byte.l1 k x0 x1 x5 x6 x7 ((((((x9 * 16777619) % 4294967296) + ((rd x0 x11) % 4294967296)) % 4294967296) - ((x6 * ((rd x0 (wrap64 (x11 + x7))) % 4294967296)) % 4294967296)) % 4294967296) (wrap64 (x11 - 1)))) else (none)) else (none)) else (bytealg_LastIndexRabinKarp_byte.l1 k x0 x1 x5 x6 x7 ((((((x9 * 16777619) % 4294967296) + ((rd x0 x11) % 4294967296)) % 4294967296) - ((x6 * ((rd x0 (wrap64 (x11 + x7))) % 4294967296)) % 4294967296)) % 4294967296) (wrap64 (x11 - 1)))) else (none)) else (none)) else (none)) else (none)) else (some (-1))
end
def bytealg_LastIndexRabinKarp_byte.f (k : Nat) (l0 : List Int) (l1 : List Int) : Option (Int) := (bytealg_hashStrRev_byte.f k l1).bind fun bt138 => (bytealg_LastIndexRabinKarp_byte.l0 k l0 l1 bt138.1 bt138.2 (l1.length : Int) (wrap64 ((l0.length : Int) - (l1.length : Int))) 0 (wrap64 ((l0.length : Int) - 1)))
theorem bytealg_LastIndexRabinKarp_byte.mono_l : ∀ k, (∀ y0 y1 y2 y3 y4 y5 y6 y7, LeO (bytealg_LastIndexRabinKarp_byte.l0 k y0 y1 y2 y3 y4 y5 y6 y7) (bytealg_LastIndexRabinKarp_byte.l0 (k + 1) y0 y1 y2 y3 y4 y5 y6 y7)) ∧ (∀ y0 y1 y2 y3 y4 y5 y6 y7, LeO (bytealg_LastIndexRabinKarp_byte.j1 k y0 y1 y2 y3 y4 y5 y6 y7) (bytealg_LastIndexRabinKarp_byte.j1 (k + 1) y0 y1 y2 y3 y4 y5 y6 y7)) ∧ (∀ y0 y1 y2 y3 y4 y5 y6, LeO (bytealg_LastIndexRabinKarp_byte.l1 k y0 y1 y2 y3 y4 y5 y6) (bytealg_LastIndexRabinKarp_byte.l1 (k + 1) y0 y1 y2 y3 y4 y5 y6))
  | 0 => ⟨fun _ _ _ _ _ _ _ _ r h => by simp [bytealg_LastIndexRabinKarp_byte.l0] at h, fun _ _ _ _ _ _ _ _ r h => by simp [bytealg_LastIndexRabinKarp_byte.j1] at h, fun _ _ _ _ _ _ _ r h => by simp [bytealg_LastIndexRabinKarp_byte.l1] at h⟩
  | k + 1 => by
    obtain ⟨ih0, ih1, ih2⟩ := bytealg_LastIndexRabinKarp_byte.mono_l k
    refine ⟨?_, ?_, ?_⟩
    · intro y0 y1 y2 y3 y4 y5 y6 y7
      unfold bytealg_LastIndexRabinKarp_byte.l0
      repeat' first
      | (with_reducible exact ih0 _ _ _ _ _ _ _ _)
      | (with_reducible exact ih1 _ _ _ _ _ _ _ _)
      | (with_reducible exact ih2 _ _ _ _ _ _ _)
      | (with_reducible exact bytealg_hashStrRev_byte.mono _ _)
      | (with_reducible exact LeO.refl _)
      | (with_reducible exact LeO.none _)
      | (with_reducible refine LeO.ite ?_ ?_)
      | (with_reducible refine LeO.bind ?_ (fun _ => ?_))
      | exact ih0 _ _ _ _ _ _ _ _
      | exact ih1 _ _ _ _ _ _ _ _
      | exact ih2 _ _ _ _ _ _ _
      | exact bytealg_hashStrRev_byte.mono _ _
      | exact LeO.none _
      | refine LeO.ite ?_ ?_
      | refine LeO.bind ?_ (fun _ => ?_)
    · intro y0 y1 y2 y3 y4 y5 y6 y7
      unfold bytealg_LastIndexRabinKarp_byte.j1
      repeat' first
      | (with_reducible exact ih0 _ _ _ _ _ _ _ _)
      | (with_reducible exact ih1 _ _ _ _ _ _ _ _)
      | (with_reducible exact ih2 _ _ _ _ _ _ _)
      | (with_reducible exact bytealg_hashStrRev_byte.mono _ _)
      | (with_reducible exact LeO.refl _)
      | (with_reducible exact LeO.none _)
      | (with_reducible refine LeO.ite ?_ ?_)
      | (with_reducible refine LeO.bind ?_ (fun _ => ?_))
      | exact ih0 _ _ _ _ _ _ _ _
      | exact ih1 _ _ _ _ _ _ _ _
      | exact ih2 _ _ _ _ _ _ _
      | exact bytealg_hashStrRev_byte.mono _ _
      | exact LeO.none _
      | refine LeO.ite ?_ ?_
      | refine LeO.bind ?_ (fun _ => ?_)
    · intro y0 y1 y2 y3 y4 y5 y6
      unfold bytealg_LastIndexRabinKarp_byte.l1
      repeat' first
      | (with_reducible exact ih0 _ _ _ _ _ _ _ _)
      | (with_reducible exact ih1 _ _ _ _ _ _ _ _)
      | (with_reducible exact ih2 _ _ _ _ _ _ _)
      | (with_reducible exact bytealg_hashStrRev_byte.mono _ _)
      | (with_reducible exact LeO.refl _)
      | (with_reducible exact LeO.none _)
      | (with_reducible refine LeO.ite ?_ ?_)
      | (with_reducible refine LeO.bind ?_ (fun _ => ?_))
      | exact ih0 _ _ _ _ _ _ _ _
      | exact ih1 _ _ _ _ _ _ _ _
      | exact ih2 _ _ _ _ _ _ _
      | exact bytealg_hashStrRev_byte.mono _ _
      | exact LeO.none _
      | refine LeO.ite ?_ ?_
      | refine LeO.bind ?_ (fun _ => ?_)
theorem bytealg_LastIndexRabinKarp_byte.mono : ∀ a0 a1 k, LeO (bytealg_LastIndexRabinKarp_byte.f k a0 a1) (bytealg_LastIndexRabinKarp_byte.f (k + 1) a0 a1) := by
  intro a0 a1 k
  obtain ⟨ih0, ih1, ih2⟩ := bytealg_LastIndexRabinKarp_byte.mono_l k
  unfold bytealg_LastIndexRabinKarp_byte.f
  repeat' first
      | (with_reducible exact ih0 _ _ _ _ _ _ _ _)
      | (with_reducible exact ih1 _ _ _ _ _ _ _ _)
      | (with_reducible exact ih2 _ _ _ _ _ _ _)
      | (with_reducible exact bytealg_hashStrRev_byte.mono _ _)
      | (with_reducible exact LeO.refl _)
      | (with_reducible exact LeO.none _)
      | (with_reducible refine LeO.ite ?_ ?_)
      | (with_reducible refine LeO.bind ?_ (fun _ => ?_))
      | exact ih0 _ _ _ _ _ _ _ _
      | exact ih1 _ _ _ _ _ _ _ _
      | exact ih2 _ _ _ _ _ _ _
      | exact bytealg_hashStrRev_byte.mono _ _
      | exact LeO.none _
      | refine LeO.ite ?_ ?_
      | refine LeO.bind ?_ (fun _ => ?_)
set_option maxHeartbeats 8000000 in
set_option maxRecDepth 100000 in
theorem bytealg_LastIndexRabinKarp_byte.calls (k : Nat) (A0 : Option Addr) (c0 : Nat) (l0 : List Int) (A1 : Option Addr) (c1 : Nat) (l1 : List Int) (r : Int) (w : World) (hr0 : Kd.C (Kd.int .u8) w A0 l0.length l0) (hc0 : l0.length ≤ c0) (hr1 : Kd.C (Kd.int .u8) w A1 l1.length l1) (hc1 : l1.length ≤ c1) (h : bytealg_LastIndexRabinKarp_byte.f k l0 l1 = some r) :
    Calls Try.prog 73 #[.slice A0 l0.length c0, .slice A1 l1.length c1] w fun e w' => e = .returned (.int .i64 r) ∧ Drawn0 w w' := by
  have HR0 := Aside0.mk hr0
  have HC0 := Aside0.mk hc0
  clear hr0 hc0
  have HR1 := Aside0.mk hr1
  have HC1 := Aside0.mk hc1
  clear hr1 hc1
  have H : ((bytealg_hashStrRev_byte.f k l1).bind fun bt138 => (bytealg_LastIndexRabinKarp_byte.l0 k l0 l1 bt138.1 bt138.2 (l1.length : Int) (wrap64 ((l0.length : Int) - (l1.length : Int))) 0 (wrap64 ((l0.length : Int) - 1)))) = some r := h
  clear h
  replace H := Option.bind_eq_some_iff.mp H
  obtain ⟨⟨t138, t139⟩, A30, H⟩ := H
  replace H : (bytealg_LastIndexRabinKarp_byte.l0 k l0 l1 t138 t139 (l1.length : Int) (wrap64 ((l0.length : Int) - (l1.length : Int))) 0 (wrap64 ((l0.length : Int) - 1))) = some r := H
  have A3 := Aside0.mk A30
  clear A30
  have H' := Aside0.mk H
  clear H
  go_enter Try.func73, Try.ntmps73
  go_wp2_with (first | (go_at_call 75; (with_reducible refine (bytealg_hashStrRev_byte.calls k _ _ l1 t138 t139 _ ?side1 ?side2 A3.out).mono ?_); (case side1 => repeat (first | exact HR1.out | (with_reducible refine Kd.C_alloc ?_ _) | (with_reducible refine Kd.C_drewN ?_ _) | (with_reducible refine Kd.C_drew ?_))); (case side2 => exact HC1.out); rintro e w' ⟨rfl, ⟨nd, rfl⟩⟩; (try first | exact ⟨rfl, _, World.drewN_drewN _ _ _⟩ | exact ⟨rfl, _, Eq.trans (World.drewN_drewN _ _ _) (congrArg (World.drewN _) (Nat.add_assoc _ _ _))⟩)))
  repeat (go_quiet (first | (go_at_call 75; (with_reducible refine (bytealg_hashStrRev_byte.calls k _ _ l1 t138 t139 _ ?side1 ?side2 A3.out).mono ?_); (case side1 => repeat (first | exact HR1.out | (with_reducible refine Kd.C_alloc ?_ _) | (with_reducible refine Kd.C_drewN ?_ _) | (with_reducible refine Kd.C_drew ?_))); (case side2 => exact HC1.out); rintro e w' ⟨rfl, ⟨nd, rfl⟩⟩; (try first | exact ⟨rfl, _, World.drewN_drewN _ _ _⟩ | exact ⟨rfl, _, Eq.trans (World.drewN_drewN _ _ _) (congrArg (World.drewN _) (Nat.add_assoc _ _ _))⟩))); try go_wp2_with (first | (go_at_call 75; (with_reducible refine (bytealg_hashStrRev_byte.calls k _ _ l1 t138 t139 _ ?side1 ?side2 A3.out).mono ?_); (case side1 => repeat (first | exact HR1.out | (with_reducible refine Kd.C_alloc ?_ _) | (with_reducible refine Kd.C_drewN ?_ _) | (with_reducible refine Kd.C_drew ?_))); (case side2 => exact HC1.out); rintro e w' ⟨rfl, ⟨nd, rfl⟩⟩; (try first | exact ⟨rfl, _, World.drewN_drewN _ _ _⟩ | exact ⟨rfl, _, Eq.trans (World.drewN_drewN _ _ _) (congrArg (World.drewN _) (Nat.add_assoc _ _ _))⟩))))
  go_loopg [9, 10] k (fun kq v9 v10 w' => ∃ (x9_1 : Int) (x10_1 : Int), v9 = .int .u32 x9_1 ∧ v10 = .int .i64 x10_1 ∧ Aside0 (bytealg_LastIndexRabinKarp_byte.l0 kq l0 l1 t138 t139 (l1.length : Int) (wrap64 ((l0.length : Int) - (l1.length : Int))) x9_1 x10_1 = some r) ∧ Aside0 (kq ≤ k) ∧ Drawn0 w w')
  case atStart => exact ⟨(0), (wrap64 ((l0.length : Int) - 1)), (by first | rfl | (simp; done) | (simp [*]; done) | (simp [Go.Proofs.YtjklempjljikpaaX.isEmpty_ne]; done)), (by first | rfl | (simp; done) | (simp [*]; done) | (simp [Go.Proofs.YtjklempjljikpaaX.isEmpty_ne]; done)), H', ⟨Nat.le_refl _⟩, by repeat (first | exact Drawn0.refl _ | apply Drawn0.step)⟩
  case round =>
    clear H'
    try clear c1
    try clear p2
    obtain ⟨x9_1, x10_1, rfl, rfl, HA, HK1, ⟨m1, rfl⟩⟩ := hrel
    cases gk with
    | zero => exact absurd HA.out (by simp [bytealg_LastIndexRabinKarp_byte.l0])
    | succ k1 =>
      have H := HA.out
      clear HA
      simp only [bytealg_LastIndexRabinKarp_byte.l0] at H
      by_cases c4 : x10_1 ≥ (wrap64 ((l0.length : Int) - (l1.length : Int)))
      · rw [if_pos c4] at H
        have c4b0 : decide ((wrap64 ((l0.length : Int) - (l1.length : Int))) ≤ x10_1) = true := decide_eq_true c4
        clear c4
        by_cases c5 : 0 ≤ x10_1
        · rw [if_pos c5] at H
          have c5b0 : decide (0 ≤ x10_1) = true := decide_eq_true c5
          clear c5
          by_cases c6 : x10_1 < (l0.length : Int)
          · rw [if_pos c6] at H
            have c6b0 : decide (x10_1 < (l0.length : Int)) = true := decide_eq_true c6
            clear c6
            have H' := Aside0.mk H
            clear H
            have p140 : 0 ≤ (x10_1 : Int) := of_decide_eq_true (by first | (with_reducible assumption) | assumption)
            have q140 : x10_1 < (l0.length : Int) := of_decide_eq_true (by first | (with_reducible assumption) | assumption)
            obtain ⟨ad140, e140, hx140_0⟩ := Kd.at_int HR0.out x10_1 p140 q140
            cases e140
            replace p140 := eq_true p140
            replace q140 := eq_true q140
            go_wp2
            have hw8_ := Go.Proofs.YtjklempjljikpaaX.wrap_u8; have hw64_ := Go.Proofs.YtjklempjljikpaaX.wrap_i64; repeat (go_quiet (fail); try go_wp2)
            go_roundg k1
            case measure => have := HK1.out; omega
            case rel => exact ⟨((((x9_1 * 16777619) % 4294967296) + ((rd l0 x10_1) % 4294967296)) % 4294967296), (wrap64 (x10_1 - 1)), (by first | rfl | (simp; done) | (simp [*]; done) | (simp [Go.Proofs.YtjklempjljikpaaX.isEmpty_ne]; done)), (by first | rfl | (simp; done) | (simp [*]; done) | (simp [Go.Proofs.YtjklempjljikpaaX.isEmpty_ne]; done)), H', ⟨by have := HK1.out; omega⟩, by repeat (first | exact Drawn0.refl _ | apply Drawn0.step)⟩
          · rw [if_neg c6] at H
            exact absurd H (by simp)
        · rw [if_neg c5] at H
          exact absurd H (by simp)
      · rw [if_neg c4] at H
        have c4b0 : decide ((wrap64 ((l0.length : Int) - (l1.length : Int))) ≤ x10_1) = false := decide_eq_false c4
        clear c4
        have HC7 := Aside0.mk H
        clear H
        go_upto_region 9 with (fail)
        repeat (go_quiet (fail); go_upto_region 9 with (fail))
        go_cut [50] (fun v50 wc => ∃ (kq : Nat) (x50_6 : Bool), v50 = .bool x50_6 ∧ Aside0 (bytealg_LastIndexRabinKarp_byte.j1 kq l0 l1 t138 t139 (l1.length : Int) (wrap64 ((l0.length : Int) - (l1.length : Int))) x9_1 x50_6 = some r) ∧ Aside0 (kq ≤ k1) ∧ Drawn0 w wc)
        case first =>
          have H := HC7.out
          clear HC7
          by_cases c8 : x9_1 = t138
          · rw [if_pos c8] at H
            have c8b0 : (x9_1 == t138) = true := beq_iff_eq.mpr c8
            have c8b1 : (x9_1 != t138) = false := bne_eq_false_iff_eq.mpr c8
            clear c8
            (first | rw [c8b0] | (simp only [i64_w, i32_w]; rw [c8b0]) | skip)
            obtain ⟨ji9, hji9⟩ : ∃ j_ : Int, (wrap64 ((l0.length : Int) - (l1.length : Int))) = j_ := ⟨_, rfl⟩
            replace H : (if 0 ≤ (ji9) then (if (ji9) ≤ (l0.length : Int) then (bytealg_LastIndexRabinKarp_byte.j1 k1 l0 l1 t138 t139 (l1.length : Int) (ji9) x9_1 ((strOfNums (l0.drop ((ji9) : Int).toNat)).toList == (strOfNums l1).toList)) else (none)) else (none)) = some r := by first | (rw [hji9] at H; exact H) | (simp only [hji9] at H ⊢; exact H)
            (try rw [hji9] at c4b0)
            have hji9w : (IntKind.i64.wrap ((l0.length : Int) - (l1.length : Int))) = ji9 := (i64_w _).trans hji9
            by_cases c10 : 0 ≤ (ji9)
            · rw [if_pos c10] at H
              have c10b0 := eq_true c10
              have c10b1 : decide (0 ≤ (ji9)) = true := decide_eq_true c10
              clear c10
              by_cases c11 : (ji9) ≤ (l0.length : Int)
              · rw [if_pos c11] at H
                have c11b0 := eq_true c11
                have c11b1 : decide ((ji9) ≤ (l0.length : Int)) = true := decide_eq_true c11
                clear c11
                have H' := Aside0.mk H
                clear H
                obtain ⟨i012, hi012, _, hsz12, _⟩ := info_parts info5
                obtain ⟨A12, hcut12, hA12, hC12⟩ := print_drop_of (P := Try.prog) (Value.int .u8) 0 48 5 .i64 Try.underlying48 hi012 hsz12 A0 c0 l0 (ji9) (of_decide_eq_true (by first | (with_reducible assumption) | assumption)) (of_decide_eq_true (by first | (with_reducible assumption) | assumption)) HC0.out
                have HR141 := Aside0.mk (Kd.C_of_reads (h1 := fun _ => rfl) (hA12 _ (Kd.reads_of_C HR0.out)))
                have HC141 := Aside0.mk hC12
                clear hA12 hC12 hi012 hsz12
                have hcv13 := Go.Proofs.YtjklempjljikpaaX.C_string2 (P := Try.prog) (A := A12) (c := (c0 - (ji9).toNat)) Try.underlying48 Try.underlying5 Try.underlying9 HR141.out
                first | (generalize hnq13 : List.length (List.drop _ _) = nq13 at hcut12 hcv13) | (generalize hnq13 : List.length (List.take _ _) = nq13 at hcut12 hcv13)
                have hcv14 := Go.Proofs.YtjklempjljikpaaX.C_string2 (P := Try.prog) (A := A1) (c := c1) Try.underlying48 Try.underlying5 Try.underlying9 HR1.out
                go_wp2
                have hw8_ := Go.Proofs.YtjklempjljikpaaX.wrap_u8; have hw64_ := Go.Proofs.YtjklempjljikpaaX.wrap_i64; repeat (go_quiet (fail); try go_wp2)
                go_meet
                case rel => exact ⟨_, (((strOfNums (l0.drop ((ji9) : Int).toNat)).toList == (strOfNums l1).toList)), (by first | rfl | (simp; done) | (simp only [← hji9] <;> (first | rfl | simp)) | (simp [*]; done) | (simp [Go.Proofs.YtjklempjljikpaaX.isEmpty_ne]; done)), by first | exact H' | (exact ⟨by rw [hji9]; exact H'.out⟩), ⟨by have := HK1.out; first | omega | exact Nat.le_refl _⟩, by repeat (first | exact Drawn0.refl _ | apply Drawn0.step)⟩
              · rw [if_neg c11] at H
                exact absurd H (by simp)
            · rw [if_neg c10] at H
              exact absurd H (by simp)
          · rw [if_neg c8] at H
            have c8b0 : (x9_1 == t138) = false := beq_eq_false_iff_ne.mpr c8
            have c8b1 : (x9_1 != t138) = true := bne_iff_ne.mpr c8
            (first | rw [c8b0] | (simp only [i64_w, i32_w]; rw [c8b0]) | skip)
            have H' := Aside0.mk H
            clear H
            go_wp2
            have hw8_ := Go.Proofs.YtjklempjljikpaaX.wrap_u8; have hw64_ := Go.Proofs.YtjklempjljikpaaX.wrap_i64; repeat (go_quiet (fail); try go_wp2)
            go_meet
            case rel => exact ⟨_, (false), (by first | rfl | (simp; done) | (simp [*]; done) | (simp [Go.Proofs.YtjklempjljikpaaX.isEmpty_ne]; done)), H', ⟨by have := HK1.out; first | omega | exact Nat.le_refl _⟩, by repeat (first | exact Drawn0.refl _ | apply Drawn0.step)⟩
        case rest =>
          clear HC7
          try clear c1
          try clear p1
          try clear q1
          try clear hx1
          try clear hcv1
          try clear p2
          try clear c4
          try clear c4b0
          try clear c5
          try clear c5b0
          try clear c6
          try clear c6b0
          try clear p6
          try clear c7
          try clear c8
          try clear c8b0
          try clear c8b1
          try clear c10
          try clear c10b0
          try clear c10b1
          try clear c11
          try clear c11b0
          try clear c11b1
          try clear hcv13
          try clear p14
          try clear q14
          try clear hx14
          try clear hcv14
          try clear hx140_0
          try clear p140
          try clear p2
          try clear q140
          obtain ⟨kq, x50_6, rfl, HA, HJ6, ⟨mc6, rfl⟩⟩ := hcut
          cases kq with
          | zero => exact absurd HA.out (by simp [bytealg_LastIndexRabinKarp_byte.j1])
          | succ kj6 =>
            have H := HA.out
            clear HA
            simp only [bytealg_LastIndexRabinKarp_byte.j1] at H
            by_cases c15 : x50_6 = true
            · subst c15
              have H1 : (some (wrap64 ((l0.length : Int) - (l1.length : Int)))) = some r := by rw [if_pos rfl] at H; exact H
              clear H
              have H := H1
              clear H1
              obtain rfl := Option.some.inj H
              go_wp2
              have hw8_ := Go.Proofs.YtjklempjljikpaaX.wrap_u8; have hw64_ := Go.Proofs.YtjklempjljikpaaX.wrap_i64; repeat (go_quiet (fail); try go_wp2)
              go_ret
              exact ⟨by first | rfl | (simp; done) | (simp [*]; done) | (simp [Go.Proofs.YtjklempjljikpaaX.isEmpty_ne]; done), by repeat (first | exact Drawn0.refl _ | apply Drawn0.step)⟩
            · replace c15 := Bool.eq_false_iff.mpr c15
              subst c15
              have H1 : (bytealg_LastIndexRabinKarp_byte.l1 kj6 l0 l1 t138 t139 (l1.length : Int) x9_1 (wrap64 ((wrap64 ((l0.length : Int) - (l1.length : Int))) - 1))) = some r := by rw [if_neg (show ¬ (false = true) by decide)] at H; exact H
              clear H
              have H := H1
              clear H1
              have H' := Aside0.mk H
              clear H
              go_wp2
              have hw8_ := Go.Proofs.YtjklempjljikpaaX.wrap_u8; have hw64_ := Go.Proofs.YtjklempjljikpaaX.wrap_i64; repeat (go_quiet (fail); try go_wp2)
              go_loopg [9, 11] kj6 (fun kq v9 v11 w' => ∃ (x9_3 : Int) (x11_3 : Int), v9 = .int .u32 x9_3 ∧ v11 = .int .i64 x11_3 ∧ Aside0 (bytealg_LastIndexRabinKarp_byte.l1 kq l0 l1 t138 t139 (l1.length : Int) x9_3 x11_3 = some r) ∧ Aside0 (kq ≤ kj6) ∧ Drawn0 w w')
              case atStart => exact ⟨(x9_1), (wrap64 ((wrap64 ((l0.length : Int) - (l1.length : Int))) - 1)), (by first | rfl | (simp; done) | (simp [*]; done) | (simp [Go.Proofs.YtjklempjljikpaaX.isEmpty_ne]; done)), (by first | rfl | (simp; done) | (simp [*]; done) | (simp [Go.Proofs.YtjklempjljikpaaX.isEmpty_ne]; done)), H', ⟨Nat.le_refl _⟩, by repeat (first | exact Drawn0.refl _ | apply Drawn0.step)⟩
              case round =>
                clear H'
                try clear c1
                try clear p1
                try clear q1
                try clear hx1
                try clear hcv1
                try clear p2
                try clear c4
                try clear c4b0
                try clear c5
                try clear c5b0
                try clear c6
                try clear c6b0
                try clear p6
                try clear c7
                try clear c8
                try clear c8b0
                try clear c8b1
                try clear c10
                try clear c10b0
                try clear c10b1
                try clear c11
                try clear c11b0
                try clear c11b1
                try clear hcv13
                try clear p14
                try clear q14
                try clear hx14
                try clear hcv14
                try clear c15
                try clear hx140_0
                try clear p1
                try clear p14
                try clear p140
                try clear p2
                try clear p6
                try clear q1
                try clear q14
                try clear q140
                obtain ⟨x9_3, x11_3, rfl, rfl, HA, HK3, ⟨m3, rfl⟩⟩ := hrel
                cases gk with
                | zero => exact absurd HA.out (by simp [bytealg_LastIndexRabinKarp_byte.l1])
                | succ k3 =>
                  have H := HA.out
                  clear HA
                  simp only [bytealg_LastIndexRabinKarp_byte.l1] at H
                  by_cases c16 : x11_3 ≥ 0
                  · rw [if_pos c16] at H
                    have c16b0 : decide (0 ≤ x11_3) = true := decide_eq_true c16
                    clear c16
                    by_cases c17 : 0 ≤ x11_3
                    · rw [if_pos c17] at H
                      have c17b0 : decide (0 ≤ x11_3) = true := decide_eq_true c17
                      clear c17
                      by_cases c18 : x11_3 < (l0.length : Int)
                      · rw [if_pos c18] at H
                        have c18b0 : decide (x11_3 < (l0.length : Int)) = true := decide_eq_true c18
                        clear c18
                        obtain ⟨ji19, hji19⟩ : ∃ j_ : Int, (wrap64 (x11_3 + (l1.length : Int))) = j_ := ⟨_, rfl⟩
                        replace H : (if 0 ≤ (ji19) then (if (ji19) < (l0.length : Int) then (if ((((((x9_3 * 16777619) % 4294967296) + ((rd l0 x11_3) % 4294967296)) % 4294967296) - ((t139 * ((rd l0 (ji19)) % 4294967296)) % 4294967296)) % 4294967296) = t138 then (if x11_3 ≤ (ji19) then (if (ji19) ≤ (l0.length : Int) then (if (strOfNums ((l0.take ((ji19) : Int).toNat).drop (x11_3 : Int).toNat)).toList = (strOfNums l1).toList then (some x11_3) else (bytealg_LastIndexRabinKarp_byte.l1 k3 l0 l1 t138 t139 (l1.length : Int) ((((((x9_3 * 16777619) % 4294967296) + ((rd l0 x11_3) % 4294967296)) % 4294967296) - ((t139 * ((rd l0 (ji19)) % 4294967296)) % 4294967296)) % 4294967296) (wrap64 (x11_3 - 1)))) else (none)) else (none)) else (bytealg_LastIndexRabinKarp_byte.l1 k3 l0 l1 t138 t139 (l1.length : Int) ((((((x9_3 * 16777619) % 4294967296) + ((rd l0 x11_3) % 4294967296)) % 4294967296) - ((t139 * ((rd l0 (ji19)) % 4294967296)) % 4294967296)) % 4294967296) (wrap64 (x11_3 - 1)))) else (none)) else (none)) = some r := by first | (rw [hji19] at H; exact H) | (simp only [hji19] at H ⊢; exact H)
                        have hji19w : (IntKind.i64.wrap (x11_3 + (l1.length : Int))) = ji19 := (i64_w _).trans hji19
                        by_cases c20 : 0 ≤ (ji19)
                        · rw [if_pos c20] at H
                          have c20b0 : decide (0 ≤ (ji19)) = true := decide_eq_true c20
                          clear c20
                          by_cases c21 : (ji19) < (l0.length : Int)
                          · rw [if_pos c21] at H
                            have c21b0 : decide ((ji19) < (l0.length : Int)) = true := decide_eq_true c21
                            clear c21
                            by_cases c22 : ((((((x9_3 * 16777619) % 4294967296) + ((rd l0 x11_3) % 4294967296)) % 4294967296) - ((t139 * ((rd l0 (ji19)) % 4294967296)) % 4294967296)) % 4294967296) = t138
                            · rw [if_pos c22] at H
                              have c22b0 : (((((((x9_3 * 16777619) % 4294967296) + ((rd l0 x11_3) % 4294967296)) % 4294967296) - ((t139 * ((rd l0 (ji19)) % 4294967296)) % 4294967296)) % 4294967296) == t138) = true := beq_iff_eq.mpr c22
                              have c22b1 : (((((((x9_3 * 16777619) % 4294967296) + ((rd l0 x11_3) % 4294967296)) % 4294967296) - ((t139 * ((rd l0 (ji19)) % 4294967296)) % 4294967296)) % 4294967296) != t138) = false := bne_eq_false_iff_eq.mpr c22
                              have c22s := c22
                              try simp at c22s
                              replace c22s := eq_true c22s
                              clear c22
                              have c23b0 := eq_true (of_decide_eq_true (by first | (with_reducible assumption) | assumption) : 0 ≤ x11_3)
                              by_cases c24 : x11_3 ≤ (ji19)
                              · rw [if_pos c24] at H
                                have c24b0 := eq_true c24
                                have c24b1 : decide (x11_3 ≤ (ji19)) = true := decide_eq_true c24
                                clear c24
                                by_cases c25 : (ji19) ≤ (l0.length : Int)
                                · rw [if_pos c25] at H
                                  have c25b0 := eq_true c25
                                  have c25b1 : decide ((ji19) ≤ (l0.length : Int)) = true := decide_eq_true c25
                                  clear c25
                                  by_cases c26 : (strOfNums ((l0.take ((ji19) : Int).toNat).drop (x11_3 : Int).toNat)).toList = (strOfNums l1).toList
                                  · rw [if_pos c26] at H
                                    have c26b0 : ((strOfNums ((l0.take ((ji19) : Int).toNat).drop (x11_3 : Int).toNat)).toList == (strOfNums l1).toList) = true := beq_iff_eq.mpr c26
                                    have c26b1 : ((strOfNums ((l0.take ((ji19) : Int).toNat).drop (x11_3 : Int).toNat)).toList != (strOfNums l1).toList) = false := bne_eq_false_iff_eq.mpr c26
                                    clear c26
                                    obtain rfl := Option.some.inj H
                                    have p142 : 0 ≤ (x11_3 : Int) := of_decide_eq_true (by first | (with_reducible assumption) | assumption)
                                    have q142 : x11_3 < (l0.length : Int) := of_decide_eq_true (by first | (with_reducible assumption) | assumption)
                                    obtain ⟨ad142, e142, hx142_0⟩ := Kd.at_int HR0.out x11_3 p142 q142
                                    cases e142
                                    replace p142 := eq_true p142
                                    replace q142 := eq_true q142
                                    have p143 : 0 ≤ ((ji19) : Int) := of_decide_eq_true (by first | (with_reducible assumption) | assumption)
                                    have q143 : (ji19) < (l0.length : Int) := of_decide_eq_true (by first | (with_reducible assumption) | assumption)
                                    obtain ⟨ad143, e143, hx143_0⟩ := Kd.at_int HR0.out (ji19) p143 q143
                                    obtain rfl : ad142 = ad143 := (by injection e143)
                                    replace p143 := eq_true p143
                                    replace q143 := eq_true q143
                                    obtain ⟨i027, hi027, _, hsz27, _⟩ := info_parts info5
                                    obtain ⟨A27, hcut27, hA27, hC27⟩ := print_mid_of (P := Try.prog) (Value.int .u8) 0 48 5 .i64 .i64 Try.underlying48 hi027 hsz27 (some ad142) c0 l0 x11_3 (ji19) (of_decide_eq_true (by first | (with_reducible assumption) | assumption)) (by first | omega | exact of_decide_eq_true (by first | (with_reducible assumption) | assumption)) (of_decide_eq_true (by first | (with_reducible assumption) | assumption)) HC0.out
                                    have HR144 := Aside0.mk (Kd.C_of_reads (h1 := fun _ => rfl) (hA27 _ (Kd.reads_of_C HR0.out)))
                                    have HC144 := Aside0.mk hC27
                                    clear hA27 hC27 hi027 hsz27
                                    have hcv28 := Go.Proofs.YtjklempjljikpaaX.C_string2 (P := Try.prog) (A := A27) (c := (c0 - x11_3.toNat)) Try.underlying48 Try.underlying5 Try.underlying9 HR144.out
                                    first | (generalize hnq28 : List.length (List.drop _ _) = nq28 at hcut27 hcv28) | (generalize hnq28 : List.length (List.take _ _) = nq28 at hcut27 hcv28)
                                    have hcv29 := Go.Proofs.YtjklempjljikpaaX.C_string2 (P := Try.prog) (A := A1) (c := c1) Try.underlying48 Try.underlying5 Try.underlying9 HR1.out
                                    go_wp2
                                    have hw8_ := Go.Proofs.YtjklempjljikpaaX.wrap_u8; have hw64_ := Go.Proofs.YtjklempjljikpaaX.wrap_i64; repeat (go_quiet (fail); try go_wp2)
                                    go_ret
                                    exact ⟨by first | rfl | (simp; done) | (simp only [← hji19] <;> (first | rfl | simp)) | (simp [*]; done) | (simp [Go.Proofs.YtjklempjljikpaaX.isEmpty_ne]; done), by repeat (first | exact Drawn0.refl _ | apply Drawn0.step)⟩
                                  · rw [if_neg c26] at H
                                    have c26b0 : ((strOfNums ((l0.take ((ji19) : Int).toNat).drop (x11_3 : Int).toNat)).toList == (strOfNums l1).toList) = false := beq_eq_false_iff_ne.mpr c26
                                    have c26b1 : ((strOfNums ((l0.take ((ji19) : Int).toNat).drop (x11_3 : Int).toNat)).toList != (strOfNums l1).toList) = true := bne_iff_ne.mpr c26
                                    have H' := Aside0.mk H
                                    clear H
                                    have p142 : 0 ≤ (x11_3 : Int) := of_decide_eq_true (by first | (with_reducible assumption) | assumption)
                                    have q142 : x11_3 < (l0.length : Int) := of_decide_eq_true (by first | (with_reducible assumption) | assumption)
                                    obtain ⟨ad142, e142, hx142_0⟩ := Kd.at_int HR0.out x11_3 p142 q142
                                    cases e142
                                    replace p142 := eq_true p142
                                    replace q142 := eq_true q142
                                    have p143 : 0 ≤ ((ji19) : Int) := of_decide_eq_true (by first | (with_reducible assumption) | assumption)
                                    have q143 : (ji19) < (l0.length : Int) := of_decide_eq_true (by first | (with_reducible assumption) | assumption)
                                    obtain ⟨ad143, e143, hx143_0⟩ := Kd.at_int HR0.out (ji19) p143 q143
                                    obtain rfl : ad142 = ad143 := (by injection e143)
                                    replace p143 := eq_true p143
                                    replace q143 := eq_true q143
                                    obtain ⟨i030, hi030, _, hsz30, _⟩ := info_parts info5
                                    obtain ⟨A30, hcut30, hA30, hC30⟩ := print_mid_of (P := Try.prog) (Value.int .u8) 0 48 5 .i64 .i64 Try.underlying48 hi030 hsz30 (some ad142) c0 l0 x11_3 (ji19) (of_decide_eq_true (by first | (with_reducible assumption) | assumption)) (by first | omega | exact of_decide_eq_true (by first | (with_reducible assumption) | assumption)) (of_decide_eq_true (by first | (with_reducible assumption) | assumption)) HC0.out
                                    have HR144 := Aside0.mk (Kd.C_of_reads (h1 := fun _ => rfl) (hA30 _ (Kd.reads_of_C HR0.out)))
                                    have HC144 := Aside0.mk hC30
                                    clear hA30 hC30 hi030 hsz30
                                    have hcv31 := Go.Proofs.YtjklempjljikpaaX.C_string2 (P := Try.prog) (A := A30) (c := (c0 - x11_3.toNat)) Try.underlying48 Try.underlying5 Try.underlying9 HR144.out
                                    first | (generalize hnq31 : List.length (List.drop _ _) = nq31 at hcut30 hcv31) | (generalize hnq31 : List.length (List.take _ _) = nq31 at hcut30 hcv31)
                                    have hcv32 := Go.Proofs.YtjklempjljikpaaX.C_string2 (P := Try.prog) (A := A1) (c := c1) Try.underlying48 Try.underlying5 Try.underlying9 HR1.out
                                    go_wp2
                                    have hw8_ := Go.Proofs.YtjklempjljikpaaX.wrap_u8; have hw64_ := Go.Proofs.YtjklempjljikpaaX.wrap_i64; repeat (go_quiet (fail); try go_wp2)
                                    go_roundg k3
                                    case measure => have := HK1.out; have := HJ6.out; have := HK3.out; omega
                                    case rel => exact ⟨((((((x9_3 * 16777619) % 4294967296) + ((rd l0 x11_3) % 4294967296)) % 4294967296) - ((t139 * ((rd l0 (ji19)) % 4294967296)) % 4294967296)) % 4294967296), (wrap64 (x11_3 - 1)), (by first | rfl | (simp; done) | (simp only [← hji19] <;> (first | rfl | simp)) | (simp [*]; done) | (simp [Go.Proofs.YtjklempjljikpaaX.isEmpty_ne]; done)), (by first | rfl | (simp; done) | (simp [*]; done) | (simp [Go.Proofs.YtjklempjljikpaaX.isEmpty_ne]; done)), H', ⟨by have := HK1.out; have := HJ6.out; have := HK3.out; omega⟩, by repeat (first | exact Drawn0.refl _ | apply Drawn0.step)⟩
                                · rw [if_neg c25] at H
                                  exact absurd H (by simp)
                              · rw [if_neg c24] at H
                                exact absurd H (by simp)
                            · rw [if_neg c22] at H
                              have c22b0 : (((((((x9_3 * 16777619) % 4294967296) + ((rd l0 x11_3) % 4294967296)) % 4294967296) - ((t139 * ((rd l0 (ji19)) % 4294967296)) % 4294967296)) % 4294967296) == t138) = false := beq_eq_false_iff_ne.mpr c22
                              have c22b1 : (((((((x9_3 * 16777619) % 4294967296) + ((rd l0 x11_3) % 4294967296)) % 4294967296) - ((t139 * ((rd l0 (ji19)) % 4294967296)) % 4294967296)) % 4294967296) != t138) = true := bne_iff_ne.mpr c22
                              have c22s := c22
                              try simp at c22s
                              replace c22s := eq_false c22s
                              have H' := Aside0.mk H
                              clear H
                              have p142 : 0 ≤ (x11_3 : Int) := of_decide_eq_true (by first | (with_reducible assumption) | assumption)
                              have q142 : x11_3 < (l0.length : Int) := of_decide_eq_true (by first | (with_reducible assumption) | assumption)
                              obtain ⟨ad142, e142, hx142_0⟩ := Kd.at_int HR0.out x11_3 p142 q142
                              cases e142
                              replace p142 := eq_true p142
                              replace q142 := eq_true q142
                              have p143 : 0 ≤ ((ji19) : Int) := of_decide_eq_true (by first | (with_reducible assumption) | assumption)
                              have q143 : (ji19) < (l0.length : Int) := of_decide_eq_true (by first | (with_reducible assumption) | assumption)
                              obtain ⟨ad143, e143, hx143_0⟩ := Kd.at_int HR0.out (ji19) p143 q143
                              obtain rfl : ad142 = ad143 := (by injection e143)
                              replace p143 := eq_true p143
                              replace q143 := eq_true q143
                              go_wp2
                              have hw8_ := Go.Proofs.YtjklempjljikpaaX.wrap_u8; have hw64_ := Go.Proofs.YtjklempjljikpaaX.wrap_i64; repeat (go_quiet (fail); try go_wp2)
                              go_roundg k3
                              case measure => have := HK1.out; have := HJ6.out; have := HK3.out; omega
                              case rel => exact ⟨((((((x9_3 * 16777619) % 4294967296) + ((rd l0 x11_3) % 4294967296)) % 4294967296) - ((t139 * ((rd l0 (ji19)) % 4294967296)) % 4294967296)) % 4294967296), (wrap64 (x11_3 - 1)), (by first | rfl | (simp; done) | (simp only [← hji19] <;> (first | rfl | simp)) | (simp [*]; done) | (simp [Go.Proofs.YtjklempjljikpaaX.isEmpty_ne]; done)), (by first | rfl | (simp; done) | (simp [*]; done) | (simp [Go.Proofs.YtjklempjljikpaaX.isEmpty_ne]; done)), H', ⟨by have := HK1.out; have := HJ6.out; have := HK3.out; omega⟩, by repeat (first | exact Drawn0.refl _ | apply Drawn0.step)⟩
                          · rw [if_neg c21] at H
                            exact absurd H (by simp)
                        · rw [if_neg c20] at H
                          exact absurd H (by simp)
                      · rw [if_neg c18] at H
                        exact absurd H (by simp)
                    · rw [if_neg c17] at H
                      exact absurd H (by simp)
                  · rw [if_neg c16] at H
                    have c16b0 : decide (0 ≤ x11_3) = false := decide_eq_false c16
                    clear c16
                    obtain rfl := Option.some.inj H
                    go_wp2
                    have hw8_ := Go.Proofs.YtjklempjljikpaaX.wrap_u8; have hw64_ := Go.Proofs.YtjklempjljikpaaX.wrap_i64; repeat (go_quiet (fail); try go_wp2)
                    go_ret
                    exact ⟨by first | rfl | (simp; done) | (simp [*]; done) | (simp [Go.Proofs.YtjklempjljikpaaX.isEmpty_ne]; done), by repeat (first | exact Drawn0.refl _ | apply Drawn0.step)⟩

end Go.Proofs.Ytjklempjljikpaa.Q
