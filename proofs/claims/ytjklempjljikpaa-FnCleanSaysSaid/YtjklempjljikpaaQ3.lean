import Derived.Test.YtjklempjljikpaaQ0
-- Written by a program of this session out of the translation, with the kit's printer. Not trusted: Lean checks it.
namespace Go.Proofs.Ytjklempjljikpaa.Q
open Go.RowKit Go.Proofs.YtjklempjljikpaaW.PrintWords Go.Proofs.YtjklempjljikpaaW.PrintLast Go.Proofs.YtjklempjljikpaaW.PrintMore
attribute [local go_sem] max2_int min2_int max_two min_two max_three min_three max_four min_four   -- for this text's walks alone
set_option linter.unusedVariables false
set_option linter.unusedSimpArgs false

/-! ### hertzproto_zzIndex: function 59 -/
def hertzproto_zzIndex.l0 : Nat → List Int → List Int → Int → Option (Int)
  | 0, _, _, _ => none
  | k + 1, x0, x1, x5 => if (wrap64 (x5 + (x1.length : Int))) ≤ (x0.length : Int) then (if 0 ≤ x5 then (if x5 ≤ (wrap64 (x5 + (x1.length : Int))) then (if (strOfNums ((x0.take ((wrap64 (x5 + (x1.length : Int))) : Int).toNat).drop (x5 : Int).toNat)).toList = (strOfNums x1).toList then (some x5) else (hertzproto_zzIndex.l0 k x0 x1 (wrap64 (x5 + 1)))) else (none)) else (none)) else (some (-1))
def hertzproto_zzIndex.f (k : Nat) (l0 : List Int) (l1 : List Int) : Option (Int) := hertzproto_zzIndex.l0 k l0 l1 0
theorem hertzproto_zzIndex.mono_l : ∀ k, (∀ y0 y1 y2, LeO (hertzproto_zzIndex.l0 k y0 y1 y2) (hertzproto_zzIndex.l0 (k + 1) y0 y1 y2))
  | 0 => fun _ _ _ r h => by simp [hertzproto_zzIndex.l0] at h
  | k + 1 => by
    have ih0 := hertzproto_zzIndex.mono_l k
    · intro y0 y1 y2
      unfold hertzproto_zzIndex.l0
      repeat' first
      | (with_reducible exact ih0 _ _ _)
      | (with_reducible exact LeO.refl _)
      | (with_reducible exact LeO.none _)
      | (with_reducible refine LeO.ite ?_ ?_)
      | (with_reducible refine LeO.bind ?_ (fun _ => ?_))
      | exact ih0 _ _ _
      | exact LeO.none _
      | refine LeO.ite ?_ ?_
      | refine LeO.bind ?_ (fun _ => ?_)
theorem hertzproto_zzIndex.mono : ∀ a0 a1 k, LeO (hertzproto_zzIndex.f k a0 a1) (hertzproto_zzIndex.f (k + 1) a0 a1) := by
  intro a0 a1 k
  have ih0 := hertzproto_zzIndex.mono_l k
  unfold hertzproto_zzIndex.f
  repeat' first
      | (with_reducible exact ih0 _ _ _)
      | (with_reducible exact LeO.refl _)
      | (with_reducible exact LeO.none _)
      | (with_reducible refine LeO.ite ?_ ?_)
      | (with_reducible refine LeO.bind ?_ (fun _ => ?_))
      | exact ih0 _ _ _
      | exact LeO.none _
      | refine LeO.ite ?_ ?_
      | refine LeO.bind ?_ (fun _ => ?_)
set_option maxHeartbeats 8000000 in
set_option maxRecDepth 100000 in
theorem hertzproto_zzIndex.calls (k : Nat) (A0 : Option Addr) (c0 : Nat) (l0 : List Int) (A1 : Option Addr) (c1 : Nat) (l1 : List Int) (r : Int) (w : World) (hr0 : Kd.C (Kd.int .u8) w A0 l0.length l0) (hc0 : l0.length ≤ c0) (hr1 : Kd.C (Kd.int .u8) w A1 l1.length l1) (hc1 : l1.length ≤ c1) (h : hertzproto_zzIndex.f k l0 l1 = some r) :
    Calls Try.prog 59 #[.slice A0 l0.length c0, .slice A1 l1.length c1] w fun e w' => e = .returned (.int .i64 r) ∧ Drawn0 w w' := by
  have HR0 := Aside0.mk hr0
  have HC0 := Aside0.mk hc0
  clear hr0 hc0
  have HR1 := Aside0.mk hr1
  have HC1 := Aside0.mk hc1
  clear hr1 hc1
  have H : (hertzproto_zzIndex.l0 k l0 l1 0) = some r := h
  clear h
  have H' := Aside0.mk H
  clear H
  go_enter Try.func59, Try.ntmps59
  go_wp2
  have hw8_ := Go.Proofs.YtjklempjljikpaaX.wrap_u8; have hw64_ := Go.Proofs.YtjklempjljikpaaX.wrap_i64; repeat (go_quiet (fail); try go_wp2)
  go_loopg [5] k (fun kq v5 w' => ∃ (x5_1 : Int), v5 = .int .i64 x5_1 ∧ Aside0 (hertzproto_zzIndex.l0 kq l0 l1 x5_1 = some r) ∧ Aside0 (kq ≤ k) ∧ Drawn0 w w')
  case atStart => exact ⟨(0), (by first | rfl | (simp; done) | (simp [*]; done) | (simp [Go.Proofs.YtjklempjljikpaaX.isEmpty_ne]; done)), H', ⟨Nat.le_refl _⟩, by repeat (first | exact Drawn0.refl _ | apply Drawn0.step)⟩
  case round =>
    clear H'
    try clear c1
    try clear p2
    obtain ⟨x5_1, rfl, HA, HK1, ⟨m1, rfl⟩⟩ := hrel
    cases gk with
    | zero => exact absurd HA.out (by simp [hertzproto_zzIndex.l0])
    | succ k1 =>
      have H := HA.out
      clear HA
      simp only [hertzproto_zzIndex.l0] at H
      by_cases c3 : (wrap64 (x5_1 + (l1.length : Int))) ≤ (l0.length : Int)
      · rw [if_pos c3] at H
        have c3b0 : decide ((wrap64 (x5_1 + (l1.length : Int))) ≤ (l0.length : Int)) = true := decide_eq_true c3
        clear c3
        by_cases c4 : 0 ≤ x5_1
        · rw [if_pos c4] at H
          have c4b0 := eq_true c4
          have c4b1 : decide (0 ≤ x5_1) = true := decide_eq_true c4
          clear c4
          by_cases c5 : x5_1 ≤ (wrap64 (x5_1 + (l1.length : Int)))
          · rw [if_pos c5] at H
            have c5b0 := eq_true c5
            have c5b1 : decide (x5_1 ≤ (wrap64 (x5_1 + (l1.length : Int)))) = true := decide_eq_true c5
            have c6b0 := eq_true (of_decide_eq_true (by first | (with_reducible assumption) | assumption) : (wrap64 (x5_1 + (l1.length : Int))) ≤ (l0.length : Int))
            by_cases c7 : (strOfNums ((l0.take ((wrap64 (x5_1 + (l1.length : Int))) : Int).toNat).drop (x5_1 : Int).toNat)).toList = (strOfNums l1).toList
            · rw [if_pos c7] at H
              have c7b0 : ((strOfNums ((l0.take ((wrap64 (x5_1 + (l1.length : Int))) : Int).toNat).drop (x5_1 : Int).toNat)).toList == (strOfNums l1).toList) = true := beq_iff_eq.mpr c7
              have c7b1 : ((strOfNums ((l0.take ((wrap64 (x5_1 + (l1.length : Int))) : Int).toNat).drop (x5_1 : Int).toNat)).toList != (strOfNums l1).toList) = false := bne_eq_false_iff_eq.mpr c7
              clear c7
              obtain rfl := Option.some.inj H
              obtain ⟨i08, hi08, _, hsz8, _⟩ := info_parts info5
              obtain ⟨A8, hcut8, hA8, hC8⟩ := print_mid_of (P := Try.prog) (Value.int .u8) 0 48 5 .i64 .i64 Try.underlying48 hi08 hsz8 A0 c0 l0 x5_1 (wrap64 (x5_1 + (l1.length : Int))) (of_decide_eq_true (by first | (with_reducible assumption) | assumption)) (by first | omega | exact of_decide_eq_true (by first | (with_reducible assumption) | assumption)) (of_decide_eq_true (by first | (with_reducible assumption) | assumption)) HC0.out
              have HR134 := Aside0.mk (Kd.C_of_reads (h1 := fun _ => rfl) (hA8 _ (Kd.reads_of_C HR0.out)))
              have HC134 := Aside0.mk hC8
              clear hA8 hC8 hi08 hsz8
              have hcv9 := Go.Proofs.YtjklempjljikpaaX.C_string2 (P := Try.prog) (A := A8) (c := (c0 - x5_1.toNat)) Try.underlying48 Try.underlying5 Try.underlying9 HR134.out
              first | (generalize hnq9 : List.length (List.drop _ _) = nq9 at hcut8 hcv9) | (generalize hnq9 : List.length (List.take _ _) = nq9 at hcut8 hcv9)
              have hcv10 := Go.Proofs.YtjklempjljikpaaX.C_string2 (P := Try.prog) (A := A1) (c := c1) Try.underlying48 Try.underlying5 Try.underlying9 HR1.out
              go_wp2
              have hw8_ := Go.Proofs.YtjklempjljikpaaX.wrap_u8; have hw64_ := Go.Proofs.YtjklempjljikpaaX.wrap_i64; repeat (go_quiet (fail); try go_wp2)
              go_ret
              exact ⟨by first | rfl | (simp; done) | (simp [*]; done) | (simp [Go.Proofs.YtjklempjljikpaaX.isEmpty_ne]; done), by repeat (first | exact Drawn0.refl _ | apply Drawn0.step)⟩
            · rw [if_neg c7] at H
              have c7b0 : ((strOfNums ((l0.take ((wrap64 (x5_1 + (l1.length : Int))) : Int).toNat).drop (x5_1 : Int).toNat)).toList == (strOfNums l1).toList) = false := beq_eq_false_iff_ne.mpr c7
              have c7b1 : ((strOfNums ((l0.take ((wrap64 (x5_1 + (l1.length : Int))) : Int).toNat).drop (x5_1 : Int).toNat)).toList != (strOfNums l1).toList) = true := bne_iff_ne.mpr c7
              have H' := Aside0.mk H
              clear H
              obtain ⟨i011, hi011, _, hsz11, _⟩ := info_parts info5
              obtain ⟨A11, hcut11, hA11, hC11⟩ := print_mid_of (P := Try.prog) (Value.int .u8) 0 48 5 .i64 .i64 Try.underlying48 hi011 hsz11 A0 c0 l0 x5_1 (wrap64 (x5_1 + (l1.length : Int))) (of_decide_eq_true (by first | (with_reducible assumption) | assumption)) (by first | omega | exact of_decide_eq_true (by first | (with_reducible assumption) | assumption)) (of_decide_eq_true (by first | (with_reducible assumption) | assumption)) HC0.out
              have HR134 := Aside0.mk (Kd.C_of_reads (h1 := fun _ => rfl) (hA11 _ (Kd.reads_of_C HR0.out)))
              have HC134 := Aside0.mk hC11
              clear hA11 hC11 hi011 hsz11
              have hcv12 := Go.Proofs.YtjklempjljikpaaX.C_string2 (P := Try.prog) (A := A11) (c := (c0 - x5_1.toNat)) Try.underlying48 Try.underlying5 Try.underlying9 HR134.out
              first | (generalize hnq12 : List.length (List.drop _ _) = nq12 at hcut11 hcv12) | (generalize hnq12 : List.length (List.take _ _) = nq12 at hcut11 hcv12)
              have hcv13 := Go.Proofs.YtjklempjljikpaaX.C_string2 (P := Try.prog) (A := A1) (c := c1) Try.underlying48 Try.underlying5 Try.underlying9 HR1.out
              go_wp2
              have hw8_ := Go.Proofs.YtjklempjljikpaaX.wrap_u8; have hw64_ := Go.Proofs.YtjklempjljikpaaX.wrap_i64; repeat (go_quiet (fail); try go_wp2)
              go_roundg k1
              case measure => have := HK1.out; omega
              case rel => exact ⟨(wrap64 (x5_1 + 1)), (by first | rfl | (simp; done) | (simp [*]; done) | (simp [Go.Proofs.YtjklempjljikpaaX.isEmpty_ne]; done)), H', ⟨by have := HK1.out; omega⟩, by repeat (first | exact Drawn0.refl _ | apply Drawn0.step)⟩
          · rw [if_neg c5] at H
            exact absurd H (by simp)
        · rw [if_neg c4] at H
          exact absurd H (by simp)
      · rw [if_neg c3] at H
        have c3b0 : decide ((wrap64 (x5_1 + (l1.length : Int))) ≤ (l0.length : Int)) = false := decide_eq_false c3
        clear c3
        obtain rfl := Option.some.inj H
        go_wp2
        have hw8_ := Go.Proofs.YtjklempjljikpaaX.wrap_u8; have hw64_ := Go.Proofs.YtjklempjljikpaaX.wrap_i64; repeat (go_quiet (fail); try go_wp2)
        go_ret
        exact ⟨by first | rfl | (simp; done) | (simp [*]; done) | (simp [Go.Proofs.YtjklempjljikpaaX.isEmpty_ne]; done), by repeat (first | exact Drawn0.refl _ | apply Drawn0.step)⟩

/-! ### hertzstr_StrSlashSlash: function 60 -/
-- no contract here

/-! ### hertzstr_StrSlashDotSlash: function 61 -/
-- no contract here

/-! ### hertzstr_StrSlashDotDotSlash: function 62 -/
-- no contract here

/-! ### bytealg_LastIndexByte: function 71 -/
def bytealg_LastIndexByte.l0 : Nat → List Int → Int → Int → Option (Int)
  | 0, _, _, _ => none
  | k + 1, x0, x1, x5 => if x5 ≥ 0 then (if 0 ≤ x5 then (if x5 < (x0.length : Int) then (if (rd x0 x5) = x1 then (some x5) else (bytealg_LastIndexByte.l0 k x0 x1 (wrap64 (x5 - 1)))) else (none)) else (none)) else (some (-1))
def bytealg_LastIndexByte.f (k : Nat) (l0 : List Int) (a1 : Int) : Option (Int) := bytealg_LastIndexByte.l0 k l0 a1 (wrap64 ((l0.length : Int) - 1))
theorem bytealg_LastIndexByte.mono_l : ∀ k, (∀ y0 y1 y2, LeO (bytealg_LastIndexByte.l0 k y0 y1 y2) (bytealg_LastIndexByte.l0 (k + 1) y0 y1 y2))
  | 0 => fun _ _ _ r h => by simp [bytealg_LastIndexByte.l0] at h
  | k + 1 => by
    have ih0 := bytealg_LastIndexByte.mono_l k
    · intro y0 y1 y2
      unfold bytealg_LastIndexByte.l0
      repeat' first
      | (with_reducible exact ih0 _ _ _)
      | (with_reducible exact LeO.refl _)
      | (with_reducible exact LeO.none _)
      | (with_reducible refine LeO.ite ?_ ?_)
      | (with_reducible refine LeO.bind ?_ (fun _ => ?_))
      | exact ih0 _ _ _
      | exact LeO.none _
      | refine LeO.ite ?_ ?_
      | refine LeO.bind ?_ (fun _ => ?_)
theorem bytealg_LastIndexByte.mono : ∀ a0 a1 k, LeO (bytealg_LastIndexByte.f k a0 a1) (bytealg_LastIndexByte.f (k + 1) a0 a1) := by
  intro a0 a1 k
  have ih0 := bytealg_LastIndexByte.mono_l k
  unfold bytealg_LastIndexByte.f
  repeat' first
      | (with_reducible exact ih0 _ _ _)
      | (with_reducible exact LeO.refl _)
      | (with_reducible exact LeO.none _)
      | (with_reducible refine LeO.ite ?_ ?_)
      | (with_reducible refine LeO.bind ?_ (fun _ => ?_))
      | exact ih0 _ _ _
      | exact LeO.none _
      | refine LeO.ite ?_ ?_
      | refine LeO.bind ?_ (fun _ => ?_)
set_option maxHeartbeats 8000000 in
set_option maxRecDepth 100000 in
theorem bytealg_LastIndexByte.calls (k : Nat) (A0 : Option Addr) (c0 : Nat) (l0 : List Int) (a1 : Int) (r : Int) (w : World) (hr0 : Kd.C (Kd.int .u8) w A0 l0.length l0) (hc0 : l0.length ≤ c0) (h : bytealg_LastIndexByte.f k l0 a1 = some r) :
    Calls Try.prog 71 #[.slice A0 l0.length c0, .int .u8 a1] w fun e w' => e = .returned (.int .i64 r) ∧ Drawn0 w w' := by
  have HR0 := Aside0.mk hr0
  have HC0 := Aside0.mk hc0
  clear hr0 hc0
  have H : (bytealg_LastIndexByte.l0 k l0 a1 (wrap64 ((l0.length : Int) - 1))) = some r := h
  clear h
  have H' := Aside0.mk H
  clear H
  go_enter Try.func71, Try.ntmps71
  go_wp2
  go_loopg [5] k (fun kq v5 w' => ∃ (x5_1 : Int), v5 = .int .i64 x5_1 ∧ Aside0 (bytealg_LastIndexByte.l0 kq l0 a1 x5_1 = some r) ∧ Aside0 (kq ≤ k) ∧ Drawn0 w w')
  case atStart => exact ⟨(wrap64 ((l0.length : Int) - 1)), (by first | rfl | (simp; done) | (simp [*]; done) | (simp [Go.Proofs.YtjklempjljikpaaX.isEmpty_ne]; done)), H', ⟨Nat.le_refl _⟩, by repeat (first | exact Drawn0.refl _ | apply Drawn0.step)⟩
  case round =>
    clear H'
    try clear p2
    obtain ⟨x5_1, rfl, HA, HK1, ⟨m1, rfl⟩⟩ := hrel
    cases gk with
    | zero => exact absurd HA.out (by simp [bytealg_LastIndexByte.l0])
    | succ k1 =>
      have H := HA.out
      clear HA
      simp only [bytealg_LastIndexByte.l0] at H
      by_cases c3 : x5_1 ≥ 0
      · rw [if_pos c3] at H
        have c3b0 : decide (0 ≤ x5_1) = true := decide_eq_true c3
        clear c3
        by_cases c4 : 0 ≤ x5_1
        · rw [if_pos c4] at H
          have c4b0 : decide (0 ≤ x5_1) = true := decide_eq_true c4
          clear c4
          by_cases c5 : x5_1 < (l0.length : Int)
          · rw [if_pos c5] at H
            have c5b0 : decide (x5_1 < (l0.length : Int)) = true := decide_eq_true c5
            clear c5
            by_cases c6 : (rd l0 x5_1) = a1
            · rw [if_pos c6] at H
              have c6b0 : ((rd l0 x5_1) == a1) = true := beq_iff_eq.mpr c6
              have c6b1 : ((rd l0 x5_1) != a1) = false := bne_eq_false_iff_eq.mpr c6
              clear c6
              obtain rfl := Option.some.inj H
              have p135 : 0 ≤ (x5_1 : Int) := of_decide_eq_true (by first | (with_reducible assumption) | assumption)
              have q135 : x5_1 < (l0.length : Int) := of_decide_eq_true (by first | (with_reducible assumption) | assumption)
              obtain ⟨ad135, e135, hx135_0⟩ := Kd.at_int HR0.out x5_1 p135 q135
              cases e135
              replace p135 := eq_true p135
              replace q135 := eq_true q135
              go_wp2
              go_ret
              exact ⟨by first | rfl | (simp; done) | (simp [*]; done) | (simp [Go.Proofs.YtjklempjljikpaaX.isEmpty_ne]; done), by repeat (first | exact Drawn0.refl _ | apply Drawn0.step)⟩
            · rw [if_neg c6] at H
              have c6b0 : ((rd l0 x5_1) == a1) = false := beq_eq_false_iff_ne.mpr c6
              have c6b1 : ((rd l0 x5_1) != a1) = true := bne_iff_ne.mpr c6
              have H' := Aside0.mk H
              clear H
              have p135 : 0 ≤ (x5_1 : Int) := of_decide_eq_true (by first | (with_reducible assumption) | assumption)
              have q135 : x5_1 < (l0.length : Int) := of_decide_eq_true (by first | (with_reducible assumption) | assumption)
              obtain ⟨ad135, e135, hx135_0⟩ := Kd.at_int HR0.out x5_1 p135 q135
              cases e135
              replace p135 := eq_true p135
              replace q135 := eq_true q135
              go_wp2
              go_roundg k1
              case measure => have := HK1.out; omega
              case rel => exact ⟨(wrap64 (x5_1 - 1)), (by first | rfl | (simp; done) | (simp [*]; done) | (simp [Go.Proofs.YtjklempjljikpaaX.isEmpty_ne]; done)), H', ⟨by have := HK1.out; omega⟩, by repeat (first | exact Drawn0.refl _ | apply Drawn0.step)⟩
          · rw [if_neg c5] at H
            exact absurd H (by simp)
        · rw [if_neg c4] at H
          exact absurd H (by simp)
      · rw [if_neg c3] at H
        have c3b0 : decide (0 ≤ x5_1) = false := decide_eq_false c3
        clear c3
        obtain rfl := Option.some.inj H
        go_wp2
        go_ret
        exact ⟨by first | rfl | (simp; done) | (simp [*]; done) | (simp [Go.Proofs.YtjklempjljikpaaX.isEmpty_ne]; done), by repeat (first | exact Drawn0.refl _ | apply Drawn0.step)⟩

/-! ### bytes_LastIndexByte: function 63 -/
def bytes_LastIndexByte.f (k : Nat) (l0 : List Int) (a1 : Int) : Option (Int) := (bytealg_LastIndexByte.f k l0 a1).bind fun t136 => (some t136)
theorem bytes_LastIndexByte.mono : ∀ a0 a1 k, LeO (bytes_LastIndexByte.f k a0 a1) (bytes_LastIndexByte.f (k + 1) a0 a1) := by
  intro a0 a1 k
  unfold bytes_LastIndexByte.f
  repeat' first
      | (with_reducible exact bytealg_LastIndexByte.mono _ _ _)
      | (with_reducible exact LeO.refl _)
      | (with_reducible exact LeO.none _)
      | (with_reducible refine LeO.ite ?_ ?_)
      | (with_reducible refine LeO.bind ?_ (fun _ => ?_))
      | exact bytealg_LastIndexByte.mono _ _ _
      | exact LeO.none _
      | refine LeO.ite ?_ ?_
      | refine LeO.bind ?_ (fun _ => ?_)
set_option maxHeartbeats 8000000 in
set_option maxRecDepth 100000 in
theorem bytes_LastIndexByte.calls (k : Nat) (A0 : Option Addr) (c0 : Nat) (l0 : List Int) (a1 : Int) (r : Int) (w : World) (hr0 : Kd.C (Kd.int .u8) w A0 l0.length l0) (hc0 : l0.length ≤ c0) (h : bytes_LastIndexByte.f k l0 a1 = some r) :
    Calls Try.prog 63 #[.slice A0 l0.length c0, .int .u8 a1] w fun e w' => e = .returned (.int .i64 r) ∧ Drawn0 w w' := by
  have HR0 := Aside0.mk hr0
  have HC0 := Aside0.mk hc0
  clear hr0 hc0
  have H : ((bytealg_LastIndexByte.f k l0 a1).bind fun t136 => (some t136)) = some r := h
  clear h
  replace H := Option.bind_eq_some_iff.mp H
  obtain ⟨t136, A30, H⟩ := H
  replace H : (some t136) = some r := H
  have A3 := Aside0.mk A30
  clear A30
  obtain rfl := Option.some.inj H
  go_enter Try.func63, Try.ntmps63
  go_wp2_with (first | ((with_reducible refine gate_callee (f := 71) rfl ?_); refine goesL_ (some 7) rfl rfl Try.func71 (by kernel_rfl) rfl #[.slice A0 l0.length c0, .int .u8 a1] rfl (by (try simp only [List.map_toArray, List.map_cons, List.map_nil]); first | done | rfl | (simp only [List.length_drop, List.length_take]; rfl)) ?_; (with_reducible refine (bytealg_LastIndexByte.calls k _ _ l0 a1 t136 _ ?side1 ?side2 A3.out).mono ?_); (case side1 => repeat (first | exact HR0.out | (with_reducible refine Kd.C_alloc ?_ _) | (with_reducible refine Kd.C_drewN ?_ _) | (with_reducible refine Kd.C_drew ?_))); (case side2 => exact HC0.out); rintro e w' ⟨rfl, ⟨nd, rfl⟩⟩; refine ⟨_, rfl, ?_⟩))
  go_ret
  exact ⟨by first | rfl | (simp; done) | (simp [*]; done) | (simp [Go.Proofs.YtjklempjljikpaaX.isEmpty_ne]; done), by repeat (first | exact Drawn0.refl _ | apply Drawn0.step)⟩

/-! ### bytes_Equal: function 72 -/
def bytes_Equal.f (l0 : List Int) (l1 : List Int) : Option (Bool) := some ((strOfNums l0).toList == (strOfNums l1).toList)
set_option maxHeartbeats 8000000 in
set_option maxRecDepth 100000 in
theorem bytes_Equal.calls (A0 : Option Addr) (c0 : Nat) (l0 : List Int) (A1 : Option Addr) (c1 : Nat) (l1 : List Int) (r : Bool) (w : World) (hr0 : Kd.C (Kd.int .u8) w A0 l0.length l0) (hc0 : l0.length ≤ c0) (hr1 : Kd.C (Kd.int .u8) w A1 l1.length l1) (hc1 : l1.length ≤ c1) (h : bytes_Equal.f l0 l1 = some r) :
    Calls Try.prog 72 #[.slice A0 l0.length c0, .slice A1 l1.length c1] w fun e w' => e = .returned (.bool r) ∧ Drawn0 w w' := by
  have HR0 := Aside0.mk hr0
  have HC0 := Aside0.mk hc0
  clear hr0 hc0
  have HR1 := Aside0.mk hr1
  have HC1 := Aside0.mk hc1
  clear hr1 hc1
  have H : (some ((strOfNums l0).toList == (strOfNums l1).toList)) = some r := h
  clear h
  obtain rfl := Option.some.inj H
  have hcv3 := Go.Proofs.YtjklempjljikpaaX.C_string2 (P := Try.prog) (A := A0) (c := c0) Try.underlying48 Try.underlying5 Try.underlying9 HR0.out
  have hcv4 := Go.Proofs.YtjklempjljikpaaX.C_string2 (P := Try.prog) (A := A1) (c := c1) Try.underlying48 Try.underlying5 Try.underlying9 HR1.out
  go_enter Try.func72, Try.ntmps72
  go_wp2
  go_ret
  exact ⟨by first | rfl | (simp; done) | (simp [*]; done) | (simp [Go.Proofs.YtjklempjljikpaaX.isEmpty_ne]; done), by repeat (first | exact Drawn0.refl _ | apply Drawn0.step)⟩

end Go.Proofs.Ytjklempjljikpaa.Q

-- Written by a program of this session out of the translation, with the kit's printer. Not trusted: Lean checks it.
namespace Go.Proofs.Ytjklempjljikpaa.Q
open Go.RowKit Go.Proofs.YtjklempjljikpaaW.PrintWords Go.Proofs.YtjklempjljikpaaW.PrintLast Go.Proofs.YtjklempjljikpaaW.PrintMore
attribute [local go_sem] max2_int min2_int max_two min_two max_three min_three max_four min_four   -- for this text's walks alone
set_option linter.unusedVariables false
set_option linter.unusedSimpArgs false

/-! ### bytealg_hashStrRev_byte: function 75 -/
mutual
def bytealg_hashStrRev_byte.l0 : Nat → List Int → Int → Int → Option (Int × Int)
  | 0, _, _, _ => none
  | k + 1, x0, x4, x5 => if x5 ≥ 0 then (if 0 ≤ x5 then (if x5 < (x0.length : Int) then (bytealg_hashStrRev_byte.l0 k x0 ((((x4 * 16777619) % 4294967296) + ((rd x0 x5) % 4294967296)) % 4294967296) (wrap64 (x5 - 1))) else (none)) else (none)) else (bytealg_hashStrRev_byte.l1 k x4 1 16777619 (x0.length : Int))
def bytealg_hashStrRev_byte.l1 : Nat → Int → Int → Int → Int → Option (Int × Int)
  | 0, _, _, _, _ => none
  | k + 1, x4, x6, x7, x8 => if x8 > 0 then (if (Go.bits .and .i64 x8 1) = 0 then (bytealg_hashStrRev_byte.l1 k x4 x6 ((x7 * x7) % 4294967296) (x8 / 2)) else (bytealg_hashStrRev_byte.l1 k x4 ((x6 * x7) % 4294967296) ((x7 * x7) % 4294967296) (x8 / 2))) else (some (x4, x6))
end
def bytealg_hashStrRev_byte.f (k : Nat) (l0 : List Int) : Option (Int × Int) := bytealg_hashStrRev_byte.l0 k l0 0 (wrap64 ((l0.length : Int) - 1))
theorem bytealg_hashStrRev_byte.mono_l : ∀ k, (∀ y0 y1 y2, LeO (bytealg_hashStrRev_byte.l0 k y0 y1 y2) (bytealg_hashStrRev_byte.l0 (k + 1) y0 y1 y2)) ∧ (∀ y0 y1 y2 y3, LeO (bytealg_hashStrRev_byte.l1 k y0 y1 y2 y3) (bytealg_hashStrRev_byte.l1 (k + 1) y0 y1 y2 y3))
  | 0 => ⟨fun _ _ _ r h => by simp [bytealg_hashStrRev_byte.l0] at h, fun _ _ _ _ r h => by simp [bytealg_hashStrRev_byte.l1] at h⟩
  | k + 1 => by
    obtain ⟨ih0, ih1⟩ := bytealg_hashStrRev_byte.mono_l k
    refine ⟨?_, ?_⟩
    · intro y0 y1 y2
      unfold bytealg_hashStrRev_byte.l0
      repeat' first
      | (with_reducible exact ih0 _ _ _)
      | (with_reducible exact ih1 _ _ _ _)
      | (with_reducible exact LeO.refl _)
      | (with_reducible exact LeO.none _)
      | (with_reducible refine LeO.ite ?_ ?_)
      | (with_reducible refine LeO.bind ?_ (fun _ => ?_))
      | exact ih0 _ _ _
      | exact ih1 _ _ _ _
      | exact LeO.none _
      | refine LeO.ite ?_ ?_
      | refine LeO.bind ?_ (fun _ => ?_)
    · intro y0 y1 y2 y3
      unfold bytealg_hashStrRev_byte.l1
      repeat' first
      | (with_reducible exact ih0 _ _ _)
      | (with_reducible exact ih1 _ _ _ _)
      | (with_reducible exact LeO.refl _)
      | (with_reducible exact LeO.none _)
      | (with_reducible refine LeO.ite ?_ ?_)
      | (with_reducible refine LeO.bind ?_ (fun _ => ?_))
      | exact ih0 _ _ _
      | exact ih1 _ _ _ _
      | exact LeO.none _
      | refine LeO.ite ?_ ?_
      | refine LeO.bind ?_ (fun _ => ?_)
theorem bytealg_hashStrRev_byte.mono : ∀ a0 k, LeO (bytealg_hashStrRev_byte.f k a0) (bytealg_hashStrRev_byte.f (k + 1) a0) := by
  intro a0 k
  obtain ⟨ih0, ih1⟩ := bytealg_hashStrRev_byte.mono_l k
  unfold bytealg_hashStrRev_byte.f
  repeat' first
      | (with_reducible exact ih0 _ _ _)
      | (with_reducible exact ih1 _ _ _ _)
      | (with_reducible exact LeO.refl _)
      | (with_reducible exact LeO.none _)
      | (with_reducible refine LeO.ite ?_ ?_)
      | (with_reducible refine LeO.bind ?_ (fun _ => ?_))
      | exact ih0 _ _ _
      | exact ih1 _ _ _ _
      | exact LeO.none _
      | refine LeO.ite ?_ ?_
      | refine LeO.bind ?_ (fun _ => ?_)
set_option maxHeartbeats 8000000 in
set_option maxRecDepth 100000 in
theorem bytealg_hashStrRev_byte.calls (k : Nat) (A0 : Option Addr) (c0 : Nat) (l0 : List Int) (r1 : Int) (r2 : Int) (w : World) (hr0 : Kd.C (Kd.int .u8) w A0 l0.length l0) (hc0 : l0.length ≤ c0) (h : bytealg_hashStrRev_byte.f k l0 = some (r1, r2)) :
    Calls Try.prog 75 #[.slice A0 l0.length c0] w fun e w' => e = .returned (.tuple #[.int .u32 r1, .int .u32 r2]) ∧ Drawn0 w w' := by
  have HR0 := Aside0.mk hr0
  have HC0 := Aside0.mk hc0
  clear hr0 hc0
  have H : (bytealg_hashStrRev_byte.l0 k l0 0 (wrap64 ((l0.length : Int) - 1))) = some (r1, r2) := h
  clear h
  have H' := Aside0.mk H
  clear H
  go_enter Try.func75, Try.ntmps75
  go_wp2
  go_loopg [4, 5] k (fun kq v4 v5 w' => ∃ (x4_1 : Int) (x5_1 : Int), v4 = .int .u32 x4_1 ∧ v5 = .int .i64 x5_1 ∧ Aside0 (bytealg_hashStrRev_byte.l0 kq l0 x4_1 x5_1 = some (r1, r2)) ∧ Aside0 (kq ≤ k) ∧ Drawn0 w w')
  case atStart => exact ⟨(0), (wrap64 ((l0.length : Int) - 1)), (by first | rfl | (simp; done) | (simp [*]; done) | (simp [Go.Proofs.YtjklempjljikpaaX.isEmpty_ne]; done)), (by first | rfl | (simp; done) | (simp [*]; done) | (simp [Go.Proofs.YtjklempjljikpaaX.isEmpty_ne]; done)), H', ⟨Nat.le_refl _⟩, by repeat (first | exact Drawn0.refl _ | apply Drawn0.step)⟩
  case round =>
    clear H'
    obtain ⟨x4_1, x5_1, rfl, rfl, HA, HK1, ⟨m1, rfl⟩⟩ := hrel
    cases gk with
    | zero => exact absurd HA.out (by simp [bytealg_hashStrRev_byte.l0])
    | succ k1 =>
      have H := HA.out
      clear HA
      simp only [bytealg_hashStrRev_byte.l0] at H
      by_cases c2 : x5_1 ≥ 0
      · rw [if_pos c2] at H
        have c2b0 : decide (0 ≤ x5_1) = true := decide_eq_true c2
        clear c2
        by_cases c3 : 0 ≤ x5_1
        · rw [if_pos c3] at H
          have c3b0 : decide (0 ≤ x5_1) = true := decide_eq_true c3
          clear c3
          by_cases c4 : x5_1 < (l0.length : Int)
          · rw [if_pos c4] at H
            have c4b0 : decide (x5_1 < (l0.length : Int)) = true := decide_eq_true c4
            clear c4
            have H' := Aside0.mk H
            clear H
            have p137 : 0 ≤ (x5_1 : Int) := of_decide_eq_true (by first | (with_reducible assumption) | assumption)
            have q137 : x5_1 < (l0.length : Int) := of_decide_eq_true (by first | (with_reducible assumption) | assumption)
            obtain ⟨ad137, e137, hx137_0⟩ := Kd.at_int HR0.out x5_1 p137 q137
            cases e137
            replace p137 := eq_true p137
            replace q137 := eq_true q137
            go_wp2
            go_roundg k1
            case measure => have := HK1.out; omega
            case rel => exact ⟨((((x4_1 * 16777619) % 4294967296) + ((rd l0 x5_1) % 4294967296)) % 4294967296), (wrap64 (x5_1 - 1)), (by first | rfl | (simp; done) | (simp [*]; done) | (simp [Go.Proofs.YtjklempjljikpaaX.isEmpty_ne]; done)), (by first | rfl | (simp; done) | (simp [*]; done) | (simp [Go.Proofs.YtjklempjljikpaaX.isEmpty_ne]; done)), H', ⟨by have := HK1.out; omega⟩, by repeat (first | exact Drawn0.refl _ | apply Drawn0.step)⟩
          · rw [if_neg c4] at H
            exact absurd H (by simp)
        · rw [if_neg c3] at H
          exact absurd H (by simp)
      · rw [if_neg c2] at H
        have c2b0 : decide (0 ≤ x5_1) = false := decide_eq_false c2
        clear c2
        have H' := Aside0.mk H
        clear H
        go_wp2
        go_loopg [6, 7, 8] k1 (fun kq v6 v7 v8 w' => ∃ (x6_2 : Int) (x7_2 : Int) (x8_2 : Int), v6 = .int .u32 x6_2 ∧ v7 = .int .u32 x7_2 ∧ v8 = .int .i64 x8_2 ∧ Aside0 (bytealg_hashStrRev_byte.l1 kq x4_1 x6_2 x7_2 x8_2 = some (r1, r2)) ∧ Aside0 (kq ≤ k1) ∧ Drawn0 w w')
        case atStart => exact ⟨(1), (16777619), ((l0.length : Int)), (by first | rfl | (simp; done) | (simp [*]; done) | (simp [Go.Proofs.YtjklempjljikpaaX.isEmpty_ne]; done)), (by first | rfl | (simp; done) | (simp [*]; done) | (simp [Go.Proofs.YtjklempjljikpaaX.isEmpty_ne]; done)), (by first | rfl | (simp; done) | (simp [*]; done) | (simp [Go.Proofs.YtjklempjljikpaaX.isEmpty_ne]; done)), H', ⟨Nat.le_refl _⟩, by repeat (first | exact Drawn0.refl _ | apply Drawn0.step)⟩
        case round =>
          clear H'
          try clear p1
          try clear q1
          try clear hx1
          try clear c2
          try clear c2b0
          try clear p2
          try clear c3
          try clear c3b0
          try clear c4
          try clear c4b0
          try clear hx137_0
          try clear p137
          try clear q137
          obtain ⟨x6_2, x7_2, x8_2, rfl, rfl, rfl, HA, HK2, ⟨m2, rfl⟩⟩ := hrel
          cases gk with
          | zero => exact absurd HA.out (by simp [bytealg_hashStrRev_byte.l1])
          | succ k2 =>
            have H := HA.out
            clear HA
            simp only [bytealg_hashStrRev_byte.l1] at H
            by_cases c5 : x8_2 > 0
            · rw [if_pos c5] at H
              have c5b0 : decide (0 < x8_2) = true := decide_eq_true c5
              clear c5
              by_cases c6 : (Go.bits .and .i64 x8_2 1) = 0
              · rw [if_pos c6] at H
                have c6b0 : ((Go.bits .and .i64 x8_2 1) == 0) = true := beq_iff_eq.mpr c6
                have c6b1 : ((Go.bits .and .i64 x8_2 1) != 0) = false := bne_eq_false_iff_eq.mpr c6
                clear c6
                have H' := Aside0.mk H
                clear H
                go_wp2
                go_roundg k2
                case measure => have := HK1.out; have := HK2.out; omega
                case rel => exact ⟨(x6_2), ((x7_2 * x7_2) % 4294967296), (x8_2 / 2), (by first | rfl | (simp; done) | (simp [*]; done) | (simp [Go.Proofs.YtjklempjljikpaaX.isEmpty_ne]; done)), (by first | rfl | (simp; done) | (simp [*]; done) | (simp [Go.Proofs.YtjklempjljikpaaX.isEmpty_ne]; done)), (by first | rfl | (simp; done) | (simp [*]; done) | (simp [Go.Proofs.YtjklempjljikpaaX.isEmpty_ne]; done)), H', ⟨by have := HK1.out; have := HK2.out; omega⟩, by repeat (first | exact Drawn0.refl _ | apply Drawn0.step)⟩
              · rw [if_neg c6] at H
                have c6b0 : ((Go.bits .and .i64 x8_2 1) == 0) = false := beq_eq_false_iff_ne.mpr c6
                have c6b1 : ((Go.bits .and .i64 x8_2 1) != 0) = true := bne_iff_ne.mpr c6
                have H' := Aside0.mk H
                clear H
                go_wp2
                go_roundg k2
                case measure => have := HK1.out; have := HK2.out; omega
                case rel => exact ⟨((x6_2 * x7_2) % 4294967296), ((x7_2 * x7_2) % 4294967296), (x8_2 / 2), (by first | rfl | (simp; done) | (simp [*]; done) | (simp [Go.Proofs.YtjklempjljikpaaX.isEmpty_ne]; done)), (by first | rfl | (simp; done) | (simp [*]; done) | (simp [Go.Proofs.YtjklempjljikpaaX.isEmpty_ne]; done)), (by first | rfl | (simp; done) | (simp [*]; done) | (simp [Go.Proofs.YtjklempjljikpaaX.isEmpty_ne]; done)), H', ⟨by have := HK1.out; have := HK2.out; omega⟩, by repeat (first | exact Drawn0.refl _ | apply Drawn0.step)⟩
            · rw [if_neg c5] at H
              have c5b0 : decide (0 < x8_2) = false := decide_eq_false c5
              clear c5
              simp only [Option.some.injEq, Prod.mk.injEq] at H
              obtain ⟨rfl, rfl⟩ := H
              go_wp2
              go_ret2
              exact ⟨by first | rfl | (simp; done) | (simp [*]; done) | (simp [Go.Proofs.YtjklempjljikpaaX.isEmpty_ne]; done), by repeat (first | exact Drawn0.refl _ | apply Drawn0.step)⟩

end Go.Proofs.Ytjklempjljikpaa.Q
