/- FnCookieSays: the law's function, called with any arguments, returns true and leaves its arguments as they were: every input, no condition. Part 4 of 12. -/
import Derived.Test.YtfbllodbcmcndaaZFnCookieSays2
import Derived.Test.YtfbllodbcmcndaaZFnCookieSays1
import Derived.Laws.IdiomCopy
import Derived.Lib.SlBytesConst
import Derived.StillTailTactics
section
namespace Go.Proofs.Ytfbllodbcmcndaa.Q
open Go.RowKit Go.Proofs.YtfbllodbcmcndaaW.PrintWords Go.Proofs.YtfbllodbcmcndaaW.PrintLast Go.Proofs.YtfbllodbcmcndaaW.PrintMore
attribute [local go_sem] max2_int min2_int max_two min_two max_three min_three max_four min_four
set_option linter.unusedVariables false
set_option linter.unusedSimpArgs false
def hertzproto_zzIndex.l0 : Nat → List Int → List Int → Int → Option (Int)
  | 0, _, _, _ => none
  | k + 1, x0, x1, x5 => if (wrap64 (x5 + (x1.length : Int))) ≤ (x0.length : Int) then (if 0 ≤ x5 then (if x5 ≤ (wrap64 (x5 + (x1.length : Int))) then (if (strOfNums ((x0.take ((wrap64 (x5 + (x1.length : Int))) : Int).toNat).drop (x5 : Int).toNat)).toList = (strOfNums x1).toList then (some x5) else (hertzproto_zzIndex.l0 k x0 x1 (wrap64 (x5 + 1)))) else (none)) else (none)) else (some (-1))
def hertzproto_zzIndex.f (k : Nat) (l0 : List Int) (l1 : List Int) : Option (Int) := hertzproto_zzIndex.l0 k l0 l1 0
set_option maxHeartbeats 8000000 in
set_option maxRecDepth 100000 in
theorem hertzproto_zzIndex.calls (k : Nat) (A0 : Option Addr) (c0 : Nat) (l0 : List Int) (A1 : Option Addr) (c1 : Nat) (l1 : List Int) (r : Int) (w : World) (hr0 : Kd.C (Kd.int .u8) w A0 l0.length l0) (hc0 : l0.length ≤ c0) (hr1 : Kd.C (Kd.int .u8) w A1 l1.length l1) (hc1 : l1.length ≤ c1) (h : hertzproto_zzIndex.f k l0 l1 = some r) :
    Calls Try.prog 92 #[.slice A0 l0.length c0, .slice A1 l1.length c1] w fun e w' => e = .returned (.int .i64 r) ∧ Drawn0 w w' := by
  have HR0 := Aside0.mk hr0
  have HC0 := Aside0.mk hc0
  clear hr0 hc0
  have HR1 := Aside0.mk hr1
  have HC1 := Aside0.mk hc1
  clear hr1 hc1
  have H : (hertzproto_zzIndex.l0 k l0 l1 0) = some r := h
  clear h
  have H' := Aside0.mk H
  clear H
  go_enter Try.func92, Try.ntmps92
  go_wp2
  have hw8_ := Go.Proofs.YtfbllodbcmcndaaX.wrap_u8; have hw64_ := Go.Proofs.YtfbllodbcmcndaaX.wrap_i64; repeat (go_quiet (fail); try go_wp2)
  go_loopg [5] k (fun kq v5 w' => ∃ (x5_1 : Int), v5 = .int .i64 x5_1 ∧ Aside0 (hertzproto_zzIndex.l0 kq l0 l1 x5_1 = some r) ∧ Aside0 (kq ≤ k) ∧ Drawn0 w w')
  case atStart => exact ⟨(0), (by first | rfl | (simp; done) | (simp [*]; done) | (simp [Go.Proofs.YtfbllodbcmcndaaX.isEmpty_ne]; done)), H', ⟨Nat.le_refl _⟩, by repeat (first | exact Drawn0.refl _ | apply Drawn0.step)⟩
  case round =>
    clear H'
    try clear c1
    try clear p2
    obtain ⟨x5_1, rfl, HA, HK1, ⟨m1, rfl⟩⟩ := hrel
    cases gk with
    | zero => exact absurd HA.out (by simp [hertzproto_zzIndex.l0])
    | succ k1 =>
      have H := HA.out
      clear HA
      simp only [hertzproto_zzIndex.l0] at H
      by_cases c3 : (wrap64 (x5_1 + (l1.length : Int))) ≤ (l0.length : Int)
      · rw [if_pos c3] at H
        have c3b0 : decide ((wrap64 (x5_1 + (l1.length : Int))) ≤ (l0.length : Int)) = true := decide_eq_true c3
        clear c3
        by_cases c4 : 0 ≤ x5_1
        · rw [if_pos c4] at H
          have c4b0 := eq_true c4
          have c4b1 : decide (0 ≤ x5_1) = true := decide_eq_true c4
          clear c4
          by_cases c5 : x5_1 ≤ (wrap64 (x5_1 + (l1.length : Int)))
          · rw [if_pos c5] at H
            have c5b0 := eq_true c5
            have c5b1 : decide (x5_1 ≤ (wrap64 (x5_1 + (l1.length : Int)))) = true := decide_eq_true c5
            have c6b0 := eq_true (of_decide_eq_true (by first | (with_reducible assumption) | assumption) : (wrap64 (x5_1 + (l1.length : Int))) ≤ (l0.length : Int))
            by_cases c7 : (strOfNums ((l0.take ((wrap64 (x5_1 + (l1.length : Int))) : Int).toNat).drop (x5_1 : Int).toNat)).toList = (strOfNums l1).toList
            · rw [if_pos c7] at H
              have c7b0 : ((strOfNums ((l0.take ((wrap64 (x5_1 + (l1.length : Int))) : Int).toNat).drop (x5_1 : Int).toNat)).toList == (strOfNums l1).toList) = true := beq_iff_eq.mpr c7
              have c7b1 : ((strOfNums ((l0.take ((wrap64 (x5_1 + (l1.length : Int))) : Int).toNat).drop (x5_1 : Int).toNat)).toList != (strOfNums l1).toList) = false := bne_eq_false_iff_eq.mpr c7
              clear c7
              obtain rfl := Option.some.inj H
              obtain ⟨i08, hi08, _, hsz8, _⟩ := info_parts info5
              obtain ⟨A8, hcut8, hA8, hC8⟩ := print_mid_of (P := Try.prog) (Value.int .u8) 0 63 5 .i64 .i64 Try.underlying63 hi08 hsz8 A0 c0 l0 x5_1 (wrap64 (x5_1 + (l1.length : Int))) (of_decide_eq_true (by first | (with_reducible assumption) | assumption)) (by first | omega | exact of_decide_eq_true (by first | (with_reducible assumption) | assumption)) (of_decide_eq_true (by first | (with_reducible assumption) | assumption)) HC0.out
              have HR136 := Aside0.mk (Kd.C_of_reads (h1 := fun _ => rfl) (hA8 _ (Kd.reads_of_C HR0.out)))
              have HC136 := Aside0.mk hC8
              clear hA8 hC8 hi08 hsz8
              have hcv9 := Go.Proofs.YtfbllodbcmcndaaX.C_string2 (P := Try.prog) (A := A8) (c := (c0 - x5_1.toNat)) Try.underlying63 Try.underlying5 Try.underlying9 HR136.out
              first | (generalize hnq9 : List.length (List.drop _ _) = nq9 at hcut8 hcv9) | (generalize hnq9 : List.length (List.take _ _) = nq9 at hcut8 hcv9)
              have hcv10 := Go.Proofs.YtfbllodbcmcndaaX.C_string2 (P := Try.prog) (A := A1) (c := c1) Try.underlying63 Try.underlying5 Try.underlying9 HR1.out
              go_wp2
              have hw8_ := Go.Proofs.YtfbllodbcmcndaaX.wrap_u8; have hw64_ := Go.Proofs.YtfbllodbcmcndaaX.wrap_i64; repeat (go_quiet (fail); try go_wp2)
              go_ret
              exact ⟨by first | rfl | (simp; done) | (simp [*]; done) | (simp [Go.Proofs.YtfbllodbcmcndaaX.isEmpty_ne]; done), by repeat (first | exact Drawn0.refl _ | apply Drawn0.step)⟩
            · rw [if_neg c7] at H
              have c7b0 : ((strOfNums ((l0.take ((wrap64 (x5_1 + (l1.length : Int))) : Int).toNat).drop (x5_1 : Int).toNat)).toList == (strOfNums l1).toList) = false := beq_eq_false_iff_ne.mpr c7
              have c7b1 : ((strOfNums ((l0.take ((wrap64 (x5_1 + (l1.length : Int))) : Int).toNat).drop (x5_1 : Int).toNat)).toList != (strOfNums l1).toList) = true := bne_iff_ne.mpr c7
              have H' := Aside0.mk H
              clear H
              obtain ⟨i011, hi011, _, hsz11, _⟩ := info_parts info5
              obtain ⟨A11, hcut11, hA11, hC11⟩ := print_mid_of (P := Try.prog) (Value.int .u8) 0 63 5 .i64 .i64 Try.underlying63 hi011 hsz11 A0 c0 l0 x5_1 (wrap64 (x5_1 + (l1.length : Int))) (of_decide_eq_true (by first | (with_reducible assumption) | assumption)) (by first | omega | exact of_decide_eq_true (by first | (with_reducible assumption) | assumption)) (of_decide_eq_true (by first | (with_reducible assumption) | assumption)) HC0.out
              have HR136 := Aside0.mk (Kd.C_of_reads (h1 := fun _ => rfl) (hA11 _ (Kd.reads_of_C HR0.out)))
              have HC136 := Aside0.mk hC11
              clear hA11 hC11 hi011 hsz11
              have hcv12 := Go.Proofs.YtfbllodbcmcndaaX.C_string2 (P := Try.prog) (A := A11) (c := (c0 - x5_1.toNat)) Try.underlying63 Try.underlying5 Try.underlying9 HR136.out
              first | (generalize hnq12 : List.length (List.drop _ _) = nq12 at hcut11 hcv12) | (generalize hnq12 : List.length (List.take _ _) = nq12 at hcut11 hcv12)
              have hcv13 := Go.Proofs.YtfbllodbcmcndaaX.C_string2 (P := Try.prog) (A := A1) (c := c1) Try.underlying63 Try.underlying5 Try.underlying9 HR1.out
              go_wp2
              have hw8_ := Go.Proofs.YtfbllodbcmcndaaX.wrap_u8; have hw64_ := Go.Proofs.YtfbllodbcmcndaaX.wrap_i64; repeat (go_quiet (fail); try go_wp2)
              go_roundg k1
              case measure => have := HK1.out; omega
              case rel => exact ⟨(wrap64 (x5_1 + 1)), (by first | rfl | (simp; done) | (simp [*]; done) | (simp [Go.Proofs.YtfbllodbcmcndaaX.isEmpty_ne]; done)), H', ⟨by have := HK1.out; omega⟩, by repeat (first | exact Drawn0.refl _ | apply Drawn0.step)⟩
          · rw [if_neg c5] at H
            exact absurd H (by simp)
        · rw [if_neg c4] at H
          exact absurd H (by simp)
      · rw [if_neg c3] at H
        have c3b0 : decide ((wrap64 (x5_1 + (l1.length : Int))) ≤ (l0.length : Int)) = false := decide_eq_false c3
        clear c3
        obtain rfl := Option.some.inj H
        go_wp2
        have hw8_ := Go.Proofs.YtfbllodbcmcndaaX.wrap_u8; have hw64_ := Go.Proofs.YtfbllodbcmcndaaX.wrap_i64; repeat (go_quiet (fail); try go_wp2)
        go_ret
        exact ⟨by first | rfl | (simp; done) | (simp [*]; done) | (simp [Go.Proofs.YtfbllodbcmcndaaX.isEmpty_ne]; done), by repeat (first | exact Drawn0.refl _ | apply Drawn0.step)⟩
def bytealg_LastIndexByte.l0 : Nat → List Int → Int → Int → Option (Int)
  | 0, _, _, _ => none
  | k + 1, x0, x1, x5 => if x5 ≥ 0 then (if 0 ≤ x5 then (if x5 < (x0.length : Int) then (if (rd x0 x5) = x1 then (some x5) else (bytealg_LastIndexByte.l0 k x0 x1 (wrap64 (x5 - 1)))) else (none)) else (none)) else (some (-1))
def bytealg_LastIndexByte.f (k : Nat) (l0 : List Int) (a1 : Int) : Option (Int) := bytealg_LastIndexByte.l0 k l0 a1 (wrap64 ((l0.length : Int) - 1))
set_option maxHeartbeats 8000000 in
set_option maxRecDepth 100000 in
theorem bytealg_LastIndexByte.calls (k : Nat) (A0 : Option Addr) (c0 : Nat) (l0 : List Int) (a1 : Int) (r : Int) (w : World) (hr0 : Kd.C (Kd.int .u8) w A0 l0.length l0) (hc0 : l0.length ≤ c0) (h : bytealg_LastIndexByte.f k l0 a1 = some r) :
    Calls Try.prog 103 #[.slice A0 l0.length c0, .int .u8 a1] w fun e w' => e = .returned (.int .i64 r) ∧ Drawn0 w w' := by
  have HR0 := Aside0.mk hr0
  have HC0 := Aside0.mk hc0
  clear hr0 hc0
  have H : (bytealg_LastIndexByte.l0 k l0 a1 (wrap64 ((l0.length : Int) - 1))) = some r := h
  clear h
  have H' := Aside0.mk H
  clear H
  go_enter Try.func103, Try.ntmps103
  go_wp2
  go_loopg [5] k (fun kq v5 w' => ∃ (x5_1 : Int), v5 = .int .i64 x5_1 ∧ Aside0 (bytealg_LastIndexByte.l0 kq l0 a1 x5_1 = some r) ∧ Aside0 (kq ≤ k) ∧ Drawn0 w w')
  case atStart => exact ⟨(wrap64 ((l0.length : Int) - 1)), (by first | rfl | (simp; done) | (simp [*]; done) | (simp [Go.Proofs.YtfbllodbcmcndaaX.isEmpty_ne]; done)), H', ⟨Nat.le_refl _⟩, by repeat (first | exact Drawn0.refl _ | apply Drawn0.step)⟩
  case round =>
    clear H'
    try clear c1
    try clear p2
    obtain ⟨x5_1, rfl, HA, HK1, ⟨m1, rfl⟩⟩ := hrel
    cases gk with
    | zero => exact absurd HA.out (by simp [bytealg_LastIndexByte.l0])
    | succ k1 =>
      have H := HA.out
      clear HA
      simp only [bytealg_LastIndexByte.l0] at H
      by_cases c3 : x5_1 ≥ 0
      · rw [if_pos c3] at H
        have c3b0 : decide (0 ≤ x5_1) = true := decide_eq_true c3
        clear c3
        by_cases c4 : 0 ≤ x5_1
        · rw [if_pos c4] at H
          have c4b0 : decide (0 ≤ x5_1) = true := decide_eq_true c4
          clear c4
          by_cases c5 : x5_1 < (l0.length : Int)
          · rw [if_pos c5] at H
            have c5b0 : decide (x5_1 < (l0.length : Int)) = true := decide_eq_true c5
            clear c5
            by_cases c6 : (rd l0 x5_1) = a1
            · rw [if_pos c6] at H
              have c6b0 : ((rd l0 x5_1) == a1) = true := beq_iff_eq.mpr c6
              have c6b1 : ((rd l0 x5_1) != a1) = false := bne_eq_false_iff_eq.mpr c6
              clear c6
              obtain rfl := Option.some.inj H
              have p137 : 0 ≤ (x5_1 : Int) := of_decide_eq_true (by first | (with_reducible assumption) | assumption)
              have q137 : x5_1 < (l0.length : Int) := of_decide_eq_true (by first | (with_reducible assumption) | assumption)
              obtain ⟨ad137, e137, hx137_0⟩ := Kd.at_int HR0.out x5_1 p137 q137
              cases e137
              replace p137 := eq_true p137
              replace q137 := eq_true q137
              go_wp2
              go_ret
              exact ⟨by first | rfl | (simp; done) | (simp [*]; done) | (simp [Go.Proofs.YtfbllodbcmcndaaX.isEmpty_ne]; done), by repeat (first | exact Drawn0.refl _ | apply Drawn0.step)⟩
            · rw [if_neg c6] at H
              have c6b0 : ((rd l0 x5_1) == a1) = false := beq_eq_false_iff_ne.mpr c6
              have c6b1 : ((rd l0 x5_1) != a1) = true := bne_iff_ne.mpr c6
              have H' := Aside0.mk H
              clear H
              have p137 : 0 ≤ (x5_1 : Int) := of_decide_eq_true (by first | (with_reducible assumption) | assumption)
              have q137 : x5_1 < (l0.length : Int) := of_decide_eq_true (by first | (with_reducible assumption) | assumption)
              obtain ⟨ad137, e137, hx137_0⟩ := Kd.at_int HR0.out x5_1 p137 q137
              cases e137
              replace p137 := eq_true p137
              replace q137 := eq_true q137
              go_wp2
              go_roundg k1
              case measure => have := HK1.out; omega
              case rel => exact ⟨(wrap64 (x5_1 - 1)), (by first | rfl | (simp; done) | (simp [*]; done) | (simp [Go.Proofs.YtfbllodbcmcndaaX.isEmpty_ne]; done)), H', ⟨by have := HK1.out; omega⟩, by repeat (first | exact Drawn0.refl _ | apply Drawn0.step)⟩
          · rw [if_neg c5] at H
            exact absurd H (by simp)
        · rw [if_neg c4] at H
          exact absurd H (by simp)
      · rw [if_neg c3] at H
        have c3b0 : decide (0 ≤ x5_1) = false := decide_eq_false c3
        clear c3
        obtain rfl := Option.some.inj H
        go_wp2
        go_ret
        exact ⟨by first | rfl | (simp; done) | (simp [*]; done) | (simp [Go.Proofs.YtfbllodbcmcndaaX.isEmpty_ne]; done), by repeat (first | exact Drawn0.refl _ | apply Drawn0.step)⟩
def bytes_LastIndexByte.f (k : Nat) (l0 : List Int) (a1 : Int) : Option (Int) := (bytealg_LastIndexByte.f k l0 a1).bind fun t138 => (some t138)
set_option maxHeartbeats 8000000 in
set_option maxRecDepth 100000 in
theorem bytes_LastIndexByte.calls (k : Nat) (A0 : Option Addr) (c0 : Nat) (l0 : List Int) (a1 : Int) (r : Int) (w : World) (hr0 : Kd.C (Kd.int .u8) w A0 l0.length l0) (hc0 : l0.length ≤ c0) (h : bytes_LastIndexByte.f k l0 a1 = some r) :
    Calls Try.prog 96 #[.slice A0 l0.length c0, .int .u8 a1] w fun e w' => e = .returned (.int .i64 r) ∧ Drawn0 w w' := by
  have HR0 := Aside0.mk hr0
  have HC0 := Aside0.mk hc0
  clear hr0 hc0
  have H : ((bytealg_LastIndexByte.f k l0 a1).bind fun t138 => (some t138)) = some r := h
  clear h
  replace H := Option.bind_eq_some_iff.mp H
  obtain ⟨t138, A30, H⟩ := H
  replace H : (some t138) = some r := H
  have A3 := Aside0.mk A30
  clear A30
  obtain rfl := Option.some.inj H
  go_enter Try.func96, Try.ntmps96
  go_wp2_with (first | ((with_reducible refine gate_callee (f := 103) rfl ?_); refine goesL_ (some 7) rfl rfl Try.func103 (by kernel_rfl) rfl #[.slice A0 l0.length c0, .int .u8 a1] rfl (by (try simp only [List.map_toArray, List.map_cons, List.map_nil]); first | done | rfl | (simp only [List.length_drop, List.length_take]; rfl)) ?_; (with_reducible refine (bytealg_LastIndexByte.calls k _ _ l0 a1 t138 _ ?side1 ?side2 A3.out).mono ?_); (case side1 => repeat (first | exact HR0.out | (with_reducible refine Kd.C_alloc ?_ _) | (with_reducible refine Kd.C_drewN ?_ _) | (with_reducible refine Kd.C_drew ?_))); (case side2 => exact HC0.out); rintro e w' ⟨rfl, ⟨nd, rfl⟩⟩; refine ⟨_, rfl, ?_⟩))
  go_ret
  exact ⟨by first | rfl | (simp; done) | (simp [*]; done) | (simp [Go.Proofs.YtfbllodbcmcndaaX.isEmpty_ne]; done), by repeat (first | exact Drawn0.refl _ | apply Drawn0.step)⟩
def bytes_Equal.f (l0 : List Int) (l1 : List Int) : Option (Bool) := some ((strOfNums l0).toList == (strOfNums l1).toList)
set_option maxHeartbeats 8000000 in
set_option maxRecDepth 100000 in
theorem bytes_Equal.calls (A0 : Option Addr) (c0 : Nat) (l0 : List Int) (A1 : Option Addr) (c1 : Nat) (l1 : List Int) (r : Bool) (w : World) (hr0 : Kd.C (Kd.int .u8) w A0 l0.length l0) (hc0 : l0.length ≤ c0) (hr1 : Kd.C (Kd.int .u8) w A1 l1.length l1) (hc1 : l1.length ≤ c1) (h : bytes_Equal.f l0 l1 = some r) :
    Calls Try.prog 104 #[.slice A0 l0.length c0, .slice A1 l1.length c1] w fun e w' => e = .returned (.bool r) ∧ Drawn0 w w' := by
  have HR0 := Aside0.mk hr0
  have HC0 := Aside0.mk hc0
  clear hr0 hc0
  have HR1 := Aside0.mk hr1
  have HC1 := Aside0.mk hc1
  clear hr1 hc1
  have H : (some ((strOfNums l0).toList == (strOfNums l1).toList)) = some r := h
  clear h
  obtain rfl := Option.some.inj H
  have hcv3 := Go.Proofs.YtfbllodbcmcndaaX.C_string2 (P := Try.prog) (A := A0) (c := c0) Try.underlying63 Try.underlying5 Try.underlying9 HR0.out
  have hcv4 := Go.Proofs.YtfbllodbcmcndaaX.C_string2 (P := Try.prog) (A := A1) (c := c1) Try.underlying63 Try.underlying5 Try.underlying9 HR1.out
  go_enter Try.func104, Try.ntmps104
  go_wp2
  go_ret
  exact ⟨by first | rfl | (simp; done) | (simp [*]; done) | (simp [Go.Proofs.YtfbllodbcmcndaaX.isEmpty_ne]; done), by repeat (first | exact Drawn0.refl _ | apply Drawn0.step)⟩
end Go.Proofs.Ytfbllodbcmcndaa.Q
namespace Go.Proofs.Ytfbllodbcmcndaa.Q
open Go.RowKit Go.Proofs.YtfbllodbcmcndaaW.PrintWords Go.Proofs.YtfbllodbcmcndaaW.PrintLast Go.Proofs.YtfbllodbcmcndaaW.PrintMore
attribute [local go_sem] max2_int min2_int max_two min_two max_three min_three max_four min_four
set_option linter.unusedVariables false
set_option linter.unusedSimpArgs false
mutual
def bytealg_hashStrRev_byte.l0 : Nat → List Int → Int → Int → Option (Int × Int)
  | 0, _, _, _ => none
  | k + 1, x0, x4, x5 => if x5 ≥ 0 then (if 0 ≤ x5 then (if x5 < (x0.length : Int) then (bytealg_hashStrRev_byte.l0 k x0 ((((x4 * 16777619) % 4294967296) + ((rd x0 x5) % 4294967296)) % 4294967296) (wrap64 (x5 - 1))) else (none)) else (none)) else (bytealg_hashStrRev_byte.l1 k x4 1 16777619 (x0.length : Int))
def bytealg_hashStrRev_byte.l1 : Nat → Int → Int → Int → Int → Option (Int × Int)
  | 0, _, _, _, _ => none
  | k + 1, x4, x6, x7, x8 => if x8 > 0 then (if (Go.bits .and .i64 x8 1) = 0 then (bytealg_hashStrRev_byte.l1 k x4 x6 ((x7 * x7) % 4294967296) (x8 / 2)) else (bytealg_hashStrRev_byte.l1 k x4 ((x6 * x7) % 4294967296) ((x7 * x7) % 4294967296) (x8 / 2))) else (some (x4, x6))
end
def bytealg_hashStrRev_byte.f (k : Nat) (l0 : List Int) : Option (Int × Int) := bytealg_hashStrRev_byte.l0 k l0 0 (wrap64 ((l0.length : Int) - 1))
theorem bytealg_hashStrRev_byte.mono_l : ∀ k, (∀ y0 y1 y2, LeO (bytealg_hashStrRev_byte.l0 k y0 y1 y2) (bytealg_hashStrRev_byte.l0 (k + 1) y0 y1 y2)) ∧ (∀ y0 y1 y2 y3, LeO (bytealg_hashStrRev_byte.l1 k y0 y1 y2 y3) (bytealg_hashStrRev_byte.l1 (k + 1) y0 y1 y2 y3))
  | 0 => ⟨fun _ _ _ r h => by simp [bytealg_hashStrRev_byte.l0] at h, fun _ _ _ _ r h => by simp [bytealg_hashStrRev_byte.l1] at h⟩
  | k + 1 => by
    obtain ⟨ih0, ih1⟩ := bytealg_hashStrRev_byte.mono_l k
    refine ⟨?_, ?_⟩
    · intro y0 y1 y2
      unfold bytealg_hashStrRev_byte.l0
      repeat' first
      | (with_reducible exact ih0 _ _ _)
      | (with_reducible exact ih1 _ _ _ _)
      | (with_reducible exact LeO.refl _)
      | (with_reducible exact LeO.none _)
      | (with_reducible refine LeO.ite ?_ ?_)
      | (with_reducible refine LeO.bind ?_ (fun _ => ?_))
      | exact ih0 _ _ _
      | exact ih1 _ _ _ _
      | exact LeO.none _
      | refine LeO.ite ?_ ?_
      | refine LeO.bind ?_ (fun _ => ?_)
    · intro y0 y1 y2 y3
      unfold bytealg_hashStrRev_byte.l1
      repeat' first
      | (with_reducible exact ih0 _ _ _)
      | (with_reducible exact ih1 _ _ _ _)
      | (with_reducible exact LeO.refl _)
      | (with_reducible exact LeO.none _)
      | (with_reducible refine LeO.ite ?_ ?_)
      | (with_reducible refine LeO.bind ?_ (fun _ => ?_))
      | exact ih0 _ _ _
      | exact ih1 _ _ _ _
      | exact LeO.none _
      | refine LeO.ite ?_ ?_
      | refine LeO.bind ?_ (fun _ => ?_)
theorem bytealg_hashStrRev_byte.mono : ∀ a0 k, LeO (bytealg_hashStrRev_byte.f k a0) (bytealg_hashStrRev_byte.f (k + 1) a0) := by
  intro a0 k
  obtain ⟨ih0, ih1⟩ := bytealg_hashStrRev_byte.mono_l k
  unfold bytealg_hashStrRev_byte.f
  repeat' first
      | (with_reducible exact ih0 _ _ _)
      | (with_reducible exact ih1 _ _ _ _)
      | (with_reducible exact LeO.refl _)
      | (with_reducible exact LeO.none _)
      | (with_reducible refine LeO.ite ?_ ?_)
      | (with_reducible refine LeO.bind ?_ (fun _ => ?_))
      | exact ih0 _ _ _
      | exact ih1 _ _ _ _
      | exact LeO.none _
      | refine LeO.ite ?_ ?_
      | refine LeO.bind ?_ (fun _ => ?_)
set_option maxHeartbeats 8000000 in
set_option maxRecDepth 100000 in
theorem bytealg_hashStrRev_byte.calls (k : Nat) (A0 : Option Addr) (c0 : Nat) (l0 : List Int) (r1 : Int) (r2 : Int) (w : World) (hr0 : Kd.C (Kd.int .u8) w A0 l0.length l0) (hc0 : l0.length ≤ c0) (h : bytealg_hashStrRev_byte.f k l0 = some (r1, r2)) :
    Calls Try.prog 119 #[.slice A0 l0.length c0] w fun e w' => e = .returned (.tuple #[.int .u32 r1, .int .u32 r2]) ∧ Drawn0 w w' := by
  have HR0 := Aside0.mk hr0
  have HC0 := Aside0.mk hc0
  clear hr0 hc0
  have H : (bytealg_hashStrRev_byte.l0 k l0 0 (wrap64 ((l0.length : Int) - 1))) = some (r1, r2) := h
  clear h
  have H' := Aside0.mk H
  clear H
  go_enter Try.func119, Try.ntmps119
  go_wp2
  go_loopg [4, 5] k (fun kq v4 v5 w' => ∃ (x4_1 : Int) (x5_1 : Int), v4 = .int .u32 x4_1 ∧ v5 = .int .i64 x5_1 ∧ Aside0 (bytealg_hashStrRev_byte.l0 kq l0 x4_1 x5_1 = some (r1, r2)) ∧ Aside0 (kq ≤ k) ∧ Drawn0 w w')
  case atStart => exact ⟨(0), (wrap64 ((l0.length : Int) - 1)), (by first | rfl | (simp; done) | (simp [*]; done) | (simp [Go.Proofs.YtfbllodbcmcndaaX.isEmpty_ne]; done)), (by first | rfl | (simp; done) | (simp [*]; done) | (simp [Go.Proofs.YtfbllodbcmcndaaX.isEmpty_ne]; done)), H', ⟨Nat.le_refl _⟩, by repeat (first | exact Drawn0.refl _ | apply Drawn0.step)⟩
  case round =>
    clear H'
    try clear c1
    obtain ⟨x4_1, x5_1, rfl, rfl, HA, HK1, ⟨m1, rfl⟩⟩ := hrel
    cases gk with
    | zero => exact absurd HA.out (by simp [bytealg_hashStrRev_byte.l0])
    | succ k1 =>
      have H := HA.out
      clear HA
      simp only [bytealg_hashStrRev_byte.l0] at H
      by_cases c2 : x5_1 ≥ 0
      · rw [if_pos c2] at H
        have c2b0 : decide (0 ≤ x5_1) = true := decide_eq_true c2
        clear c2
        by_cases c3 : 0 ≤ x5_1
        · rw [if_pos c3] at H
          have c3b0 : decide (0 ≤ x5_1) = true := decide_eq_true c3
          clear c3
          by_cases c4 : x5_1 < (l0.length : Int)
          · rw [if_pos c4] at H
            have c4b0 : decide (x5_1 < (l0.length : Int)) = true := decide_eq_true c4
            clear c4
            have H' := Aside0.mk H
            clear H
            have p139 : 0 ≤ (x5_1 : Int) := of_decide_eq_true (by first | (with_reducible assumption) | assumption)
            have q139 : x5_1 < (l0.length : Int) := of_decide_eq_true (by first | (with_reducible assumption) | assumption)
            obtain ⟨ad139, e139, hx139_0⟩ := Kd.at_int HR0.out x5_1 p139 q139
            cases e139
            replace p139 := eq_true p139
            replace q139 := eq_true q139
            go_wp2
            go_roundg k1
            case measure => have := HK1.out; omega
            case rel => exact ⟨((((x4_1 * 16777619) % 4294967296) + ((rd l0 x5_1) % 4294967296)) % 4294967296), (wrap64 (x5_1 - 1)), (by first | rfl | (simp; done) | (simp [*]; done) | (simp [Go.Proofs.YtfbllodbcmcndaaX.isEmpty_ne]; done)), (by first | rfl | (simp; done) | (simp [*]; done) | (simp [Go.Proofs.YtfbllodbcmcndaaX.isEmpty_ne]; done)), H', ⟨by have := HK1.out; omega⟩, by repeat (first | exact Drawn0.refl _ | apply Drawn0.step)⟩
          · rw [if_neg c4] at H
            exact absurd H (by simp)
        · rw [if_neg c3] at H
          exact absurd H (by simp)
      · rw [if_neg c2] at H
        have c2b0 : decide (0 ≤ x5_1) = false := decide_eq_false c2
        clear c2
        have H' := Aside0.mk H
        clear H
        go_wp2
        go_loopg [6, 7, 8] k1 (fun kq v6 v7 v8 w' => ∃ (x6_2 : Int) (x7_2 : Int) (x8_2 : Int), v6 = .int .u32 x6_2 ∧ v7 = .int .u32 x7_2 ∧ v8 = .int .i64 x8_2 ∧ Aside0 (bytealg_hashStrRev_byte.l1 kq x4_1 x6_2 x7_2 x8_2 = some (r1, r2)) ∧ Aside0 (kq ≤ k1) ∧ Drawn0 w w')
        case atStart => exact ⟨(1), (16777619), ((l0.length : Int)), (by first | rfl | (simp; done) | (simp [*]; done) | (simp [Go.Proofs.YtfbllodbcmcndaaX.isEmpty_ne]; done)), (by first | rfl | (simp; done) | (simp [*]; done) | (simp [Go.Proofs.YtfbllodbcmcndaaX.isEmpty_ne]; done)), (by first | rfl | (simp; done) | (simp [*]; done) | (simp [Go.Proofs.YtfbllodbcmcndaaX.isEmpty_ne]; done)), H', ⟨Nat.le_refl _⟩, by repeat (first | exact Drawn0.refl _ | apply Drawn0.step)⟩
        case round =>
          clear H'
          try clear c1
          try clear p1
          try clear q1
          try clear hx1
          try clear c2
          try clear c2b0
          try clear p2
          try clear c3
          try clear c3b0
          try clear c4
          try clear c4b0
          try clear hx139_0
          try clear p139
          try clear q139
          obtain ⟨x6_2, x7_2, x8_2, rfl, rfl, rfl, HA, HK2, ⟨m2, rfl⟩⟩ := hrel
          cases gk with
          | zero => exact absurd HA.out (by simp [bytealg_hashStrRev_byte.l1])
          | succ k2 =>
            have H := HA.out
            clear HA
            simp only [bytealg_hashStrRev_byte.l1] at H
            by_cases c5 : x8_2 > 0
            · rw [if_pos c5] at H
              have c5b0 : decide (0 < x8_2) = true := decide_eq_true c5
              clear c5
              by_cases c6 : (Go.bits .and .i64 x8_2 1) = 0
              · rw [if_pos c6] at H
                have c6b0 : ((Go.bits .and .i64 x8_2 1) == 0) = true := beq_iff_eq.mpr c6
                have c6b1 : ((Go.bits .and .i64 x8_2 1) != 0) = false := bne_eq_false_iff_eq.mpr c6
                clear c6
                have H' := Aside0.mk H
                clear H
                go_wp2
                go_roundg k2
                case measure => have := HK1.out; have := HK2.out; omega
                case rel => exact ⟨(x6_2), ((x7_2 * x7_2) % 4294967296), (x8_2 / 2), (by first | rfl | (simp; done) | (simp [*]; done) | (simp [Go.Proofs.YtfbllodbcmcndaaX.isEmpty_ne]; done)), (by first | rfl | (simp; done) | (simp [*]; done) | (simp [Go.Proofs.YtfbllodbcmcndaaX.isEmpty_ne]; done)), (by first | rfl | (simp; done) | (simp [*]; done) | (simp [Go.Proofs.YtfbllodbcmcndaaX.isEmpty_ne]; done)), H', ⟨by have := HK1.out; have := HK2.out; omega⟩, by repeat (first | exact Drawn0.refl _ | apply Drawn0.step)⟩
              · rw [if_neg c6] at H
                have c6b0 : ((Go.bits .and .i64 x8_2 1) == 0) = false := beq_eq_false_iff_ne.mpr c6
                have c6b1 : ((Go.bits .and .i64 x8_2 1) != 0) = true := bne_iff_ne.mpr c6
                have H' := Aside0.mk H
                clear H
                go_wp2
                go_roundg k2
                case measure => have := HK1.out; have := HK2.out; omega
                case rel => exact ⟨((x6_2 * x7_2) % 4294967296), ((x7_2 * x7_2) % 4294967296), (x8_2 / 2), (by first | rfl | (simp; done) | (simp [*]; done) | (simp [Go.Proofs.YtfbllodbcmcndaaX.isEmpty_ne]; done)), (by first | rfl | (simp; done) | (simp [*]; done) | (simp [Go.Proofs.YtfbllodbcmcndaaX.isEmpty_ne]; done)), (by first | rfl | (simp; done) | (simp [*]; done) | (simp [Go.Proofs.YtfbllodbcmcndaaX.isEmpty_ne]; done)), H', ⟨by have := HK1.out; have := HK2.out; omega⟩, by repeat (first | exact Drawn0.refl _ | apply Drawn0.step)⟩
            · rw [if_neg c5] at H
              have c5b0 : decide (0 < x8_2) = false := decide_eq_false c5
              clear c5
              simp only [Option.some.injEq, Prod.mk.injEq] at H
              obtain ⟨rfl, rfl⟩ := H
              go_wp2
              go_ret2
              exact ⟨by first | rfl | (simp; done) | (simp [*]; done) | (simp [Go.Proofs.YtfbllodbcmcndaaX.isEmpty_ne]; done), by repeat (first | exact Drawn0.refl _ | apply Drawn0.step)⟩
end Go.Proofs.Ytfbllodbcmcndaa.Q
end
section
namespace Go.Proofs.Ytfbllodbcmcndaa.Q
open Go.RowKit Go.Proofs.YtfbllodbcmcndaaW.PrintWords Go.Proofs.YtfbllodbcmcndaaW.PrintLast Go.Proofs.YtfbllodbcmcndaaW.PrintMore
attribute [local go_sem] max2_int min2_int max_two min_two max_three min_three max_four min_four
set_option linter.unusedVariables false
set_option linter.unusedSimpArgs false
mutual
def bytealg_LastIndexRabinKarp_byte.l0 : Nat → List Int → List Int → Int → Int → Int → Int → Int → Int → Option (Int)
  | 0, _, _, _, _, _, _, _, _ => none
  | k + 1, x0, x1, x5, x6, x7, x8, x9, x10 => if x10 ≥ x8 then (if 0 ≤ x10 then (if x10 < (x0.length : Int) then (bytealg_LastIndexRabinKarp_byte.l0 k x0 x1 x5 x6 x7 x8 ((((x9 * 16777619) % 4294967296) + ((rd x0 x10) % 4294967296)) % 4294967296) (wrap64 (x10 - 1))) else (none)) else (none)) else (if x9 = x5 then (if 0 ≤ x8 then (if x8 ≤ (x0.length : Int) then (bytealg_LastIndexRabinKarp_byte.j1 k x0 x1 x5 x6 x7 x8 x9 ((strOfNums (x0.drop (x8 : Int).toNat)).toList == (strOfNums x1).toList)) else (none)) else (none)) else (bytealg_LastIndexRabinKarp_byte.j1 k x0 x1 x5 x6 x7 x8 x9 false))
def bytealg_LastIndexRabinKarp_byte.j1 : Nat → List Int → List Int → Int → Int → Int → Int → Int → Bool → Option (Int)
  | 0, _, _, _, _, _, _, _, _ => none
  | k + 1, x0, x1, x5, x6, x7, x8, x9, x50 => if x50 = true then (some x8) else (bytealg_LastIndexRabinKarp_byte.l1 k x0 x1 x5 x6 x7 x9 (wrap64 (x8 - 1)))
def bytealg_LastIndexRabinKarp_byte.l1 : Nat → List Int → List Int → Int → Int → Int → Int → Int → Option (Int)
  | 0, _, _, _, _, _, _, _ => none
  | k + 1, x0, x1, x5, x6, x7, x9, x11 => if x11 ≥ 0 then (if 0 ≤ x11 then (if x11 < (x0.length : Int) then (if 0 ≤ (wrap64 (x11 + x7)) then (if (wrap64 (x11 + x7)) < (x0.length : Int) then (if ((((((x9 * 16777619) % 4294967296) + ((rd x0 x11) % 4294967296)) % 4294967296) - ((x6 * ((rd x0 (wrap64 (x11 + x7))) % 4294967296)) % 4294967296)) % 4294967296) = x5 then (if x11 ≤ (wrap64 (x11 + x7)) then (if (wrap64 (x11 + x7)) ≤ (x0.length : Int) then (if (strOfNums ((x0.take ((wrap64 (x11 + x7)) : Int).toNat).drop (x11 : Int).toNat)).toList = (strOfNums x1).toList then (some x11) else (bytealg_LastIndexRabinKarp_byte.l1 k x0 x1 x5 x6 x7 ((((((x9 * 16777619) % 4294967296) + ((rd x0 x11) % 4294967296)) % 4294967296) - ((x6 * ((rd x0 (wrap64 (x11 + x7))) % 4294967296)) % 4294967296)) % 4294967296) (wrap64 (x11 - 1)))) else (none)) else (none)) else (bytealg_LastIndexRabinKarp_byte.l1 k x0 x1 x5 x6 x7 ((((((x9 * 16777619) % 4294967296) + ((rd x0 x11) % 4294967296)) % 4294967296) - ((x6 * ((rd x0 (wrap64 (x11 + x7))) % 4294967296)) % 4294967296)) % 4294967296) (wrap64 (x11 - 1)))) else (none)) else (none)) else (none)) else (none)) else (some (-1))
end
def bytealg_LastIndexRabinKarp_byte.f (k : Nat) (l0 : List Int) (l1 : List Int) : Option (Int) := (bytealg_hashStrRev_byte.f k l1).bind fun bt140 => (bytealg_LastIndexRabinKarp_byte.l0 k l0 l1 bt140.1 bt140.2 (l1.length : Int) (wrap64 ((l0.length : Int) - (l1.length : Int))) 0 (wrap64 ((l0.length : Int) - 1)))
set_option maxHeartbeats 8000000 in
set_option maxRecDepth 100000 in
theorem bytealg_LastIndexRabinKarp_byte.calls (k : Nat) (A0 : Option Addr) (c0 : Nat) (l0 : List Int) (A1 : Option Addr) (c1 : Nat) (l1 : List Int) (r : Int) (w : World) (hr0 : Kd.C (Kd.int .u8) w A0 l0.length l0) (hc0 : l0.length ≤ c0) (hr1 : Kd.C (Kd.int .u8) w A1 l1.length l1) (hc1 : l1.length ≤ c1) (h : bytealg_LastIndexRabinKarp_byte.f k l0 l1 = some r) :
    Calls Try.prog 105 #[.slice A0 l0.length c0, .slice A1 l1.length c1] w fun e w' => e = .returned (.int .i64 r) ∧ Drawn0 w w' := by
  have HR0 := Aside0.mk hr0
  have HC0 := Aside0.mk hc0
  clear hr0 hc0
  have HR1 := Aside0.mk hr1
  have HC1 := Aside0.mk hc1
  clear hr1 hc1
  have H : ((bytealg_hashStrRev_byte.f k l1).bind fun bt140 => (bytealg_LastIndexRabinKarp_byte.l0 k l0 l1 bt140.1 bt140.2 (l1.length : Int) (wrap64 ((l0.length : Int) - (l1.length : Int))) 0 (wrap64 ((l0.length : Int) - 1)))) = some r := h
  clear h
  replace H := Option.bind_eq_some_iff.mp H
  obtain ⟨⟨t140, t141⟩, A30, H⟩ := H
  replace H : (bytealg_LastIndexRabinKarp_byte.l0 k l0 l1 t140 t141 (l1.length : Int) (wrap64 ((l0.length : Int) - (l1.length : Int))) 0 (wrap64 ((l0.length : Int) - 1))) = some r := H
  have A3 := Aside0.mk A30
  clear A30
  have H' := Aside0.mk H
  clear H
  go_enter Try.func105, Try.ntmps105
  go_wp2_with (first | (go_at_call 119; (with_reducible refine (bytealg_hashStrRev_byte.calls k _ _ l1 t140 t141 _ ?side1 ?side2 A3.out).mono ?_); (case side1 => repeat (first | exact HR1.out | (with_reducible refine Kd.C_alloc ?_ _) | (with_reducible refine Kd.C_drewN ?_ _) | (with_reducible refine Kd.C_drew ?_))); (case side2 => exact HC1.out); rintro e w' ⟨rfl, ⟨nd, rfl⟩⟩; (try first | exact ⟨rfl, _, World.drewN_drewN _ _ _⟩ | exact ⟨rfl, _, Eq.trans (World.drewN_drewN _ _ _) (congrArg (World.drewN _) (Nat.add_assoc _ _ _))⟩)))
  repeat (go_quiet (first | (go_at_call 119; (with_reducible refine (bytealg_hashStrRev_byte.calls k _ _ l1 t140 t141 _ ?side1 ?side2 A3.out).mono ?_); (case side1 => repeat (first | exact HR1.out | (with_reducible refine Kd.C_alloc ?_ _) | (with_reducible refine Kd.C_drewN ?_ _) | (with_reducible refine Kd.C_drew ?_))); (case side2 => exact HC1.out); rintro e w' ⟨rfl, ⟨nd, rfl⟩⟩; (try first | exact ⟨rfl, _, World.drewN_drewN _ _ _⟩ | exact ⟨rfl, _, Eq.trans (World.drewN_drewN _ _ _) (congrArg (World.drewN _) (Nat.add_assoc _ _ _))⟩))); try go_wp2_with (first | (go_at_call 119; (with_reducible refine (bytealg_hashStrRev_byte.calls k _ _ l1 t140 t141 _ ?side1 ?side2 A3.out).mono ?_); (case side1 => repeat (first | exact HR1.out | (with_reducible refine Kd.C_alloc ?_ _) | (with_reducible refine Kd.C_drewN ?_ _) | (with_reducible refine Kd.C_drew ?_))); (case side2 => exact HC1.out); rintro e w' ⟨rfl, ⟨nd, rfl⟩⟩; (try first | exact ⟨rfl, _, World.drewN_drewN _ _ _⟩ | exact ⟨rfl, _, Eq.trans (World.drewN_drewN _ _ _) (congrArg (World.drewN _) (Nat.add_assoc _ _ _))⟩))))
  go_loopg [9, 10] k (fun kq v9 v10 w' => ∃ (x9_1 : Int) (x10_1 : Int), v9 = .int .u32 x9_1 ∧ v10 = .int .i64 x10_1 ∧ Aside0 (bytealg_LastIndexRabinKarp_byte.l0 kq l0 l1 t140 t141 (l1.length : Int) (wrap64 ((l0.length : Int) - (l1.length : Int))) x9_1 x10_1 = some r) ∧ Aside0 (kq ≤ k) ∧ Drawn0 w w')
  case atStart => exact ⟨(0), (wrap64 ((l0.length : Int) - 1)), (by first | rfl | (simp; done) | (simp [*]; done) | (simp [Go.Proofs.YtfbllodbcmcndaaX.isEmpty_ne]; done)), (by first | rfl | (simp; done) | (simp [*]; done) | (simp [Go.Proofs.YtfbllodbcmcndaaX.isEmpty_ne]; done)), H', ⟨Nat.le_refl _⟩, by repeat (first | exact Drawn0.refl _ | apply Drawn0.step)⟩
  case round =>
    clear H'
    try clear c1
    try clear p2
    obtain ⟨x9_1, x10_1, rfl, rfl, HA, HK1, ⟨m1, rfl⟩⟩ := hrel
    cases gk with
    | zero => exact absurd HA.out (by simp [bytealg_LastIndexRabinKarp_byte.l0])
    | succ k1 =>
      have H := HA.out
      clear HA
      simp only [bytealg_LastIndexRabinKarp_byte.l0] at H
      by_cases c4 : x10_1 ≥ (wrap64 ((l0.length : Int) - (l1.length : Int)))
      · rw [if_pos c4] at H
        have c4b0 : decide ((wrap64 ((l0.length : Int) - (l1.length : Int))) ≤ x10_1) = true := decide_eq_true c4
        clear c4
        by_cases c5 : 0 ≤ x10_1
        · rw [if_pos c5] at H
          have c5b0 : decide (0 ≤ x10_1) = true := decide_eq_true c5
          clear c5
          by_cases c6 : x10_1 < (l0.length : Int)
          · rw [if_pos c6] at H
            have c6b0 : decide (x10_1 < (l0.length : Int)) = true := decide_eq_true c6
            clear c6
            have H' := Aside0.mk H
            clear H
            have p142 : 0 ≤ (x10_1 : Int) := of_decide_eq_true (by first | (with_reducible assumption) | assumption)
            have q142 : x10_1 < (l0.length : Int) := of_decide_eq_true (by first | (with_reducible assumption) | assumption)
            obtain ⟨ad142, e142, hx142_0⟩ := Kd.at_int HR0.out x10_1 p142 q142
            cases e142
            replace p142 := eq_true p142
            replace q142 := eq_true q142
            go_wp2
            have hw8_ := Go.Proofs.YtfbllodbcmcndaaX.wrap_u8; have hw64_ := Go.Proofs.YtfbllodbcmcndaaX.wrap_i64; repeat (go_quiet (fail); try go_wp2)
            go_roundg k1
            case measure => have := HK1.out; omega
            case rel => exact ⟨((((x9_1 * 16777619) % 4294967296) + ((rd l0 x10_1) % 4294967296)) % 4294967296), (wrap64 (x10_1 - 1)), (by first | rfl | (simp; done) | (simp [*]; done) | (simp [Go.Proofs.YtfbllodbcmcndaaX.isEmpty_ne]; done)), (by first | rfl | (simp; done) | (simp [*]; done) | (simp [Go.Proofs.YtfbllodbcmcndaaX.isEmpty_ne]; done)), H', ⟨by have := HK1.out; omega⟩, by repeat (first | exact Drawn0.refl _ | apply Drawn0.step)⟩
          · rw [if_neg c6] at H
            exact absurd H (by simp)
        · rw [if_neg c5] at H
          exact absurd H (by simp)
      · rw [if_neg c4] at H
        have c4b0 : decide ((wrap64 ((l0.length : Int) - (l1.length : Int))) ≤ x10_1) = false := decide_eq_false c4
        clear c4
        have HC7 := Aside0.mk H
        clear H
        go_upto_region 9 with (fail)
        repeat (go_quiet (fail); go_upto_region 9 with (fail))
        go_cut [50] (fun v50 wc => ∃ (kq : Nat) (x50_6 : Bool), v50 = .bool x50_6 ∧ Aside0 (bytealg_LastIndexRabinKarp_byte.j1 kq l0 l1 t140 t141 (l1.length : Int) (wrap64 ((l0.length : Int) - (l1.length : Int))) x9_1 x50_6 = some r) ∧ Aside0 (kq ≤ k1) ∧ Drawn0 w wc)
        case first =>
          have H := HC7.out
          clear HC7
          by_cases c8 : x9_1 = t140
          · rw [if_pos c8] at H
            have c8b0 : (x9_1 == t140) = true := beq_iff_eq.mpr c8
            have c8b1 : (x9_1 != t140) = false := bne_eq_false_iff_eq.mpr c8
            clear c8
            (first | rw [c8b0] | (simp only [i64_w, i32_w]; rw [c8b0]) | (rw [Go.Proofs.YtfbllodbcmcndaaX.isEmpty_eq]; rw [c8b0]) | skip)
            obtain ⟨ji9, hji9⟩ : ∃ j_ : Int, (wrap64 ((l0.length : Int) - (l1.length : Int))) = j_ := ⟨_, rfl⟩
            replace H : (if 0 ≤ (ji9) then (if (ji9) ≤ (l0.length : Int) then (bytealg_LastIndexRabinKarp_byte.j1 k1 l0 l1 t140 t141 (l1.length : Int) (ji9) x9_1 ((strOfNums (l0.drop ((ji9) : Int).toNat)).toList == (strOfNums l1).toList)) else (none)) else (none)) = some r := by first | (rw [hji9] at H; exact H) | (simp only [hji9] at H ⊢; exact H)
            (try rw [hji9] at c4b0)
            have hji9w : (IntKind.i64.wrap ((l0.length : Int) - (l1.length : Int))) = ji9 := (i64_w _).trans hji9
            by_cases c10 : 0 ≤ (ji9)
            · rw [if_pos c10] at H
              have c10b0 := eq_true c10
              have c10b1 : decide (0 ≤ (ji9)) = true := decide_eq_true c10
              clear c10
              by_cases c11 : (ji9) ≤ (l0.length : Int)
              · rw [if_pos c11] at H
                have c11b0 := eq_true c11
                have c11b1 : decide ((ji9) ≤ (l0.length : Int)) = true := decide_eq_true c11
                clear c11
                have H' := Aside0.mk H
                clear H
                obtain ⟨i012, hi012, _, hsz12, _⟩ := info_parts info5
                obtain ⟨A12, hcut12, hA12, hC12⟩ := print_drop_of (P := Try.prog) (Value.int .u8) 0 63 5 .i64 Try.underlying63 hi012 hsz12 A0 c0 l0 (ji9) (of_decide_eq_true (by first | (with_reducible assumption) | assumption)) (of_decide_eq_true (by first | (with_reducible assumption) | assumption)) HC0.out
                have HR143 := Aside0.mk (Kd.C_of_reads (h1 := fun _ => rfl) (hA12 _ (Kd.reads_of_C HR0.out)))
                have HC143 := Aside0.mk hC12
                clear hA12 hC12 hi012 hsz12
                have hcv13 := Go.Proofs.YtfbllodbcmcndaaX.C_string2 (P := Try.prog) (A := A12) (c := (c0 - (ji9).toNat)) Try.underlying63 Try.underlying5 Try.underlying9 HR143.out
                first | (generalize hnq13 : List.length (List.drop _ _) = nq13 at hcut12 hcv13) | (generalize hnq13 : List.length (List.take _ _) = nq13 at hcut12 hcv13)
                have hcv14 := Go.Proofs.YtfbllodbcmcndaaX.C_string2 (P := Try.prog) (A := A1) (c := c1) Try.underlying63 Try.underlying5 Try.underlying9 HR1.out
                go_wp2
                have hw8_ := Go.Proofs.YtfbllodbcmcndaaX.wrap_u8; have hw64_ := Go.Proofs.YtfbllodbcmcndaaX.wrap_i64; repeat (go_quiet (fail); try go_wp2)
                go_meet
                case rel => exact ⟨_, (((strOfNums (l0.drop ((ji9) : Int).toNat)).toList == (strOfNums l1).toList)), (by first | rfl | (simp; done) | (simp only [← hji9] <;> (first | rfl | simp)) | (simp [*]; done) | (simp [Go.Proofs.YtfbllodbcmcndaaX.isEmpty_ne]; done)), by first | exact H' | (exact ⟨by rw [hji9]; exact H'.out⟩), ⟨by have := HK1.out; first | omega | exact Nat.le_refl _⟩, by repeat (first | exact Drawn0.refl _ | apply Drawn0.step)⟩
              · rw [if_neg c11] at H
                exact absurd H (by simp)
            · rw [if_neg c10] at H
              exact absurd H (by simp)
          · rw [if_neg c8] at H
            have c8b0 : (x9_1 == t140) = false := beq_eq_false_iff_ne.mpr c8
            have c8b1 : (x9_1 != t140) = true := bne_iff_ne.mpr c8
            (first | rw [c8b0] | (simp only [i64_w, i32_w]; rw [c8b0]) | (rw [Go.Proofs.YtfbllodbcmcndaaX.isEmpty_eq]; rw [c8b0]) | skip)
            have H' := Aside0.mk H
            clear H
            go_wp2
            have hw8_ := Go.Proofs.YtfbllodbcmcndaaX.wrap_u8; have hw64_ := Go.Proofs.YtfbllodbcmcndaaX.wrap_i64; repeat (go_quiet (fail); try go_wp2)
            go_meet
            case rel => exact ⟨_, (false), (by first | rfl | (simp; done) | (simp [*]; done) | (simp [Go.Proofs.YtfbllodbcmcndaaX.isEmpty_ne]; done)), H', ⟨by have := HK1.out; first | omega | exact Nat.le_refl _⟩, by repeat (first | exact Drawn0.refl _ | apply Drawn0.step)⟩
        case rest =>
          clear HC7
          try clear c1
          try clear p1
          try clear q1
          try clear hx1
          try clear hcv1
          try clear p2
          try clear c4
          try clear c4b0
          try clear c5
          try clear c5b0
          try clear c6
          try clear c6b0
          try clear p6
          try clear c8
          try clear c8b0
          try clear c8b1
          try clear c10
          try clear c10b0
          try clear c10b1
          try clear c11
          try clear c11b0
          try clear c11b1
          try clear hcv13
          try clear p14
          try clear q14
          try clear hx14
          try clear hcv14
          try clear hx142_0
          try clear p142
          try clear p2
          try clear q142
          obtain ⟨kq, x50_6, rfl, HA, HJ6, ⟨mc6, rfl⟩⟩ := hcut
          cases kq with
          | zero => exact absurd HA.out (by simp [bytealg_LastIndexRabinKarp_byte.j1])
          | succ kj6 =>
            have H := HA.out
            clear HA
            simp only [bytealg_LastIndexRabinKarp_byte.j1] at H
            by_cases c15 : x50_6 = true
            · subst c15
              have H1 : (some (wrap64 ((l0.length : Int) - (l1.length : Int)))) = some r := by rw [if_pos rfl] at H; exact H
              clear H
              have H := H1
              clear H1
              obtain rfl := Option.some.inj H
              go_wp2
              have hw8_ := Go.Proofs.YtfbllodbcmcndaaX.wrap_u8; have hw64_ := Go.Proofs.YtfbllodbcmcndaaX.wrap_i64; repeat (go_quiet (fail); try go_wp2)
              go_ret
              exact ⟨by first | rfl | (simp; done) | (simp [*]; done) | (simp [Go.Proofs.YtfbllodbcmcndaaX.isEmpty_ne]; done), by repeat (first | exact Drawn0.refl _ | apply Drawn0.step)⟩
            · replace c15 := Bool.eq_false_iff.mpr c15
              subst c15
              have H1 : (bytealg_LastIndexRabinKarp_byte.l1 kj6 l0 l1 t140 t141 (l1.length : Int) x9_1 (wrap64 ((wrap64 ((l0.length : Int) - (l1.length : Int))) - 1))) = some r := by rw [if_neg (show ¬ (false = true) by decide)] at H; exact H
              clear H
              have H := H1
              clear H1
              have H' := Aside0.mk H
              clear H
              go_wp2
              have hw8_ := Go.Proofs.YtfbllodbcmcndaaX.wrap_u8; have hw64_ := Go.Proofs.YtfbllodbcmcndaaX.wrap_i64; repeat (go_quiet (fail); try go_wp2)
              go_loopg [9, 11] kj6 (fun kq v9 v11 w' => ∃ (x9_3 : Int) (x11_3 : Int), v9 = .int .u32 x9_3 ∧ v11 = .int .i64 x11_3 ∧ Aside0 (bytealg_LastIndexRabinKarp_byte.l1 kq l0 l1 t140 t141 (l1.length : Int) x9_3 x11_3 = some r) ∧ Aside0 (kq ≤ kj6) ∧ Drawn0 w w')
              case atStart => exact ⟨(x9_1), (wrap64 ((wrap64 ((l0.length : Int) - (l1.length : Int))) - 1)), (by first | rfl | (simp; done) | (simp [*]; done) | (simp [Go.Proofs.YtfbllodbcmcndaaX.isEmpty_ne]; done)), (by first | rfl | (simp; done) | (simp [*]; done) | (simp [Go.Proofs.YtfbllodbcmcndaaX.isEmpty_ne]; done)), H', ⟨Nat.le_refl _⟩, by repeat (first | exact Drawn0.refl _ | apply Drawn0.step)⟩
              case round =>
                clear H'
                try clear c1
                try clear p1
                try clear q1
                try clear hx1
                try clear hcv1
                try clear p2
                try clear c4
                try clear c4b0
                try clear c5
                try clear c5b0
                try clear c6
                try clear c6b0
                try clear p6
                try clear c8
                try clear c8b0
                try clear c8b1
                try clear c10
                try clear c10b0
                try clear c10b1
                try clear c11
                try clear c11b0
                try clear c11b1
                try clear hcv13
                try clear p14
                try clear q14
                try clear hx14
                try clear hcv14
                try clear c15
                try clear hx142_0
                try clear p1
                try clear p14
                try clear p142
                try clear p2
                try clear p6
                try clear q1
                try clear q14
                try clear q142
                obtain ⟨x9_3, x11_3, rfl, rfl, HA, HK3, ⟨m3, rfl⟩⟩ := hrel
                cases gk with
                | zero => exact absurd HA.out (by simp [bytealg_LastIndexRabinKarp_byte.l1])
                | succ k3 =>
                  have H := HA.out
                  clear HA
                  simp only [bytealg_LastIndexRabinKarp_byte.l1] at H
                  by_cases c16 : x11_3 ≥ 0
                  · rw [if_pos c16] at H
                    have c16b0 : decide (0 ≤ x11_3) = true := decide_eq_true c16
                    clear c16
                    by_cases c17 : 0 ≤ x11_3
                    · rw [if_pos c17] at H
                      have c17b0 : decide (0 ≤ x11_3) = true := decide_eq_true c17
                      clear c17
                      by_cases c18 : x11_3 < (l0.length : Int)
                      · rw [if_pos c18] at H
                        have c18b0 : decide (x11_3 < (l0.length : Int)) = true := decide_eq_true c18
                        clear c18
                        obtain ⟨ji19, hji19⟩ : ∃ j_ : Int, (wrap64 (x11_3 + (l1.length : Int))) = j_ := ⟨_, rfl⟩
                        replace H : (if 0 ≤ (ji19) then (if (ji19) < (l0.length : Int) then (if ((((((x9_3 * 16777619) % 4294967296) + ((rd l0 x11_3) % 4294967296)) % 4294967296) - ((t141 * ((rd l0 (ji19)) % 4294967296)) % 4294967296)) % 4294967296) = t140 then (if x11_3 ≤ (ji19) then (if (ji19) ≤ (l0.length : Int) then (if (strOfNums ((l0.take ((ji19) : Int).toNat).drop (x11_3 : Int).toNat)).toList = (strOfNums l1).toList then (some x11_3) else (bytealg_LastIndexRabinKarp_byte.l1 k3 l0 l1 t140 t141 (l1.length : Int) ((((((x9_3 * 16777619) % 4294967296) + ((rd l0 x11_3) % 4294967296)) % 4294967296) - ((t141 * ((rd l0 (ji19)) % 4294967296)) % 4294967296)) % 4294967296) (wrap64 (x11_3 - 1)))) else (none)) else (none)) else (bytealg_LastIndexRabinKarp_byte.l1 k3 l0 l1 t140 t141 (l1.length : Int) ((((((x9_3 * 16777619) % 4294967296) + ((rd l0 x11_3) % 4294967296)) % 4294967296) - ((t141 * ((rd l0 (ji19)) % 4294967296)) % 4294967296)) % 4294967296) (wrap64 (x11_3 - 1)))) else (none)) else (none)) = some r := by first | (rw [hji19] at H; exact H) | (simp only [hji19] at H ⊢; exact H)
                        have hji19w : (IntKind.i64.wrap (x11_3 + (l1.length : Int))) = ji19 := (i64_w _).trans hji19
                        by_cases c20 : 0 ≤ (ji19)
                        · rw [if_pos c20] at H
                          have c20b0 : decide (0 ≤ (ji19)) = true := decide_eq_true c20
                          clear c20
                          by_cases c21 : (ji19) < (l0.length : Int)
                          · rw [if_pos c21] at H
                            have c21b0 : decide ((ji19) < (l0.length : Int)) = true := decide_eq_true c21
                            clear c21
                            by_cases c22 : ((((((x9_3 * 16777619) % 4294967296) + ((rd l0 x11_3) % 4294967296)) % 4294967296) - ((t141 * ((rd l0 (ji19)) % 4294967296)) % 4294967296)) % 4294967296) = t140
                            · rw [if_pos c22] at H
                              have c22b0 : (((((((x9_3 * 16777619) % 4294967296) + ((rd l0 x11_3) % 4294967296)) % 4294967296) - ((t141 * ((rd l0 (ji19)) % 4294967296)) % 4294967296)) % 4294967296) == t140) = true := beq_iff_eq.mpr c22
                              have c22b1 : (((((((x9_3 * 16777619) % 4294967296) + ((rd l0 x11_3) % 4294967296)) % 4294967296) - ((t141 * ((rd l0 (ji19)) % 4294967296)) % 4294967296)) % 4294967296) != t140) = false := bne_eq_false_iff_eq.mpr c22
                              have c22s := c22
                              try simp at c22s
                              replace c22s := eq_true c22s
                              clear c22
                              have c23b0 := eq_true (of_decide_eq_true (by first | (with_reducible assumption) | assumption) : 0 ≤ x11_3)
                              by_cases c24 : x11_3 ≤ (ji19)
                              · rw [if_pos c24] at H
                                have c24b0 := eq_true c24
                                have c24b1 : decide (x11_3 ≤ (ji19)) = true := decide_eq_true c24
                                clear c24
                                by_cases c25 : (ji19) ≤ (l0.length : Int)
                                · rw [if_pos c25] at H
                                  have c25b0 := eq_true c25
                                  have c25b1 : decide ((ji19) ≤ (l0.length : Int)) = true := decide_eq_true c25
                                  clear c25
                                  by_cases c26 : (strOfNums ((l0.take ((ji19) : Int).toNat).drop (x11_3 : Int).toNat)).toList = (strOfNums l1).toList
                                  · rw [if_pos c26] at H
                                    have c26b0 : ((strOfNums ((l0.take ((ji19) : Int).toNat).drop (x11_3 : Int).toNat)).toList == (strOfNums l1).toList) = true := beq_iff_eq.mpr c26
                                    have c26b1 : ((strOfNums ((l0.take ((ji19) : Int).toNat).drop (x11_3 : Int).toNat)).toList != (strOfNums l1).toList) = false := bne_eq_false_iff_eq.mpr c26
                                    clear c26
                                    obtain rfl := Option.some.inj H
                                    have p144 : 0 ≤ (x11_3 : Int) := of_decide_eq_true (by first | (with_reducible assumption) | assumption)
                                    have q144 : x11_3 < (l0.length : Int) := of_decide_eq_true (by first | (with_reducible assumption) | assumption)
                                    obtain ⟨ad144, e144, hx144_0⟩ := Kd.at_int HR0.out x11_3 p144 q144
                                    cases e144
                                    replace p144 := eq_true p144
                                    replace q144 := eq_true q144
                                    have p145 : 0 ≤ ((ji19) : Int) := of_decide_eq_true (by first | (with_reducible assumption) | assumption)
                                    have q145 : (ji19) < (l0.length : Int) := of_decide_eq_true (by first | (with_reducible assumption) | assumption)
                                    obtain ⟨ad145, e145, hx145_0⟩ := Kd.at_int HR0.out (ji19) p145 q145
                                    obtain rfl : ad144 = ad145 := (by injection e145)
                                    replace p145 := eq_true p145
                                    replace q145 := eq_true q145
                                    obtain ⟨i027, hi027, _, hsz27, _⟩ := info_parts info5
                                    obtain ⟨A27, hcut27, hA27, hC27⟩ := print_mid_of (P := Try.prog) (Value.int .u8) 0 63 5 .i64 .i64 Try.underlying63 hi027 hsz27 (some ad144) c0 l0 x11_3 (ji19) (of_decide_eq_true (by first | (with_reducible assumption) | assumption)) (by first | omega | exact of_decide_eq_true (by first | (with_reducible assumption) | assumption)) (of_decide_eq_true (by first | (with_reducible assumption) | assumption)) HC0.out
                                    have HR146 := Aside0.mk (Kd.C_of_reads (h1 := fun _ => rfl) (hA27 _ (Kd.reads_of_C HR0.out)))
                                    have HC146 := Aside0.mk hC27
                                    clear hA27 hC27 hi027 hsz27
                                    have hcv28 := Go.Proofs.YtfbllodbcmcndaaX.C_string2 (P := Try.prog) (A := A27) (c := (c0 - x11_3.toNat)) Try.underlying63 Try.underlying5 Try.underlying9 HR146.out
                                    first | (generalize hnq28 : List.length (List.drop _ _) = nq28 at hcut27 hcv28) | (generalize hnq28 : List.length (List.take _ _) = nq28 at hcut27 hcv28)
                                    have hcv29 := Go.Proofs.YtfbllodbcmcndaaX.C_string2 (P := Try.prog) (A := A1) (c := c1) Try.underlying63 Try.underlying5 Try.underlying9 HR1.out
                                    go_wp2
                                    have hw8_ := Go.Proofs.YtfbllodbcmcndaaX.wrap_u8; have hw64_ := Go.Proofs.YtfbllodbcmcndaaX.wrap_i64; repeat (go_quiet (fail); try go_wp2)
                                    go_ret
                                    exact ⟨by first | rfl | (simp; done) | (simp only [← hji19] <;> (first | rfl | simp)) | (simp [*]; done) | (simp [Go.Proofs.YtfbllodbcmcndaaX.isEmpty_ne]; done), by repeat (first | exact Drawn0.refl _ | apply Drawn0.step)⟩
                                  · rw [if_neg c26] at H
                                    have c26b0 : ((strOfNums ((l0.take ((ji19) : Int).toNat).drop (x11_3 : Int).toNat)).toList == (strOfNums l1).toList) = false := beq_eq_false_iff_ne.mpr c26
                                    have c26b1 : ((strOfNums ((l0.take ((ji19) : Int).toNat).drop (x11_3 : Int).toNat)).toList != (strOfNums l1).toList) = true := bne_iff_ne.mpr c26
                                    have H' := Aside0.mk H
                                    clear H
                                    have p144 : 0 ≤ (x11_3 : Int) := of_decide_eq_true (by first | (with_reducible assumption) | assumption)
                                    have q144 : x11_3 < (l0.length : Int) := of_decide_eq_true (by first | (with_reducible assumption) | assumption)
                                    obtain ⟨ad144, e144, hx144_0⟩ := Kd.at_int HR0.out x11_3 p144 q144
                                    cases e144
                                    replace p144 := eq_true p144
                                    replace q144 := eq_true q144
                                    have p145 : 0 ≤ ((ji19) : Int) := of_decide_eq_true (by first | (with_reducible assumption) | assumption)
                                    have q145 : (ji19) < (l0.length : Int) := of_decide_eq_true (by first | (with_reducible assumption) | assumption)
                                    obtain ⟨ad145, e145, hx145_0⟩ := Kd.at_int HR0.out (ji19) p145 q145
                                    obtain rfl : ad144 = ad145 := (by injection e145)
                                    replace p145 := eq_true p145
                                    replace q145 := eq_true q145
                                    obtain ⟨i030, hi030, _, hsz30, _⟩ := info_parts info5
                                    obtain ⟨A30, hcut30, hA30, hC30⟩ := print_mid_of (P := Try.prog) (Value.int .u8) 0 63 5 .i64 .i64 Try.underlying63 hi030 hsz30 (some ad144) c0 l0 x11_3 (ji19) (of_decide_eq_true (by first | (with_reducible assumption) | assumption)) (by first | omega | exact of_decide_eq_true (by first | (with_reducible assumption) | assumption)) (of_decide_eq_true (by first | (with_reducible assumption) | assumption)) HC0.out
                                    have HR146 := Aside0.mk (Kd.C_of_reads (h1 := fun _ => rfl) (hA30 _ (Kd.reads_of_C HR0.out)))
                                    have HC146 := Aside0.mk hC30
                                    clear hA30 hC30 hi030 hsz30
                                    have hcv31 := Go.Proofs.YtfbllodbcmcndaaX.C_string2 (P := Try.prog) (A := A30) (c := (c0 - x11_3.toNat)) Try.underlying63 Try.underlying5 Try.underlying9 HR146.out
                                    first | (generalize hnq31 : List.length (List.drop _ _) = nq31 at hcut30 hcv31) | (generalize hnq31 : List.length (List.take _ _) = nq31 at hcut30 hcv31)
                                    have hcv32 := Go.Proofs.YtfbllodbcmcndaaX.C_string2 (P := Try.prog) (A := A1) (c := c1) Try.underlying63 Try.underlying5 Try.underlying9 HR1.out
                                    go_wp2
                                    have hw8_ := Go.Proofs.YtfbllodbcmcndaaX.wrap_u8; have hw64_ := Go.Proofs.YtfbllodbcmcndaaX.wrap_i64; repeat (go_quiet (fail); try go_wp2)
                                    go_roundg k3
                                    case measure => have := HK1.out; have := HJ6.out; have := HK3.out; omega
                                    case rel => exact ⟨((((((x9_3 * 16777619) % 4294967296) + ((rd l0 x11_3) % 4294967296)) % 4294967296) - ((t141 * ((rd l0 (ji19)) % 4294967296)) % 4294967296)) % 4294967296), (wrap64 (x11_3 - 1)), (by first | rfl | (simp; done) | (simp only [← hji19] <;> (first | rfl | simp)) | (simp [*]; done) | (simp [Go.Proofs.YtfbllodbcmcndaaX.isEmpty_ne]; done)), (by first | rfl | (simp; done) | (simp [*]; done) | (simp [Go.Proofs.YtfbllodbcmcndaaX.isEmpty_ne]; done)), H', ⟨by have := HK1.out; have := HJ6.out; have := HK3.out; omega⟩, by repeat (first | exact Drawn0.refl _ | apply Drawn0.step)⟩
                                · rw [if_neg c25] at H
                                  exact absurd H (by simp)
                              · rw [if_neg c24] at H
                                exact absurd H (by simp)
                            · rw [if_neg c22] at H
                              have c22b0 : (((((((x9_3 * 16777619) % 4294967296) + ((rd l0 x11_3) % 4294967296)) % 4294967296) - ((t141 * ((rd l0 (ji19)) % 4294967296)) % 4294967296)) % 4294967296) == t140) = false := beq_eq_false_iff_ne.mpr c22
                              have c22b1 : (((((((x9_3 * 16777619) % 4294967296) + ((rd l0 x11_3) % 4294967296)) % 4294967296) - ((t141 * ((rd l0 (ji19)) % 4294967296)) % 4294967296)) % 4294967296) != t140) = true := bne_iff_ne.mpr c22
                              have c22s := c22
                              try simp at c22s
                              replace c22s := eq_false c22s
                              have H' := Aside0.mk H
                              clear H
                              have p144 : 0 ≤ (x11_3 : Int) := of_decide_eq_true (by first | (with_reducible assumption) | assumption)
                              have q144 : x11_3 < (l0.length : Int) := of_decide_eq_true (by first | (with_reducible assumption) | assumption)
                              obtain ⟨ad144, e144, hx144_0⟩ := Kd.at_int HR0.out x11_3 p144 q144
                              cases e144
                              replace p144 := eq_true p144
                              replace q144 := eq_true q144
                              have p145 : 0 ≤ ((ji19) : Int) := of_decide_eq_true (by first | (with_reducible assumption) | assumption)
                              have q145 : (ji19) < (l0.length : Int) := of_decide_eq_true (by first | (with_reducible assumption) | assumption)
                              obtain ⟨ad145, e145, hx145_0⟩ := Kd.at_int HR0.out (ji19) p145 q145
                              obtain rfl : ad144 = ad145 := (by injection e145)
                              replace p145 := eq_true p145
                              replace q145 := eq_true q145
                              go_wp2
                              have hw8_ := Go.Proofs.YtfbllodbcmcndaaX.wrap_u8; have hw64_ := Go.Proofs.YtfbllodbcmcndaaX.wrap_i64; repeat (go_quiet (fail); try go_wp2)
                              go_roundg k3
                              case measure => have := HK1.out; have := HJ6.out; have := HK3.out; omega
                              case rel => exact ⟨((((((x9_3 * 16777619) % 4294967296) + ((rd l0 x11_3) % 4294967296)) % 4294967296) - ((t141 * ((rd l0 (ji19)) % 4294967296)) % 4294967296)) % 4294967296), (wrap64 (x11_3 - 1)), (by first | rfl | (simp; done) | (simp only [← hji19] <;> (first | rfl | simp)) | (simp [*]; done) | (simp [Go.Proofs.YtfbllodbcmcndaaX.isEmpty_ne]; done)), (by first | rfl | (simp; done) | (simp [*]; done) | (simp [Go.Proofs.YtfbllodbcmcndaaX.isEmpty_ne]; done)), H', ⟨by have := HK1.out; have := HJ6.out; have := HK3.out; omega⟩, by repeat (first | exact Drawn0.refl _ | apply Drawn0.step)⟩
                          · rw [if_neg c21] at H
                            exact absurd H (by simp)
                        · rw [if_neg c20] at H
                          exact absurd H (by simp)
                      · rw [if_neg c18] at H
                        exact absurd H (by simp)
                    · rw [if_neg c17] at H
                      exact absurd H (by simp)
                  · rw [if_neg c16] at H
                    have c16b0 : decide (0 ≤ x11_3) = false := decide_eq_false c16
                    clear c16
                    obtain rfl := Option.some.inj H
                    go_wp2
                    have hw8_ := Go.Proofs.YtfbllodbcmcndaaX.wrap_u8; have hw64_ := Go.Proofs.YtfbllodbcmcndaaX.wrap_i64; repeat (go_quiet (fail); try go_wp2)
                    go_ret
                    exact ⟨by first | rfl | (simp; done) | (simp [*]; done) | (simp [Go.Proofs.YtfbllodbcmcndaaX.isEmpty_ne]; done), by repeat (first | exact Drawn0.refl _ | apply Drawn0.step)⟩
end Go.Proofs.Ytfbllodbcmcndaa.Q
end
section
namespace Go.Proofs.Ytfbllodbcmcndaa.Q
open Go.RowKit Go.Proofs.YtfbllodbcmcndaaW.PrintWords Go.Proofs.YtfbllodbcmcndaaW.PrintLast Go.Proofs.YtfbllodbcmcndaaW.PrintMore
attribute [local go_sem] max2_int min2_int max_two min_two max_three min_three max_four min_four
set_option linter.unusedVariables false
set_option linter.unusedSimpArgs false
def bytes_LastIndex.f (k : Nat) (l0 : List Int) (l1 : List Int) : Option (Int) := if (l1.length : Int) = 0 then (some (l0.length : Int)) else (if (l1.length : Int) = 1 then (if 0 < (l1.length : Int) then ((bytealg_LastIndexByte.f k l0 (rd l1 0)).bind fun t148 => (some t148)) else (none)) else (if (l1.length : Int) = (l0.length : Int) then ((bytes_Equal.f l0 l1).bind fun t149 => (if t149 = true then (some 0) else (some (-1)))) else (if (l1.length : Int) > (l0.length : Int) then (some (-1)) else ((bytealg_LastIndexRabinKarp_byte.f k l0 l1).bind fun t150 => (some t150)))))
set_option maxHeartbeats 8000000 in
set_option maxRecDepth 100000 in
theorem bytes_LastIndex.calls (k : Nat) (A0 : Option Addr) (c0 : Nat) (l0 : List Int) (A1 : Option Addr) (c1 : Nat) (l1 : List Int) (r : Int) (w : World) (hr0 : Kd.C (Kd.int .u8) w A0 l0.length l0) (hc0 : l0.length ≤ c0) (hr1 : Kd.C (Kd.int .u8) w A1 l1.length l1) (hc1 : l1.length ≤ c1) (h : bytes_LastIndex.f k l0 l1 = some r) :
    Calls Try.prog 97 #[.slice A0 l0.length c0, .slice A1 l1.length c1] w fun e w' => e = .returned (.int .i64 r) ∧ Drawn0 w w' := by
  have HR0 := Aside0.mk hr0
  have HC0 := Aside0.mk hc0
  clear hr0 hc0
  have HR1 := Aside0.mk hr1
  have HC1 := Aside0.mk hc1
  clear hr1 hc1
  have H : (if (l1.length : Int) = 0 then (some (l0.length : Int)) else (if (l1.length : Int) = 1 then (if 0 < (l1.length : Int) then ((bytealg_LastIndexByte.f k l0 (rd l1 0)).bind fun t148 => (some t148)) else (none)) else (if (l1.length : Int) = (l0.length : Int) then ((bytes_Equal.f l0 l1).bind fun t149 => (if t149 = true then (some 0) else (some (-1)))) else (if (l1.length : Int) > (l0.length : Int) then (some (-1)) else ((bytealg_LastIndexRabinKarp_byte.f k l0 l1).bind fun t150 => (some t150)))))) = some r := h
  clear h
  by_cases c3 : (l1.length : Int) = 0
  · rw [if_pos c3] at H
    have c3b0 : ((l1.length : Int) == 0) = true := beq_iff_eq.mpr c3
    have c3b1 : ((l1.length : Int) != 0) = false := bne_eq_false_iff_eq.mpr c3
    clear c3
    obtain rfl := Option.some.inj H
    go_enter Try.func97, Try.ntmps97
    go_wp2
    go_ret
    exact ⟨by first | rfl | (simp; done) | (simp [*]; done) | (simp [Go.Proofs.YtfbllodbcmcndaaX.isEmpty_ne]; done), by repeat (first | exact Drawn0.refl _ | apply Drawn0.step)⟩
  · rw [if_neg c3] at H
    have c3b0 : ((l1.length : Int) == 0) = false := beq_eq_false_iff_ne.mpr c3
    have c3b1 : ((l1.length : Int) != 0) = true := bne_iff_ne.mpr c3
    have c3b2 : ¬ (l1 = []) := fun h_ => c3 (by rw [h_]; rfl)
    by_cases c4 : (l1.length : Int) = 1
    · rw [if_pos c4] at H
      have c4b0 : ((l1.length : Int) == 1) = true := beq_iff_eq.mpr c4
      have c4b1 : ((l1.length : Int) != 1) = false := bne_eq_false_iff_eq.mpr c4
      clear c4
      by_cases c5 : 0 < (l1.length : Int)
      · rw [if_pos c5] at H
        have c5b0 : decide (0 < (l1.length : Int)) = true := decide_eq_true c5
        have c5b1 : decide (0 < l1.length) = true := decide_eq_true (by omega)
        clear c5
        replace H := Option.bind_eq_some_iff.mp H
        obtain ⟨t148, A60, H⟩ := H
        replace H : (some t148) = some r := H
        have A6 := Aside0.mk A60
        clear A60
        obtain rfl := Option.some.inj H
        have p147 : 0 ≤ (0 : Int) := (by omega)
        have q147 : 0 < (l1.length : Int) := of_decide_eq_true (by first | (with_reducible assumption) | assumption)
        obtain ⟨ad147, e147, hx147_0⟩ := Kd.at_int HR1.out 0 p147 q147
        cases e147
        have qi147 : (0 < l1.length) = True := eq_true (by omega)
        (try rw [show ((0 : Int)).toNat = 0 from rfl] at hx147_0)
        (try rw [Addr.add_zero'] at hx147_0)
        replace p147 := eq_true p147
        replace q147 := eq_true q147
        go_enter Try.func97, Try.ntmps97
        go_wp2_with (first | ((with_reducible refine gate_callee (f := 103) rfl ?_); refine goesL_ (some 20) rfl rfl Try.func103 (by kernel_rfl) rfl #[.slice A0 l0.length c0, .int .u8 (rd l1 0)] rfl (by (try simp only [List.map_toArray, List.map_cons, List.map_nil]); first | done | rfl | (simp only [List.length_drop, List.length_take]; rfl)) ?_; (with_reducible refine (bytealg_LastIndexByte.calls k _ _ l0 (rd l1 0) t148 _ ?side1 ?side2 A6.out).mono ?_); (case side1 => repeat (first | exact HR0.out | (with_reducible refine Kd.C_alloc ?_ _) | (with_reducible refine Kd.C_drewN ?_ _) | (with_reducible refine Kd.C_drew ?_))); (case side2 => exact HC0.out); rintro e w' ⟨rfl, ⟨nd, rfl⟩⟩; refine ⟨_, rfl, ?_⟩))
        go_ret
        exact ⟨by first | rfl | (simp; done) | (simp [*]; done) | (simp [Go.Proofs.YtfbllodbcmcndaaX.isEmpty_ne]; done), by repeat (first | exact Drawn0.refl _ | apply Drawn0.step)⟩
      · rw [if_neg c5] at H
        exact absurd H (by simp)
    · rw [if_neg c4] at H
      have c4b0 : ((l1.length : Int) == 1) = false := beq_eq_false_iff_ne.mpr c4
      have c4b1 : ((l1.length : Int) != 1) = true := bne_iff_ne.mpr c4
      by_cases c7 : (l1.length : Int) = (l0.length : Int)
      · rw [if_pos c7] at H
        have c7b0 : ((l1.length : Int) == (l0.length : Int)) = true := beq_iff_eq.mpr c7
        have c7b1 : ((l1.length : Int) != (l0.length : Int)) = false := bne_eq_false_iff_eq.mpr c7
        have c7b2 : (l1.length == l0.length) = true := by first | simpa using c7 | (simp at c7 ⊢; omega)
        clear c7
        replace H := Option.bind_eq_some_iff.mp H
        obtain ⟨t149, A80, H⟩ := H
        replace H : (if t149 = true then (some 0) else (some (-1))) = some r := H
        have A8 := Aside0.mk A80
        clear A80
        by_cases c9 : t149 = true
        · subst c9
          have H1 : (some 0) = some r := by rw [if_pos rfl] at H; exact H
          clear H
          have H := H1
          clear H1
          obtain rfl := Option.some.inj H
          go_enter Try.func97, Try.ntmps97
          go_wp2_with (first | ((with_reducible refine gate_callee (f := 104) rfl ?_); refine goesL_ (some 28) rfl rfl Try.func104 (by kernel_rfl) rfl #[.slice A0 l0.length c0, .slice A1 l1.length c1] rfl (by (try simp only [List.map_toArray, List.map_cons, List.map_nil]); first | done | rfl | (simp only [List.length_drop, List.length_take]; rfl)) ?_; (with_reducible refine (bytes_Equal.calls _ _ l0 _ _ l1 true _ ?side1 ?side2 ?side3 ?side4 A8.out).mono ?_); (case side1 => repeat (first | exact HR0.out | (with_reducible refine Kd.C_alloc ?_ _) | (with_reducible refine Kd.C_drewN ?_ _) | (with_reducible refine Kd.C_drew ?_))); (case side2 => exact HC0.out); (case side3 => repeat (first | exact HR1.out | (with_reducible refine Kd.C_alloc ?_ _) | (with_reducible refine Kd.C_drewN ?_ _) | (with_reducible refine Kd.C_drew ?_))); (case side4 => exact HC1.out); rintro e w' ⟨rfl, ⟨nd, rfl⟩⟩; refine ⟨_, rfl, ?_⟩))
          go_ret
          exact ⟨by first | rfl | (simp; done) | (simp [*]; done) | (simp [Go.Proofs.YtfbllodbcmcndaaX.isEmpty_ne]; done), by repeat (first | exact Drawn0.refl _ | apply Drawn0.step)⟩
        · replace c9 := Bool.eq_false_iff.mpr c9
          subst c9
          have H1 : (some (-1)) = some r := by rw [if_neg (show ¬ (false = true) by decide)] at H; exact H
          clear H
          have H := H1
          clear H1
          obtain rfl := Option.some.inj H
          go_enter Try.func97, Try.ntmps97
          go_wp2_with (first | ((with_reducible refine gate_callee (f := 104) rfl ?_); refine goesL_ (some 28) rfl rfl Try.func104 (by kernel_rfl) rfl #[.slice A0 l0.length c0, .slice A1 l1.length c1] rfl (by (try simp only [List.map_toArray, List.map_cons, List.map_nil]); first | done | rfl | (simp only [List.length_drop, List.length_take]; rfl)) ?_; (with_reducible refine (bytes_Equal.calls _ _ l0 _ _ l1 false _ ?side1 ?side2 ?side3 ?side4 A8.out).mono ?_); (case side1 => repeat (first | exact HR0.out | (with_reducible refine Kd.C_alloc ?_ _) | (with_reducible refine Kd.C_drewN ?_ _) | (with_reducible refine Kd.C_drew ?_))); (case side2 => exact HC0.out); (case side3 => repeat (first | exact HR1.out | (with_reducible refine Kd.C_alloc ?_ _) | (with_reducible refine Kd.C_drewN ?_ _) | (with_reducible refine Kd.C_drew ?_))); (case side4 => exact HC1.out); rintro e w' ⟨rfl, ⟨nd, rfl⟩⟩; refine ⟨_, rfl, ?_⟩))
          go_ret
          exact ⟨by first | rfl | (simp; done) | (simp [*]; done) | (simp [Go.Proofs.YtfbllodbcmcndaaX.isEmpty_ne]; done), by repeat (first | exact Drawn0.refl _ | apply Drawn0.step)⟩
      · rw [if_neg c7] at H
        have c7b0 : ((l1.length : Int) == (l0.length : Int)) = false := beq_eq_false_iff_ne.mpr c7
        have c7b1 : ((l1.length : Int) != (l0.length : Int)) = true := bne_iff_ne.mpr c7
        have c7b2 : (l1.length == l0.length) = false := by first | simpa using c7 | (simp at c7 ⊢; omega)
        by_cases c10 : (l1.length : Int) > (l0.length : Int)
        · rw [if_pos c10] at H
          have c10b0 : decide ((l0.length : Int) < (l1.length : Int)) = true := decide_eq_true c10
          have c10b1 : decide (l0.length < l1.length) = true := decide_eq_true (Int.ofNat_lt.mp c10)
          clear c10
          obtain rfl := Option.some.inj H
          go_enter Try.func97, Try.ntmps97
          go_wp2
          go_ret
          exact ⟨by first | rfl | (simp; done) | (simp [*]; done) | (simp [Go.Proofs.YtfbllodbcmcndaaX.isEmpty_ne]; done), by repeat (first | exact Drawn0.refl _ | apply Drawn0.step)⟩
        · rw [if_neg c10] at H
          have c10b0 : decide ((l0.length : Int) < (l1.length : Int)) = false := decide_eq_false c10
          have c10b1 : decide (l0.length < l1.length) = false := decide_eq_false (fun h => c10 (Int.ofNat_lt.mpr h))
          clear c10
          replace H := Option.bind_eq_some_iff.mp H
          obtain ⟨t150, A110, H⟩ := H
          replace H : (some t150) = some r := H
          have A11 := Aside0.mk A110
          clear A110
          obtain rfl := Option.some.inj H
          go_enter Try.func97, Try.ntmps97
          go_wp2_with (first | ((with_reducible refine gate_callee (f := 105) rfl ?_); refine goesL_ (some 36) rfl rfl Try.func105 (by kernel_rfl) rfl #[.slice A0 l0.length c0, .slice A1 l1.length c1] rfl (by (try simp only [List.map_toArray, List.map_cons, List.map_nil]); first | done | rfl | (simp only [List.length_drop, List.length_take]; rfl)) ?_; (with_reducible refine (bytealg_LastIndexRabinKarp_byte.calls k _ _ l0 _ _ l1 t150 _ ?side1 ?side2 ?side3 ?side4 A11.out).mono ?_); (case side1 => repeat (first | exact HR0.out | (with_reducible refine Kd.C_alloc ?_ _) | (with_reducible refine Kd.C_drewN ?_ _) | (with_reducible refine Kd.C_drew ?_))); (case side2 => exact HC0.out); (case side3 => repeat (first | exact HR1.out | (with_reducible refine Kd.C_alloc ?_ _) | (with_reducible refine Kd.C_drewN ?_ _) | (with_reducible refine Kd.C_drew ?_))); (case side4 => exact HC1.out); rintro e w' ⟨rfl, ⟨nd, rfl⟩⟩; refine ⟨_, rfl, ?_⟩))
          go_ret
          exact ⟨by first | rfl | (simp; done) | (simp [*]; done) | (simp [Go.Proofs.YtfbllodbcmcndaaX.isEmpty_ne]; done), by repeat (first | exact Drawn0.refl _ | apply Drawn0.step)⟩
end Go.Proofs.Ytfbllodbcmcndaa.Q
end
section
namespace Go.Proofs.Ytfbllodbcmcndaa.SpA
open Go.RowKit Go.Proofs.Ytfbllodbcmcndaa.Q Go.Proofs.YtfbllodbcmcndaaW.PrintWords Go.Proofs.YtfbllodbcmcndaaW.PrintLast Go.Proofs.YtfbllodbcmcndaaKit
def ix (sub : List UInt8) : List UInt8 → Nat → Int
  | [], n => if sub = [] then n else -1
  | c :: t, n => if sub.isPrefixOf (c :: t) = true then n else ix sub t (n + 1)
theorem ix_short (sub : List UInt8) : ∀ (l : List UInt8) (n : Nat), l.length < sub.length → ix sub l n = -1
  | [], n, h => by rw [ix, if_neg (by intro e; rw [e] at h; simp at h)]
  | c :: t, n, h => by
    rw [ix, if_neg, ix_short sub t (n + 1) (by simp at h; omega)]
    intro e
    have := (List.isPrefixOf_iff_prefix.1 e).length_le
    omega
theorem toI_take (l : List UInt8) (n : Nat) : (toI l).take n = toI (l.take n) := by simp [toI, List.map_take]
theorem toI_drop (l : List UInt8) (n : Nat) : (toI l).drop n = toI (l.drop n) := by simp [toI, List.map_drop]
theorem zz_l (l sub : List UInt8) (hs : sub ≠ []) (hl : l.length ≤ 4611686018427387904) (hm : sub.length ≤ 4611686018427387) : ∀ (suf pre : List UInt8), l = pre ++ suf →
    Ev (fun k => hertzproto_zzIndex.l0 k (toI l) (toI sub) pre.length) (ix sub suf pre.length) := by
  have hp : 0 < sub.length := List.length_pos_iff.2 hs
  intro suf
  induction suf with
  | nil =>
    intro pre h
    have hlp : pre.length = l.length := by rw [h]; simp
    rw [ix_short sub [] _ (by simpa using hp)]
    refine Ev.step (f := fun _ => some (-1)) (fun k => ?_) (Ev.now _)
    simp only [hertzproto_zzIndex.l0, toI_length]
    rw [wrap_id (by omega) (by omega), if_neg (by omega)]
  | cons c t ih =>
    intro pre h
    have hlp : l.length = pre.length + (t.length + 1) := by rw [h]; simp
    by_cases hc : pre.length + sub.length ≤ l.length
    · have hcut : strOfNums (((toI l).take (pre.length + sub.length)).drop pre.length) = strOfNums (toI ((c :: t).take sub.length)) := by
        rw [toI_take, toI_drop, h, List.take_append, List.drop_append]
        simp
        rw [List.drop_of_length_le (by simp)]
        simp
      by_cases hq : sub.isPrefixOf (c :: t) = true
      · have he : (c :: t).take sub.length = sub := (List.prefix_iff_eq_take.1 (List.isPrefixOf_iff_prefix.1 hq)).symm
        rw [ix, if_pos hq]
        refine Ev.step (f := fun _ => some (pre.length : Int)) (fun k => ?_) (Ev.now _)
        simp only [hertzproto_zzIndex.l0, toI_length]
        rw [wrap_id (by omega) (by omega), if_pos (by omega), if_pos (by omega), if_pos (by omega)]
        rw [show ((pre.length : Int) + (sub.length : Int)).toNat = pre.length + sub.length by omega, show (pre.length : Int).toNat = pre.length by omega, hcut, he, if_pos rfl]
      · have he : ¬ (c :: t).take sub.length = sub := fun e => hq (List.isPrefixOf_iff_prefix.2 (List.prefix_iff_eq_take.2 e.symm))
        rw [ix, if_neg hq]
        have ih' := ih (pre ++ [c]) (by rw [h]; simp)
        rw [show (pre ++ [c]).length = pre.length + 1 by simp] at ih'
        refine Ev.step (fun k => ?_) ih'
        simp only [hertzproto_zzIndex.l0, toI_length]
        rw [wrap_id (by omega) (by omega), if_pos (by omega), if_pos (by omega), if_pos (by omega)]
        rw [show ((pre.length : Int) + (sub.length : Int)).toNat = pre.length + sub.length by omega, show (pre.length : Int).toNat = pre.length by omega, hcut]
        rw [if_neg, wrap_id (by omega) (by omega)]
        · rfl
        · rw [tl, tl, L_strOf, L_strOf]
          exact he
    · rw [ix_short sub (c :: t) _ (by simp; omega)]
      refine Ev.step (f := fun _ => some (-1)) (fun k => ?_) (Ev.now _)
      simp only [hertzproto_zzIndex.l0, toI_length]
      rw [wrap_id (by omega) (by omega), if_neg (by omega)]
theorem zzIndex (l sub : List UInt8) (hs : sub ≠ []) (hl : l.length ≤ 4611686018427387904) (hm : sub.length ≤ 4611686018427387) : Ev (fun k => hertzproto_zzIndex.f k (toI l) (toI sub)) (ix sub l 0) := zz_l l sub hs hl hm l [] rfl
def lastB (l : List UInt8) (c : UInt8) : Nat → Int
  | 0 => -1
  | n + 1 => if l.getD n 0 = c then n else lastB l c n
end Go.Proofs.Ytfbllodbcmcndaa.SpA
end
section
namespace Go.Proofs.Ytfbllodbcmcndaa.Cl
def splitS : List UInt8 → List (List UInt8)
  | [] => [[]]
  | c :: t => if c = 47 then [] :: splitS t else match splitS t with
    | [] => [[c]]
    | h :: r => (c :: h) :: r
theorem splitS_ne : ∀ l, splitS l ≠ []
  | [] => by simp [splitS]
  | c :: t => by
    unfold splitS
    split
    · simp
    · split <;> simp
theorem splitS_app (b : List UInt8) : ∀ a, splitS (a ++ 47 :: b) = splitS a ++ splitS b
  | [] => by simp [splitS]
  | c :: t => by
    have ih := splitS_app b t
    by_cases hc : c = 47
    · simp [splitS, hc, ih]
    · simp only [List.cons_append, splitS, if_neg hc, ih]
      cases h : splitS t with
      | nil => exact absurd h (splitS_ne t)
      | cons x y => simp
theorem splitS_word : ∀ a : List UInt8, (47 : UInt8) ∉ a → splitS a = [a]
  | [], _ => rfl
  | c :: t, h => by
    have hc : ¬ c = 47 := fun e => h (by simp [e])
    have ih := splitS_word t (fun e => h (by simp [e]))
    simp [splitS, hc, ih]
theorem splitS_free : ∀ (l q : List UInt8), q ∈ splitS l → (47 : UInt8) ∉ q
  | [], q, h => by simp [splitS] at h; simp [h]
  | c :: t, q, h => by
    have ih := splitS_free t
    by_cases hc : c = 47
    · simp only [splitS, if_pos hc, List.mem_cons] at h
      rcases h with h | h
      · simp [h]
      · exact ih q h
    · cases hs : splitS t with
      | nil => exact absurd hs (splitS_ne t)
      | cons x y =>
        simp only [splitS, if_neg hc, hs, List.mem_cons] at h
        rcases h with h | h
        · have := ih x (by rw [hs]; simp)
          rw [h]
          simp only [List.mem_cons, not_or]
          exact ⟨fun e => hc e.symm, this⟩
        · exact ih q (by rw [hs]; simp [h])
def joinS (S : List (List UInt8)) : List UInt8 := S.flatMap (47 :: ·)
theorem joinS_cons (q : List UInt8) (S : List (List UInt8)) : joinS (q :: S) = 47 :: q ++ joinS S := by simp [joinS]
theorem joinS_nil : joinS [] = [] := rfl
theorem joinS_app (S T : List (List UInt8)) : joinS (S ++ T) = joinS S ++ joinS T := by simp [joinS]
theorem join_split : ∀ l, joinS (splitS l) = 47 :: l
  | [] => by simp [splitS, joinS]
  | c :: t => by
    have ih := join_split t
    by_cases hc : c = 47
    · simp [splitS, hc, joinS_cons, ih]
    · cases hs : splitS t with
      | nil => exact absurd hs (splitS_ne t)
      | cons x y =>
        rw [hs, joinS_cons] at ih
        simp only [splitS, if_neg hc, hs, joinS_cons]
        simp at ih ⊢
        exact ih
theorem split_join : ∀ S : List (List UInt8), (∀ q ∈ S, (47 : UInt8) ∉ q) → splitS (joinS S) = [] :: S
  | [], _ => rfl
  | q :: S, h => by
    have ih := split_join S (fun x hx => h x (by simp [hx]))
    rw [joinS_cons]
    cases S with
    | nil => simp [splitS, joinS_nil, splitS_word q (h q (by simp))]
    | cons r R =>
      rw [joinS_cons] at ih ⊢
      have e : (47 : UInt8) :: q ++ (47 :: r ++ joinS R) = (47 :: q) ++ 47 :: (r ++ joinS R) := by simp
      rw [e, splitS_app]
      have e2 : splitS (47 :: (r ++ joinS R)) = [] :: splitS (r ++ joinS R) := by simp [splitS]
      rw [show (47 : UInt8) :: r ++ joinS R = 47 :: (r ++ joinS R) by simp, e2] at ih
      have e3 := List.cons.inj ih
      rw [e3.2]
      simp [splitS, splitS_word q (h q (by simp))]
def stepK (k : List (List UInt8)) (p : List UInt8) : List (List UInt8) := if p = [] ∨ p = [46] then k else if p = [46, 46] then k.dropLast else k ++ [p]
def good (q : List UInt8) : Prop := q ≠ [] ∧ q ≠ [46] ∧ q ≠ [46, 46]
theorem stepK_good (k : List (List UInt8)) (q : List UInt8) (h : good q) : stepK k q = k ++ [q] := by
  unfold stepK
  rw [if_neg (fun e => e.elim h.1 h.2.1), if_neg h.2.2]
theorem fold_good : ∀ (S k : List (List UInt8)), (∀ q ∈ S, good q) → S.foldl stepK k = k ++ S
  | [], k, _ => by simp
  | q :: S, k, h => by
    rw [List.foldl_cons, stepK_good k q (h q (by simp)), fold_good S _ (fun x hx => h x (by simp [hx]))]
    simp
def keepK (l : List UInt8) : List (List UInt8) := (splitS l).foldl stepK []
def finK (k : List (List UInt8)) (last : List UInt8) : List UInt8 := if last = [46, 46] then joinS (k.dropLast ++ [[]]) else joinS (k ++ [last])
def cleanK (l : List UInt8) : List UInt8 := finK ((splitS l).dropLast.foldl stepK []) ((splitS l).getLastD [])
theorem keep_app (a b : List UInt8) : keepK (a ++ 47 :: b) = (splitS b).foldl stepK (keepK a) := by rw [keepK, splitS_app, List.foldl_append]; rfl
theorem getLastD_app {α} (d : α) : ∀ (a b : List α), b ≠ [] → (a ++ b).getLastD d = b.getLastD d := by
  intro a b h
  rw [List.getLastD_eq_getLast?, List.getLastD_eq_getLast?, List.getLast?_append]
  cases hb : b.getLast? with
  | none => exact absurd (List.getLast?_eq_none_iff.1 hb) h
  | some x => simp
theorem clean_app (a b : List UInt8) : cleanK (a ++ 47 :: b) = finK ((splitS b).dropLast.foldl stepK (keepK a)) ((splitS b).getLastD []) := by
  rw [cleanK, splitS_app, List.dropLast_append_of_ne_nil (splitS_ne b), List.foldl_append, getLastD_app _ _ _ (splitS_ne b)]
  rfl
theorem clean_dup (a b : List UInt8) : cleanK (a ++ 47 :: 47 :: b) = cleanK (a ++ 47 :: b) := by
  have e : a ++ 47 :: 47 :: b = (a ++ 47 :: []) ++ 47 :: b := by simp
  rw [e, clean_app, clean_app, keep_app]
  simp [splitS, stepK]
theorem clean_dot (a b : List UInt8) : cleanK (a ++ 47 :: 46 :: 47 :: b) = cleanK (a ++ 47 :: b) := by
  have e : a ++ 47 :: 46 :: 47 :: b = (a ++ 47 :: [46]) ++ 47 :: b := by simp
  rw [e, clean_app, clean_app, keep_app]
  simp [splitS, stepK]
theorem clean_up (p x b : List UInt8) (hx : (47 : UInt8) ∉ x) (hg : good x) : cleanK (p ++ 47 :: x ++ 47 :: 46 :: 46 :: 47 :: b) = cleanK (p ++ 47 :: b) := by
  have e : p ++ 47 :: x ++ 47 :: 46 :: 46 :: 47 :: b = ((p ++ 47 :: x) ++ 47 :: [46, 46]) ++ 47 :: b := by simp
  rw [e, clean_app, clean_app, keep_app, keep_app, splitS_word x hx]
  have : splitS [46, 46] = [[46, 46]] := by decide
  rw [this, List.foldl_cons, List.foldl_nil, List.foldl_cons, List.foldl_nil, stepK_good _ _ hg]
  simp [stepK]
theorem clean_up0 (b : List UInt8) : cleanK (47 :: 46 :: 46 :: 47 :: b) = cleanK (47 :: b) := by
  have e : (47 : UInt8) :: 46 :: 46 :: 47 :: b = ([] ++ 47 :: [46, 46]) ++ 47 :: b := by simp
  rw [e, clean_app, keep_app, show (47 : UInt8) :: b = [] ++ 47 :: b by simp, clean_app]
  have : splitS [46, 46] = [[46, 46]] := by decide
  rw [this]
  simp [keepK, splitS, stepK]
structure Free (l : List UInt8) : Prop where
  dup : ∀ a b, l ≠ a ++ 47 :: 47 :: b
  dot : ∀ a b, l ≠ a ++ 47 :: 46 :: 47 :: b
  up : ∀ a b, l ≠ a ++ 47 :: 46 :: 46 :: 47 :: b
theorem Free.part (l a q b : List UInt8) (h : Free l) (e : l = a ++ 47 :: q ++ 47 :: b) : good q := by
  refine ⟨fun hq => h.dup a b ?_, fun hq => h.dot a b ?_, fun hq => h.up a b ?_⟩ <;> (rw [e, hq]; simp)
theorem joined_good (S : List (List UInt8)) (b : List UInt8) (h : Free (joinS S ++ 47 :: b)) : ∀ q ∈ S, good q := by
  intro q hq
  obtain ⟨S1, S2, rfl⟩ := List.append_of_mem hq
  rw [joinS_app, joinS_cons] at h
  cases S2 with
  | nil => exact h.part _ (joinS S1) q b (by simp [joinS_nil])
  | cons r R => exact h.part _ (joinS S1) q (r ++ joinS R ++ 47 :: b) (by simp [joinS_cons])
theorem keep_joined (S : List (List UInt8)) (hS : ∀ q ∈ S, (47 : UInt8) ∉ q) (hg : ∀ q ∈ S, good q) : keepK (joinS S) = S := by
  rw [keepK, split_join S hS, List.foldl_cons, fold_good S _ hg]
  simp [stepK]
theorem clean_joined (S : List (List UInt8)) (last : List UInt8) (hS : ∀ q ∈ S, (47 : UInt8) ∉ q) (hg : ∀ q ∈ S, good q) (hl : (47 : UInt8) ∉ last) : cleanK (joinS (S ++ [last])) = finK S last := by
  rw [joinS_app, joinS_cons, joinS_nil]
  rw [show joinS S ++ (47 :: last ++ []) = joinS S ++ 47 :: last by simp, clean_app, splitS_word _ hl, keep_joined S hS hg]
  rfl
theorem clean_stays (l : List UInt8) (h : Free (47 :: l)) (he : ∀ a, 47 :: l ≠ a ++ [47, 46, 46]) : cleanK (47 :: l) = 47 :: l := by
  have hj := join_split l
  have hne := splitS_ne l
  obtain ⟨S, last, hs⟩ : ∃ S last, splitS l = S ++ [last] := ⟨_, _, (List.dropLast_concat_getLast hne).symm⟩
  have hf : ∀ q ∈ S ++ [last], (47 : UInt8) ∉ q := fun q hq => splitS_free l q (hs ▸ hq)
  rw [hs] at hj
  rw [← hj] at h he ⊢
  have hg : ∀ q ∈ S, good q := by
    refine joined_good S last ?_
    rw [joinS_app, joinS_cons, joinS_nil] at h
    simpa using h
  rw [clean_joined S last (fun q hq => hf q (by simp [hq])) hg (hf last (by simp)), finK, if_neg]
  intro e
  exact he (joinS S) (by rw [joinS_app, e, joinS_cons, joinS_nil]; simp)
theorem clean_end (p x : List UInt8) (h : Free (p ++ 47 :: x ++ [47, 46, 46])) (hx : (47 : UInt8) ∉ x) (hp : p = [] ∨ ∃ q, p = 47 :: q) : cleanK (p ++ 47 :: x ++ [47, 46, 46]) = p ++ [47] := by
  have hgx : good x := h.part _ p x [46, 46] rfl
  have hk : joinS (keepK p) = p := by
    rcases hp with rfl | ⟨q, rfl⟩
    · rfl
    · have hj := join_split q
      have hg : ∀ y ∈ splitS q, good y := joined_good (splitS q) (x ++ [47, 46, 46]) (by rw [hj]; simpa using h)
      rw [← hj, keep_joined _ (splitS_free q) hg]
  rw [show p ++ 47 :: x ++ [47, 46, 46] = (p ++ 47 :: x) ++ 47 :: [46, 46] by simp, clean_app, keep_app, splitS_word x hx]
  have : splitS [46, 46] = [[46, 46]] := by decide
  rw [this, List.foldl_cons, List.foldl_nil, stepK_good _ _ hgx]
  simp [finK, joinS_app, joinS_cons, joinS_nil, hk]
theorem clean_end0 : cleanK [47, 46, 46] = [47] := by decide
theorem shift_free2 (p m b : List UInt8) (h : ∀ a c, p ++ 47 :: m ++ 47 :: b ≠ a ++ 47 :: 47 :: c) : ∀ a c, p ++ 47 :: b ≠ a ++ 47 :: 47 :: c := by
  intro a c e
  rcases List.append_eq_append_iff.1 e with ⟨t, h1, h2⟩ | ⟨t, h1, h2⟩
  · cases t with
    | nil =>
      simp at h1 h2
      exact h (p ++ 47 :: m) c (by rw [h2])
    | cons x t =>
      simp at h2
      exact h (p ++ 47 :: m ++ 47 :: t) c (by rw [h2.2]; simp)
  · cases t with
    | nil =>
      simp at h1 h2
      exact h (p ++ 47 :: m) c (by rw [h2])
    | cons x t =>
      simp at h2
      cases t with
      | nil =>
        simp at h2
        refine h a (m ++ 47 :: b) ?_
        rw [h1, ← h2.1]; simp
      | cons y t =>
        simp at h2
        exact h a (t ++ 47 :: (m ++ 47 :: b)) (by rw [h1, ← h2.1, ← h2.2.1]; simp)
theorem shift_free3 (p m b : List UInt8) (h : ∀ a c, p ++ 47 :: m ++ 47 :: b ≠ a ++ 47 :: 46 :: 47 :: c) : ∀ a c, p ++ 47 :: b ≠ a ++ 47 :: 46 :: 47 :: c := by
  intro a c e
  rcases List.append_eq_append_iff.1 e with ⟨t, h1, h2⟩ | ⟨t, h1, h2⟩
  · cases t with
    | nil =>
      simp at h1 h2
      exact h (p ++ 47 :: m) c (by rw [h2])
    | cons x t =>
      simp at h2
      exact h (p ++ 47 :: m ++ 47 :: t) c (by rw [h2.2]; simp)
  · cases t with
    | nil =>
      simp at h1 h2
      exact h (p ++ 47 :: m) c (by rw [h2])
    | cons x t =>
      simp at h2
      cases t with
      | nil => simp at h2
      | cons y t =>
        simp at h2
        cases t with
        | nil =>
          simp at h2
          exact h a (m ++ 47 :: b) (by rw [h1, ← h2.1, ← h2.2.1]; simp)
        | cons z t =>
          simp at h2
          exact h a (t ++ 47 :: (m ++ 47 :: b)) (by rw [h1, ← h2.1, ← h2.2.1, ← h2.2.2.1]; simp)
end Go.Proofs.Ytfbllodbcmcndaa.Cl
end
section
namespace Go.Proofs.Ytfbllodbcmcndaa.Q
open Go.RowKit Go.Proofs.YtfbllodbcmcndaaW.PrintWords Go.Proofs.YtfbllodbcmcndaaW.PrintLast Go.Proofs.YtfbllodbcmcndaaW.PrintMore
open Go.Proofs.Ytfbllodbcmcndaa.SpA (toI toI_length toI_append)
theorem addr_add (g k j : Nat) : (⟨g, k, none⟩ : Addr).add j = ⟨g, k + j, none⟩ := by unfold Addr.add; by_cases hj : j = 0 <;> simp [hj]
theorem BR.pre {w : World} {g : Nat} {e : TypeId} {p q : List UInt8} (h : BR w g e (p ++ q)) : BR w g e p := by
  obtain ⟨C, lo, hi, hg, hs, hf, hc⟩ := h.out
  simp only [List.length_append] at hs hf
  refine ⟨C, lo, hi, hg, by omega, by omega, fun j hj => ?_⟩
  have := hc j (by simp; omega)
  rw [List.getElem_append_left hj] at this
  exact this
theorem BR.C {w : World} {g : Nat} {e : TypeId} {p q : List UInt8} (h : BR w g e (p ++ q)) (hl : (p ++ q).length ≤ 4611686018427387904) : Kd.C (Kd.int .u8) w (some ⟨g, p.length, none⟩) (toI q).length (toI q) := by
  simp only [List.length_append] at hl
  refine Kd.C_of_reads (enc := Value.int .u8) (d := (0 : Int)) (h1 := fun _ => rfl) ⟨rfl, by rw [toI_length]; omega, fun _ => ⟨_, rfl, fun j hj => ?_⟩⟩
  rw [toI_length] at hj
  have := h.cell (p.length + j) (by simp; omega)
  rw [addr_add, this, List.getElem_append_right (by omega)]
  simp [toI, hj]
theorem BR.of_R {w : World} {base : Nat} {ok : Nat → Prop} {v : Value} {e : TypeId} {l : List UInt8} (h : Kd.R (Kd.int .u8) e w base ok v (toI l)) (hl : l ≠ []) :
    ∃ g c, v = .slice (some ⟨g, 0, none⟩) l.length c ∧ base ≤ g ∧ l.length ≤ c ∧ c ≤ maxLen ∧ BR w g e l := by
  have ho := Kd.own_of_R h
  obtain ⟨_, ho2⟩ := ho
  have hp := List.length_pos_iff.2 hl
  rw [toI_length] at ho2
  rcases ho2 with ⟨_, h0⟩ | ⟨g, cap, cur, hv, hb, hg, hn, hm, hs, ht⟩
  · omega
  · refine ⟨g, cap, hv, hb, hn, hm, cur, 0, 0, hg, by omega, .inr rfl, fun j hj => ?_⟩
    have h1 : (cur.toList.take (l.length * 1))[j]? = (encs (Value.int .u8) (toI l))[j]? := by rw [ht]
    rw [List.getElem?_take, if_pos (by omega), Array.getElem?_toList] at h1
    rw [h1]
    simp [encs, toI, hj]
theorem BR.below2 {w W w' : World} {g : Nat} {e : TypeId} {l : List UInt8} (h : BR w g e l) (hb : Below W.heap.size W w') (he : W.heap = w.heap) : BR w' g e l := (BR.heap h (by rw [he])).below hb
theorem BR.shift {w : World} {g : Nat} {e : TypeId} (p q r : List UInt8) (h : BR w g e (p ++ q ++ r)) : BR (w.setCells g p.length (r.map fun x => Value.int .u8 (x.toNat : Int))) g e (p ++ r) := by
  have h2 : BR w g e (p ++ (q ++ r).take r.length) := by
    refine BR.pre (q := (q ++ r).drop r.length) ?_
    rw [List.append_assoc, List.take_append_drop, ← List.append_assoc]
    exact h
  exact BR.copied r _ p w h2 (by simp)
section
variable {P : Program} {ops : Array Oper} {rest : List Oper} {o : Oper} {a : Act} {Q : Exit → Act → World → Prop} {W : World}
theorem shift_run (P : Program) (W : World) (dT sT ty e : TypeId) (hu : P.underlying dT = some (.slice e)) (hz : (P.info? e).map (·.size) = some 1)
    (g cd cs : Nat) (p q r : List UInt8) (hb : BR W g e (p ++ q ++ r)) :
    (Builtin.copy_ #[dT, sT] ty #[.slice (some ⟨g, p.length, none⟩) (q.length + r.length) cd, .slice (some ⟨g, p.length + q.length, none⟩) r.length cs]).run P W = .ok (goInt r.length) (W.setCells g p.length (r.map fun x => Value.int .u8 (x.toNat : Int))) := by
  have h := run_copy_cells (P := P) W dT sT ty e g p.length (q.length + r.length) cd ⟨g, p.length + q.length, none⟩ r.length cs (r.map fun x => Value.int .u8 (x.toNat : Int)) hu hz (by rw [List.length_map]; exact (Nat.min_eq_left (by omega)).symm) (fun j v hj => by
      have hjl : j < r.length := by have := (List.getElem?_eq_some_iff.1 hj).1; simpa using this
      have h1 := hb.cell (p.length + q.length + j) (by simp; omega)
      rw [addr_add, h1, List.getElem_append_right (by simp)]
      rw [List.getElem?_map, List.getElem?_eq_getElem hjl] at hj
      simp at hj ⊢
      exact hj) (fun j hj => by
      rw [List.length_map] at hj
      rw [hb.cell (p.length + j) (by simp; omega)]; rfl) (fun j hj => by
      rw [List.length_map] at hj
      exact hb.frozen (p.length + j) (by simp; omega)) (fun v hv => by
      obtain ⟨x, _, rfl⟩ := List.mem_map.1 hv
      rfl)
  rw [List.length_map] at h
  exact h
theorem shift_BR (hgd : o.guard = none) (d x : Operand) (dT sT e : TypeId) (hop : o.op = Op.call { callee := Callee.builtin Builtin.copy, args := #[d, x], argTypes := #[dT, sT] }) (hu : P.underlying dT = some (.slice e)) (hz : (P.info? e).map (·.size) = some 1)
    (g cd cs : Nat) (p q r : List UInt8) (nd ns os : Nat) (hnd : nd = q.length + r.length) (hns : ns = r.length) (hos : os = p.length + q.length) (hd : a.eval d = .slice (some ⟨g, p.length, none⟩) nd cd) (hx : a.eval x = .slice (some ⟨g, os, none⟩) ns cs) (hb : BR W g e (p ++ q ++ r)) (B : Nat) (hB : B ≤ g)
    (h : ∀ w1, BR w1 g e (p ++ r) → Below B W w1 → wpList P ops Q rest (a.put o.dst (goInt r.length)) w1) : wpList P ops Q (o :: rest) a W := by
  subst hnd hns hos
  have hrun := shift_run P W dT sT o.type e hu hz g cd cs p q r hb
  refine wpList_plain hgd fun K hK => ?_
  unfold Oper.wp
  simp [execOp, hop, resolve, invoke, builtin, hd, hx, hrun, Result.andThen]
  exact hK _ _ (h _ (BR.shift p q r hb) (below_setCells hB _ _ _ (Below.refl _ _)))
end
theorem BR.const {w : World} {e : TypeId} (C : Array Value) (l : List UInt8) (hC : C.toList = l.map fun x => Value.int .u8 (x.toNat : Int)) : BR (w.alloc (.cells C e (C.size, C.size + 1))) w.heap.size e l := by
  have hs : C.size = l.length := by rw [← Array.length_toList, hC, List.length_map]
  refine ⟨C, _, _, heap_alloc_new w _, by omega, .inl (by omega), fun j hj => ?_⟩
  rw [← Array.getElem?_toList, hC]
  simp [hj]
end Go.Proofs.Ytfbllodbcmcndaa.Q
end
section
namespace Go.Proofs.Ytfbllodbcmcndaa.Q
open Go.RowKit Go.Proofs.YtfbllodbcmcndaaW.PrintWords Go.Proofs.YtfbllodbcmcndaaW.PrintLast Go.Proofs.YtfbllodbcmcndaaW.PrintMore
set_option maxHeartbeats 8000000 in
set_option maxRecDepth 100000 in
theorem strSS_calls (w : World) : Calls Try.prog 93 #[] w fun e w' => ∃ g c, e = .returned (.slice (some ⟨g, 0, none⟩) 2 c) ∧ 2 ≤ c ∧ BR w' g 5 [47, 47] ∧ Below w.heap.size w w' := by
  go_enter Try.func93, Try.ntmps93
  have hcv := Lib.run_convert_bytes_const (P := Try.prog) w 63 5 #[.int .u8 47, .int .u8 47] 2 2 Try.underlying63 Try.underlying5
  go_wp2
  go_ret
  exact ⟨_, _, rfl, by omega, BR.const _ [47, 47] rfl, below_alloc (Below.refl _ _) _⟩
set_option maxHeartbeats 8000000 in
set_option maxRecDepth 100000 in
theorem strSDS_calls (w : World) : Calls Try.prog 94 #[] w fun e w' => ∃ g c, e = .returned (.slice (some ⟨g, 0, none⟩) 3 c) ∧ 3 ≤ c ∧ BR w' g 5 [47, 46, 47] ∧ Below w.heap.size w w' := by
  go_enter Try.func94, Try.ntmps94
  have hcv := Lib.run_convert_bytes_const (P := Try.prog) w 63 5 #[.int .u8 47, .int .u8 46, .int .u8 47] 3 3 Try.underlying63 Try.underlying5
  go_wp2
  go_ret
  exact ⟨_, _, rfl, by omega, BR.const _ [47, 46, 47] rfl, below_alloc (Below.refl _ _) _⟩
set_option maxHeartbeats 8000000 in
set_option maxRecDepth 100000 in
theorem strSDDS_calls (w : World) : Calls Try.prog 95 #[] w fun e w' => ∃ g c, e = .returned (.slice (some ⟨g, 0, none⟩) 4 c) ∧ 4 ≤ c ∧ BR w' g 5 [47, 46, 46, 47] ∧ Below w.heap.size w w' := by
  go_enter Try.func95, Try.ntmps95
  have hcv := Lib.run_convert_bytes_const (P := Try.prog) w 63 5 #[.int .u8 47, .int .u8 46, .int .u8 46, .int .u8 47] 4 4 Try.underlying63 Try.underlying5
  go_wp2
  go_ret
  exact ⟨_, _, rfl, by omega, BR.const _ [47, 46, 46, 47] rfl, below_alloc (Below.refl _ _) _⟩
set_option maxHeartbeats 8000000 in
set_option maxRecDepth 100000 in
theorem strSDD_calls (w : World) : Calls Try.prog 98 #[] w fun e w' => ∃ g c, e = .returned (.slice (some ⟨g, 0, none⟩) 3 c) ∧ 3 ≤ c ∧ BR w' g 5 [47, 46, 46] ∧ Below w.heap.size w w' := by
  go_enter Try.func98, Try.ntmps98
  have hcv := Lib.run_convert_bytes_const (P := Try.prog) w 63 5 #[.int .u8 47, .int .u8 46, .int .u8 46] 3 3 Try.underlying63 Try.underlying5
  go_wp2
  go_ret
  exact ⟨_, _, rfl, by omega, BR.const _ [47, 46, 46] rfl, below_alloc (Below.refl _ _) _⟩
end Go.Proofs.Ytfbllodbcmcndaa.Q
end
section
namespace Go.Proofs.Ytfbllodbcmcndaa.SpA
open Go.RowKit Go.Proofs.Ytfbllodbcmcndaa.Q Go.Proofs.YtfbllodbcmcndaaW.PrintWords Go.Proofs.YtfbllodbcmcndaaW.PrintLast Go.Proofs.YtfbllodbcmcndaaKit
theorem ix_cases_from (sub : List UInt8) (hs : sub ≠ []) : ∀ (l : List UInt8) (n : Nat), (ix sub l n = -1 ∧ ∀ a b, l ≠ a ++ sub ++ b) ∨
    (∃ a b, l = a ++ sub ++ b ∧ ix sub l n = ((n + a.length : Nat) : Int) ∧ ∀ a' b', l = a' ++ sub ++ b' → a.length ≤ a'.length)
  | [], n => .inl ⟨by rw [ix, if_neg hs], fun a b e => by simp at e; exact hs e.2.1⟩
  | c :: t, n => by
    by_cases hp : sub.isPrefixOf (c :: t) = true
    · obtain ⟨b, hb⟩ := List.isPrefixOf_iff_prefix.1 hp
      exact .inr ⟨[], b, by simpa using hb.symm, by rw [ix, if_pos hp]; simp, fun _ _ _ => Nat.zero_le _⟩
    · have hno : ∀ b, c :: t ≠ sub ++ b := fun b e => hp (List.isPrefixOf_iff_prefix.2 ⟨b, e.symm⟩)
      rw [ix, if_neg hp]
      rcases ix_cases_from sub hs t (n + 1) with ⟨e, h⟩ | ⟨a, b, e, h1, h2⟩
      · refine .inl ⟨e, fun a b e2 => ?_⟩
        cases a with
        | nil => exact hno b (by simpa using e2)
        | cons x a => exact h a b (by simpa using (List.cons.inj e2).2)
      · refine .inr ⟨c :: a, b, by rw [e]; simp, by rw [h1]; simp; omega, fun a' b' e2 => ?_⟩
        cases a' with
        | nil => exact absurd (by simpa using e2) (hno b')
        | cons x a' => have := h2 a' b' (by simpa using (List.cons.inj e2).2); simp; exact this
theorem ix_cases (sub : List UInt8) (hs : sub ≠ []) (l : List UInt8) : (ix sub l 0 = -1 ∧ ∀ a b, l ≠ a ++ sub ++ b) ∨
    (∃ a b, l = a ++ sub ++ b ∧ ix sub l 0 = (a.length : Int) ∧ ∀ a' b', l = a' ++ sub ++ b' → a.length ≤ a'.length) := by
  have := ix_cases_from sub hs l 0
  simpa using this
theorem lastB_l (l : List UInt8) (c : UInt8) (hl : l.length ≤ 4611686018427387904) : ∀ (n : Nat) (a b : List UInt8), a.length = n → l = a ++ b → c ∉ b →
    (∃ p y, l = p ++ c :: y ∧ c ∉ y ∧ Ev (fun k => bytealg_LastIndexByte.l0 k (toI l) (c.toNat : Int) ((n : Int) - 1)) (p.length : Int)) ∨ (c ∉ l ∧ Ev (fun k => bytealg_LastIndexByte.l0 k (toI l) (c.toNat : Int) ((n : Int) - 1)) (-1)) := by
  intro n
  induction n with
  | zero =>
    intro a b ha e hb
    have : a = [] := List.length_eq_zero_iff.1 ha
    subst this
    refine .inr ⟨by rw [e]; exact hb, Ev.step (f := fun _ => some (-1)) (fun k => ?_) (Ev.now _)⟩
    simp only [bytealg_LastIndexByte.l0]
    rw [if_neg (by omega)]
  | succ n ih =>
    intro a b ha e hb
    obtain ⟨a', d, rfl⟩ : ∃ a' d, a = a' ++ [d] := ⟨_, _, (List.dropLast_concat_getLast (by intro h; rw [h] at ha; simp at ha)).symm⟩
    have han : a'.length = n := by simpa using ha
    have e2 : l = a' ++ d :: b := by rw [e]; simp
    have hlen : l.length = n + (b.length + 1) := by rw [e2]; simp [han]
    have hrd : rd (toI l) (((n + 1 : Nat) : Int) - 1) = (d.toNat : Int) := by
      rw [show (((n + 1 : Nat) : Int) - 1) = (a'.length : Int) by omega]
      exact rd_mid e2
    by_cases hd : d = c
    · subst hd
      refine .inl ⟨a', b, e2, hb, Ev.step (f := fun _ => some (a'.length : Int)) (fun k => ?_) (Ev.now _)⟩
      simp only [bytealg_LastIndexByte.l0, toI_length]
      rw [if_pos (by omega), if_pos (by omega), if_pos (by omega), if_pos hrd]
      congr 1
      omega
    · have hne : ¬ (d.toNat : Int) = (c.toNat : Int) := fun h => hd (UInt8.toNat_inj.1 (by omega))
      have step : ∀ r, Ev (fun k => bytealg_LastIndexByte.l0 k (toI l) (c.toNat : Int) ((n : Int) - 1)) r → Ev (fun k => bytealg_LastIndexByte.l0 k (toI l) (c.toNat : Int) (((n + 1 : Nat) : Int) - 1)) r := fun r hr => by
        refine Ev.step (fun k => ?_) hr
        simp only [bytealg_LastIndexByte.l0, toI_length]
        rw [if_pos (by omega), if_pos (by omega), if_pos (by omega), hrd, if_neg hne, wrap_id (by omega) (by omega)]
        congr 1
        omega
      rcases ih a' (d :: b) han e2 (by simp only [List.mem_cons, not_or]; exact ⟨fun h => hd h.symm, hb⟩) with ⟨p, y, e3, hy, hev⟩ | ⟨hno, hev⟩
      · exact .inl ⟨p, y, e3, hy, step _ hev⟩
      · exact .inr ⟨hno, step _ hev⟩
theorem lastIB (l : List UInt8) (c : UInt8) (hl : l.length ≤ 4611686018427387904) :
    (∃ p y, l = p ++ c :: y ∧ c ∉ y ∧ Ev (fun k => bytes_LastIndexByte.f k (toI l) (c.toNat : Int)) (p.length : Int)) ∨ (c ∉ l ∧ Ev (fun k => bytes_LastIndexByte.f k (toI l) (c.toNat : Int)) (-1)) := by
  have key : ∀ r, Ev (fun k => bytealg_LastIndexByte.l0 k (toI l) (c.toNat : Int) ((l.length : Int) - 1)) r → Ev (fun k => bytes_LastIndexByte.f k (toI l) (c.toNat : Int)) r := fun r hr => by
    obtain ⟨k0, hk⟩ := hr
    refine ⟨k0, fun k h => ?_⟩
    simp only [bytes_LastIndexByte.f, bytealg_LastIndexByte.f, toI_length]
    have hk' := hk k h
    simp only at hk'
    rw [wrap_id (by omega) (by omega), hk']
    rfl
  rcases lastB_l l c hl l.length l [] rfl (by simp) (by simp) with ⟨p, y, e, hy, hev⟩ | ⟨hno, hev⟩
  · exact .inl ⟨p, y, e, hy, key _ hev⟩
  · exact .inr ⟨hno, key _ hev⟩
theorem rk_ahead (l : List UInt8) (x5 x6 : Int) (hl : l.length ≤ 4611686018427387904) : ∀ (n : Nat) (x9 : Int), n + 3 ≤ l.length → ∃ r : Int, r ≤ (n : Int) - 1 ∧ Ev (fun k => bytealg_LastIndexRabinKarp_byte.l1 k (toI l) [47, 46, 46] x5 x6 3 x9 ((n : Int) - 1)) r := by
  intro n
  induction n with
  | zero =>
    intro x9 _
    refine ⟨-1, by omega, Ev.step (f := fun _ => some (-1)) (fun k => ?_) (Ev.now _)⟩
    simp only [bytealg_LastIndexRabinKarp_byte.l1]
    rw [if_neg (by omega)]
  | succ n ih =>
    intro x9 hn
    have e1 : wrap64 (((n + 1 : Nat) : Int) - 1 + 3) = (n : Int) + 3 := by rw [wrap_id (by omega) (by omega)]; omega
    have e2 : wrap64 (((n + 1 : Nat) : Int) - 1 - 1) = (n : Int) - 1 := by rw [wrap_id (by omega) (by omega)]; omega
    have c1 : ((n + 1 : Nat) : Int) - 1 ≥ 0 := by omega
    have c3 : ((n + 1 : Nat) : Int) - 1 < (l.length : Int) := by omega
    have c4 : 0 ≤ (n : Int) + 3 := by omega
    have c5 : (n : Int) + 3 < (l.length : Int) := by omega
    have c6 : ((n + 1 : Nat) : Int) - 1 ≤ (n : Int) + 3 := by omega
    have c7 : (n : Int) + 3 ≤ (l.length : Int) := by omega
    obtain ⟨y9, hy9⟩ : ∃ y, y = ((((((x9 * 16777619) % 4294967296) + ((rd (toI l) (((n + 1 : Nat) : Int) - 1)) % 4294967296)) % 4294967296) - ((x6 * ((rd (toI l) ((n : Int) + 3)) % 4294967296)) % 4294967296)) % 4294967296) := ⟨_, rfl⟩
    obtain ⟨r, hr, hev⟩ := ih y9 (by omega)
    by_cases hx : y9 = x5
    · by_cases hq : (strOfNums (((toI l).take (((n : Int) + 3)).toNat).drop (((n + 1 : Nat) : Int) - 1).toNat)).toList = (strOfNums [47, 46, 46]).toList
      · refine ⟨((n + 1 : Nat) : Int) - 1, by omega, Ev.step (f := fun _ => some (((n + 1 : Nat) : Int) - 1)) (fun k => ?_) (Ev.now _)⟩
        simp only [bytealg_LastIndexRabinKarp_byte.l1, toI_length, e1, e2]
        rw [if_pos c1, if_pos c1, if_pos c3, if_pos c4, if_pos c5, ← hy9, if_pos hx, if_pos c6, if_pos c7, if_pos hq]
      · refine ⟨r, by omega, Ev.step (fun k => ?_) hev⟩
        simp only [bytealg_LastIndexRabinKarp_byte.l1, toI_length, e1, e2]
        rw [if_pos c1, if_pos c1, if_pos c3, if_pos c4, if_pos c5, ← hy9, if_pos hx, if_pos c6, if_pos c7, if_neg hq]
    · refine ⟨r, by omega, Ev.step (fun k => ?_) hev⟩
      simp only [bytealg_LastIndexRabinKarp_byte.l1, toI_length, e1, e2]
      rw [if_pos c1, if_pos c1, if_pos c3, if_pos c4, if_pos c5, ← hy9, if_neg hx]
theorem ev_le {α : Type} {f : Nat → Option α} {r : α} (h : ∀ k, LeO (f k) (f (k + 1))) (k0 : Nat) (e : f k0 = some r) : Ev f r :=
  ⟨k0, fun k hk => by
    obtain ⟨d, rfl⟩ := Nat.exists_eq_add_of_le hk
    clear hk
    induction d with
    | zero => exact e
    | succ d ih => exact h _ r ih⟩
theorem hash_up : Ev (fun k => bytealg_hashStrRev_byte.f k [47, 46, 46]) (41043831, 1055306571) := ev_le (fun k => bytealg_hashStrRev_byte.mono _ k) 10 (by
  have w1 : wrap64 (2 : Int) = 2 := wrap_id (by decide) (by decide)
  have w2 : wrap64 (1 : Int) = 1 := wrap_id (by decide) (by decide)
  have w3 : wrap64 (0 : Int) = 0 := wrap_id (by decide) (by decide)
  have w4 : wrap64 (-1 : Int) = -1 := wrap_id (by decide) (by decide)
  have r2 : rd [47, 46, 46] 2 = 46 := by rfl
  have r1 : rd [47, 46, 46] 1 = 46 := by rfl
  have r0 : rd [47, 46, 46] 0 = 47 := by rfl
  have b1 : ¬ Go.bits .and .i64 3 1 = 0 := by decide
  have b2 : ¬ Go.bits .and .i64 1 1 = 0 := by decide
  simp [bytealg_hashStrRev_byte.f, bytealg_hashStrRev_byte.l0, bytealg_hashStrRev_byte.l1, w1, w2, w3, w4, r0, r1, r2, b1, b2])
theorem lastIdx_long (x : List UInt8) (a b c : UInt8) (hx : x ≠ []) (hl : x.length ≤ 4611686018427387) :
    ∃ r : Int, Ev (fun k => bytes_LastIndex.f k (toI (x ++ [a, b, c])) [47, 46, 46]) r ∧ (([a, b, c] : List UInt8) = [47, 46, 46] → r = (x.length : Int)) ∧ (([a, b, c] : List UInt8) ≠ [47, 46, 46] → r < (x.length : Int)) := by
  have hp : 0 < x.length := List.length_pos_iff.2 hx
  obtain ⟨l, hle⟩ : ∃ l, l = x ++ [a, b, c] := ⟨_, rfl⟩
  have hln : l.length = x.length + 3 := by rw [hle]; simp
  have hrc : rd (toI l) ((x.length : Int) + 2) = (c.toNat : Int) := by
    have := rd_mid (xs := l) (pre := x ++ [a, b]) (t := []) (c := c) (by rw [hle]; simp)
    rw [← this]; congr 1; simp
  have hrb : rd (toI l) ((x.length : Int) + 1) = (b.toNat : Int) := by
    have := rd_mid (xs := l) (pre := x ++ [a]) (t := [c]) (c := b) (by rw [hle]; simp)
    rw [← this]; congr 1; simp
  have hra : rd (toI l) (x.length : Int) = (a.toNat : Int) := rd_mid (xs := l) (pre := x) (t := [b, c]) (c := a) hle
  have hcut : strOfNums ((toI l).drop x.length) = strOfNums (toI [a, b, c]) := by rw [toI_drop, hle]; simp
  obtain ⟨y1, hy1⟩ : ∃ y : Int, y = ((((0 : Int) * 16777619) % 4294967296) + ((c.toNat : Int) % 4294967296)) % 4294967296 := ⟨_, rfl⟩
  obtain ⟨y2, hy2⟩ : ∃ y : Int, y = (((y1 * 16777619) % 4294967296) + ((b.toNat : Int) % 4294967296)) % 4294967296 := ⟨_, rfl⟩
  obtain ⟨y3, hy3⟩ : ∃ y : Int, y = (((y2 * 16777619) % 4294967296) + ((a.toNat : Int) % 4294967296)) % 4294967296 := ⟨_, rfl⟩
  have main : ∃ r : Int, Ev (fun k => bytealg_LastIndexRabinKarp_byte.l0 k (toI l) [47, 46, 46] 41043831 1055306571 3 (x.length : Int) y3 ((x.length : Int) - 1)) r ∧ (([a, b, c] : List UInt8) = [47, 46, 46] → r = (x.length : Int)) ∧ (([a, b, c] : List UInt8) ≠ [47, 46, 46] → r < (x.length : Int)) := by
    have e1 : wrap64 ((x.length : Int) - 1) = (x.length : Int) - 1 := wrap_id (by omega) (by omega)
    by_cases hq : ([a, b, c] : List UInt8) = [47, 46, 46]
    · refine ⟨(x.length : Int), ?_, fun _ => rfl, fun h => absurd hq h⟩
      have hy : y3 = 41043831 := by
        simp only [List.cons.injEq, and_true] at hq
        rw [hy3, hy2, hy1, hq.1, hq.2.1, hq.2.2]
        rfl
      refine Ev.step (f := fun k => bytealg_LastIndexRabinKarp_byte.j1 k (toI l) [47, 46, 46] 41043831 1055306571 3 (x.length : Int) y3 true) (fun k => ?_) (Ev.step (f := fun _ => some (x.length : Int)) (fun k => ?_) (Ev.now _))
      · simp only [bytealg_LastIndexRabinKarp_byte.l0, toI_length]
        rw [if_neg (by omega), if_pos hy, if_pos (by omega), if_pos (by omega)]
        congr 1
        rw [Int.toNat_natCast, hcut, hq, beq_iff_eq, tl, tl, show ([47, 46, 46] : List Int) = toI [47, 46, 46] from rfl]
      · simp only [bytealg_LastIndexRabinKarp_byte.j1, if_true]
    · obtain ⟨r, hr, hev⟩ := rk_ahead l 41043831 1055306571 (by omega) x.length y3 (by omega)
      refine ⟨r, ?_, fun h => absurd h hq, fun _ => by omega⟩
      refine Ev.step (f := fun k => bytealg_LastIndexRabinKarp_byte.j1 k (toI l) [47, 46, 46] 41043831 1055306571 3 (x.length : Int) y3 false) (fun k => ?_) (Ev.step (fun k => ?_) hev)
      · simp only [bytealg_LastIndexRabinKarp_byte.l0, toI_length]
        rw [if_neg (by omega)]
        by_cases hy : y3 = 41043831
        · rw [if_pos hy, if_pos (by omega), if_pos (by omega)]
          congr 1
          rw [Int.toNat_natCast, hcut, beq_eq_false_iff_ne, tl, tl, L_strOf, show ([47, 46, 46] : List Int) = toI [47, 46, 46] from rfl, L_strOf]
          exact hq
        · rw [if_neg hy]
      · simp only [bytealg_LastIndexRabinKarp_byte.j1]
        rw [if_neg (by decide), e1]
  obtain ⟨r, hev, hh⟩ := main
  refine ⟨r, ?_, hh⟩
  rw [← hle]
  have h0 : Ev (fun k => bytealg_LastIndexRabinKarp_byte.l0 k (toI l) [47, 46, 46] 41043831 1055306571 3 (x.length : Int) 0 ((x.length : Int) + 2)) r := by
    refine Ev.step (f := fun k => bytealg_LastIndexRabinKarp_byte.l0 k (toI l) [47, 46, 46] 41043831 1055306571 3 (x.length : Int) y1 ((x.length : Int) + 1)) (fun k => ?_) (Ev.step (f := fun k => bytealg_LastIndexRabinKarp_byte.l0 k (toI l) [47, 46, 46] 41043831 1055306571 3 (x.length : Int) y2 (x.length : Int)) (fun k => ?_) (Ev.step (fun k => ?_) hev))
    · simp only [bytealg_LastIndexRabinKarp_byte.l0, toI_length]
      rw [if_pos (by omega), if_pos (by omega), if_pos (by omega), hrc, ← hy1, wrap_id (by omega) (by omega)]
      congr 1
      omega
    · simp only [bytealg_LastIndexRabinKarp_byte.l0, toI_length]
      rw [if_pos (by omega), if_pos (by omega), if_pos (by omega), hrb, ← hy2, wrap_id (by omega) (by omega)]
      congr 1
      omega
    · simp only [bytealg_LastIndexRabinKarp_byte.l0, toI_length]
      rw [if_pos (by omega), if_pos (by omega), if_pos (by omega), hra, ← hy3, wrap_id (by omega) (by omega)]
  obtain ⟨k0, hk⟩ := Ev.bind (f := fun k (bt : Int × Int) => bytealg_LastIndexRabinKarp_byte.l0 k (toI l) [47, 46, 46] bt.1 bt.2 3 (x.length : Int) 0 ((x.length : Int) + 2)) hash_up h0
  refine ⟨k0, fun k h => ?_⟩
  have hk' := hk k h
  simp only at hk'
  simp only [bytes_LastIndex.f, bytealg_LastIndexRabinKarp_byte.f, toI_length, hln]
  rw [if_neg (by decide), if_neg (by decide), if_neg (by simp; omega), if_neg (by simp; omega)]
  have w1 : wrap64 (((x.length + 3 : Nat) : Int) - (([47, 46, 46] : List Int).length : Int)) = (x.length : Int) := by rw [wrap_id (by simp <;> omega) (by simp <;> omega)]; simp <;> omega
  have w2 : wrap64 (((x.length + 3 : Nat) : Int) - 1) = (x.length : Int) + 2 := by rw [wrap_id (by omega) (by omega)]; omega
  rw [w1, w2]
  rw [show ((([47, 46, 46] : List Int).length : Int)) = 3 from rfl, hk']
  rfl
theorem lastIdx (l : List UInt8) (hl : l.length ≤ 4611686018427387) : ∃ r : Int, Ev (fun k => bytes_LastIndex.f k (toI l) [47, 46, 46]) r ∧ (∀ x, l = x ++ [47, 46, 46] → r = (x.length : Int)) ∧ ((∀ x, l ≠ x ++ [47, 46, 46]) → r < 0 ∨ r + 3 ≠ (l.length : Int)) ∧ r ≤ (l.length : Int) := by
  by_cases h3 : l.length < 3
  · refine ⟨-1, ⟨0, fun k _ => ?_⟩, fun x e => by rw [e] at h3; simp at h3; omega, fun _ => .inl (by omega), by omega⟩
    simp only [bytes_LastIndex.f, toI_length]
    rw [if_neg (by decide), if_neg (by decide), if_neg (by simp; omega), if_pos (by simp; omega)]
  · obtain ⟨x, hx⟩ : ∃ x, x = l.take (l.length - 3) := ⟨_, rfl⟩
    obtain ⟨y, hy⟩ : ∃ y, y = l.drop (l.length - 3) := ⟨_, rfl⟩
    have hxy : l = x ++ y := by rw [hx, hy, List.take_append_drop]
    have hyl : y.length = 3 := by rw [hy, List.length_drop]; omega
    obtain ⟨a, b, c, rfl⟩ : ∃ a b c, y = [a, b, c] := by
      match y, hyl with
      | [a, b, c], _ => exact ⟨a, b, c, rfl⟩
    clear hx hy
    have tail : ∀ z, l = z ++ [47, 46, 46] → z = x ∧ ([a, b, c] : List UInt8) = [47, 46, 46] := fun z e => by
      rw [hxy] at e
      have := List.append_inj' e rfl
      exact ⟨this.1.symm, this.2⟩
    by_cases hx0 : x = []
    · subst hx0
      rw [List.nil_append] at hxy
      by_cases hq : ([a, b, c] : List UInt8) = [47, 46, 46]
      · refine ⟨0, ⟨0, fun k _ => ?_⟩, fun z e => by rw [(tail z e).1]; rfl, fun h => absurd (by rw [hxy, hq]; rfl) (h []), by omega⟩
        rw [hxy, hq]
        simp only [bytes_LastIndex.f, bytes_Equal.f, toI_length]
        rw [if_neg (by decide), if_neg (by decide), if_pos (by rfl), show toI [47, 46, 46] = [47, 46, 46] from rfl]
        simp
      · refine ⟨-1, ⟨0, fun k _ => ?_⟩, fun z e => absurd (tail z e).2 hq, fun _ => .inl (by omega), by omega⟩
        rw [hxy]
        simp only [bytes_LastIndex.f, bytes_Equal.f, toI_length]
        rw [if_neg (by decide), if_neg (by decide), if_pos (by simp)]
        have : ((strOfNums (toI [a, b, c])).toList == (strOfNums [47, 46, 46]).toList) = false := by
          rw [beq_eq_false_iff_ne, tl, tl, L_strOf, show ([47, 46, 46] : List Int) = toI [47, 46, 46] from rfl, L_strOf]
          exact hq
        rw [this]
        rfl
    · obtain ⟨r, hev, h1, h2⟩ := lastIdx_long x a b c hx0 (by rw [hxy] at hl; simp at hl; omega)
      refine ⟨r, by rw [hxy]; exact hev, fun z e => by rw [(tail z e).1]; exact h1 (tail z e).2, fun h => .inr ?_, by have h4 : r ≤ (x.length : Int) := (Classical.em _).elim (fun h => Int.le_of_eq (h1 h)) (fun h => Int.le_of_lt (h2 h)); rw [hxy]; simp; omega⟩
      have := h2 (fun hq => h x (by rw [hxy, hq]))
      rw [hxy]
      simp
      omega
theorem dup_next (p q a b : List UInt8) (hq : q = a ++ [47, 47] ++ b) (hmin : ∀ a' b', q = a' ++ [47, 47] ++ b' → a.length ≤ a'.length) (hinv : ∀ a' b', p ++ q = a' ++ [47, 47] ++ b' → p.length ≤ a'.length) :
    ∀ a' b', (p ++ a) ++ 47 :: b = a' ++ [47, 47] ++ b' → (p ++ a).length ≤ a'.length := by
  intro a' b' e
  refine Classical.byContradiction fun hn => ?_
  have hlt : a'.length < (p ++ a).length := by omega
  obtain ⟨m, hm1, hm2⟩ : ∃ m, p ++ a = a' ++ m ∧ m ++ 47 :: b = [47, 47] ++ b' := by
    have e' : (p ++ a) ++ 47 :: b = a' ++ ([47, 47] ++ b') := by rw [e]; simp
    rcases List.append_eq_append_iff.1 e' with ⟨t, h1, h2⟩ | ⟨t, h1, h2⟩
    · rw [h1] at hlt; simp at hlt; omega
    · exact ⟨t, h1, h2.symm⟩
  have hocc : ∃ b3, p ++ q = a' ++ [47, 47] ++ b3 := by
    cases m with
    | nil => rw [hm1] at hlt; simp at hlt
    | cons x m =>
      simp at hm2
      cases m with
      | nil =>
        refine ⟨47 :: b, ?_⟩
        rw [hq, show p ++ (a ++ [47, 47] ++ b) = (p ++ a) ++ 47 :: 47 :: b by simp, hm1, hm2.1]
        simp
      | cons y m =>
        simp at hm2
        refine ⟨m ++ 47 :: 47 :: b, ?_⟩
        rw [hq, show p ++ (a ++ [47, 47] ++ b) = (p ++ a) ++ 47 :: 47 :: b by simp, hm1, hm2.1, hm2.2.1]
        simp
  obtain ⟨b3, hb3⟩ := hocc
  have hp := hinv a' b3 hb3
  have hb4 : p ++ q = a' ++ ([47, 47] ++ b3) := by rw [hb3]; simp
  rcases List.append_eq_append_iff.1 hb4 with ⟨t, h1, h2⟩ | ⟨t, h1, h2⟩
  · have := hmin t b3 (by rw [h2]; simp)
    rw [h1] at hlt
    simp at hlt
    omega
  · have : t = [] := by rw [h1] at hp; simp at hp; exact List.length_eq_zero_iff.1 (by omega)
    subst this
    have := hmin [] b3 (by simpa using h2.symm)
    have hpl : p.length = a'.length := by rw [h1]; simp
    rw [List.length_append] at hlt
    simp only [List.length_nil] at this
    omega
theorem dup_none (p q : List UInt8) (hno : ∀ a b, q ≠ a ++ [47, 47] ++ b) (hinv : ∀ a' b', p ++ q = a' ++ [47, 47] ++ b' → p.length ≤ a'.length) : ∀ a b, p ++ q ≠ a ++ 47 :: 47 :: b := by
  intro a b e
  have hp := hinv a b (by rw [e]; simp)
  rcases List.append_eq_append_iff.1 e with ⟨t, h1, h2⟩ | ⟨t, h1, h2⟩
  · exact hno t b (by rw [h2]; simp)
  · have : t = [] := by rw [h1] at hp; simp at hp; exact List.length_eq_zero_iff.1 (by omega)
    subst this
    exact hno [] b (by simpa using h2.symm)
end Go.Proofs.Ytfbllodbcmcndaa.SpA
end
