/- FnUriParts: the law's function, called with any arguments, returns true and leaves its arguments as they were: every input, no condition. Part 8 of 9. -/
import Derived.Test.YtbkeakeldegkeaaZFnUriParts1
import Derived.Test.YtbkeakeldegkeaaZFnUriParts6
section
namespace Go.Proofs.Ytbkeakeldegkeaa.Q
open Go.RowKit Go.Proofs.YtbkeakeldegkeaaW.PrintWords Go.Proofs.YtbkeakeldegkeaaW.PrintLast Go.Proofs.YtbkeakeldegkeaaW.PrintMore
attribute [local go_sem] max2_int min2_int max_two min_two max_three min_three max_four min_four
set_option linter.unusedVariables false
set_option linter.unusedSimpArgs false
mutual
def laws_FnUriParts.j0 : Nat → ByteArray → List ByteArray → ByteArray → ByteArray → Bool → Option (Bool)
  | 0, _, _, _, _, _ => none
  | k + 1, x0, x1, x2, x3, x31 => if x31 = true then (some true) else ((laws_parses.f).bind fun t697 => (if t697 = true then (laws_FnUriParts.l0 k x0 x2 x3 (⟨#[]⟩ : ByteArray) x1 (x1.length : Int) 0) else (none)))
def laws_FnUriParts.l0 : Nat → ByteArray → ByteArray → ByteArray → ByteArray → List ByteArray → Int → Int → Option (Bool)
  | 0, _, _, _, _, _, _, _ => none
  | k + 1, x0, x2, x3, x9, x34, x35, x36 => if x36 < x35 then (if 0 ≤ x36 then (if x36 < (x34.length : Int) then ((laws_word.f k (rdOf ByteArray.empty x34 x36)).bind fun t699 => (if t699 = true then (if 1 + (rdOf ByteArray.empty x34 x36).size ≤ 9223372036854775807 then (if x9.size + (1 + (rdOf ByteArray.empty x34 x36).size) ≤ 9223372036854775807 then (laws_FnUriParts.l0 k x0 x2 x3 (x9 ++ ((⟨#[47]⟩ : ByteArray) ++ (rdOf ByteArray.empty x34 x36))) x34 x35 (wrap64 (x36 + 1))) else (none)) else (none)) else (some true))) else (none)) else (none)) else ((laws_word.f k x0).bind fun t700 => (if t700 = true then (if x9.toList = ([] : List UInt8) then (laws_FnUriParts.j2 k x0 x2 x3 x9 true) else ((laws_short.f k (([x0, x9, x2, x3] : List ByteArray))).bind fun t704 => (if t704 = true then ((laws_calm.f k (([x2, x3] : List ByteArray))).bind fun t708 => (if t708 = true then ((laws_holds.f k x2 35).bind fun t709 => (laws_FnUriParts.j2 k x0 x2 x3 x9 t709)) else (laws_FnUriParts.j2 k x0 x2 x3 x9 true))) else (laws_FnUriParts.j2 k x0 x2 x3 x9 true)))) else (laws_FnUriParts.j2 k x0 x2 x3 x9 true)))
def laws_FnUriParts.j2 : Nat → ByteArray → ByteArray → ByteArray → ByteArray → Bool → Option (Bool)
  | 0, _, _, _, _, _ => none
  | k + 1, x0, x2, x3, x9, x74 => if x74 = true then (some true) else (if 7 + x0.size ≤ 9223372036854775807 then (if 7 + x0.size + x9.size ≤ 9223372036854775807 then (if 7 + x0.size + x9.size + 1 ≤ 9223372036854775807 then (if 7 + x0.size + x9.size + 1 + x2.size ≤ 9223372036854775807 then (if 7 + x0.size + x9.size + 1 + x2.size + 1 ≤ 9223372036854775807 then (if 7 + x0.size + x9.size + 1 + x2.size + 1 + x3.size ≤ 9223372036854775807 then ((impl_UriOf.f (⟨#[]⟩ : ByteArray) (((((((⟨#[104, 116, 116, 112, 58, 47, 47]⟩ : ByteArray) ++ x0) ++ x9) ++ (⟨#[63]⟩ : ByteArray)) ++ x2) ++ (⟨#[35]⟩ : ByteArray)) ++ x3)).bind fun bt710 => (if bt710.2.2.2.2.2.2.2.2 = true then (if bt710.1.toList = ([104, 116, 116, 112] : List UInt8) then ((laws_low.f x0).bind fun t720 => (if bt710.2.1.toList = t720.toList then (if bt710.2.2.1.toList = x9.toList then (if bt710.2.2.2.1.toList = x9.toList then (if bt710.2.2.2.2.1.toList = x2.toList then (if bt710.2.2.2.2.2.1.toList = x3.toList then (if bt710.2.2.2.2.2.2.1.toList = ([] : List UInt8) then (some (bt710.2.2.2.2.2.2.2.1.toList == ([] : List UInt8))) else (none)) else (none)) else (none)) else (none)) else (none)) else (none))) else (none)) else (none))) else (none)) else (none)) else (none)) else (none)) else (none)) else (none))
end
def laws_FnUriParts.f (k : Nat) (a0 : ByteArray) (l1 : List ByteArray) (a2 : ByteArray) (a3 : ByteArray) : Option (Bool) := if (a0.size : Int) > 2147483647 then (laws_FnUriParts.j0 k a0 l1 a2 a3 true) else ((laws_zzFits1.f k l1).bind fun t696 => (if t696 = true then (if (a2.size : Int) > 2147483647 then (laws_FnUriParts.j0 k a0 l1 a2 a3 true) else (laws_FnUriParts.j0 k a0 l1 a2 a3 (decide ((a3.size : Int) > 2147483647)))) else (laws_FnUriParts.j0 k a0 l1 a2 a3 true)))
def laws_FnUriParts.T16 : Bool × List (List Nat × List Nat) := (true, [([], []), ([0], [0]), ([1], [1]), ([2, 1], [1, 2]), ([3, 1], [1, 3]), ([1, 4], [1, 4]), ([5, 1], [5]), ([6], [6]), ([7, 6], [6, 7]), ([6], [6]), ([9, 6, 6], [6, 9]), ([8, 10, 6], [6, 8, 10]), ([6, 11], [6, 11]), ([12, 10], [12]), ([13], [13]), ([14, 13], [13, 14]), ([13], [13]), ([15, 16, 13], [13, 15, 16]), ([13, 17], [13, 17]), ([18, 13], [18]), ([19], [19]), ([20, 19], [19, 20]), ([19], [19]), ([21, 22, 19], [19, 21, 22]), ([19, 23], [19, 23]), ([24, 19], [24]), ([25], [25]), ([26, 25], [25, 26]), ([25], [25]), ([27, 28, 25], [25, 27, 28]), ([25, 29], [25, 29]), ([30, 25], [30]), ([31], [31]), ([32, 31], [31, 32]), ([31], [31]), ([33, 34, 31], [31, 33, 34]), ([31, 35], [31, 35]), ([36, 31], [36]), ([37], [37]), ([38, 37], [37, 38]), ([39, 37], [37, 39]), ([37, 40], [37, 40]), ([41, 37], [41]), ([42], [42]), ([43, 42], [42, 43]), ([44, 42], [42, 44]), ([42, 45], [42, 45]), ([46, 42, 0, 1, 2, 3, 4, 5, 6, 7, 8, 9, 10, 11, 12, 13, 14, 15, 16, 17, 18, 19, 20, 21, 22, 23, 24, 25, 26, 27, 28, 29, 30, 31, 32, 33, 34, 35, 36, 37, 38, 39, 40, 41, 42, 43, 44, 45, 46], [46])])
def laws_FnUriParts.B16 : List Nat := [0, 1, 3, 7, 15, 31, 63, 127, 255, 127, 639, 2047, 4095, 8191, 16383, 32767, 16383, 131071, 262143, 524287, 1048575, 2097151, 1048575, 8388607, 16777215, 33554431, 67108863, 134217727, 67108863, 536870911, 1073741823, 2147483647, 4294967295, 8589934591, 4294967295, 34359738367, 68719476735, 137438953471, 274877906943, 549755813887, 1099511627775, 2199023255551, 4398046511103, 8796093022207, 17592186044415, 35184372088831, 70368744177663, 140737488355327]
theorem laws_FnUriParts.tab16 : rtab .any (opsOf Try.f4 16) = laws_FnUriParts.T16 := by kernel_rfl
theorem laws_FnUriParts.bits16 : waitsOk laws_FnUriParts.T16.2 laws_FnUriParts.B16 = true := by kernel_rfl
set_option maxHeartbeats 8000000 in
set_option maxRecDepth 100000 in
theorem laws_FnUriParts.calls (k : Nat) (a0 : ByteArray) (A1 : Option Addr) (c1 : Nat) (l1 : List ByteArray) (a2 : ByteArray) (a3 : ByteArray) (r : Bool) (w : World) (hr1 : Kd.C Kd.string w A1 l1.length l1) (hc1 : l1.length ≤ c1) (h : laws_FnUriParts.f k a0 l1 a2 a3 = some r) :
    Calls Try.prog 4 #[.string a0, .slice A1 l1.length c1, .string a2, .string a3] w fun e w' => e = .returned (.bool r) ∧ Below w.heap.size w w' := by
  have hu27 := Try.underlying27
  have HR1 := Aside0.mk hr1
  have HC1 := Aside0.mk hc1
  clear hr1 hc1
  have HB := Aside0.mk (Below.refl w.heap.size w)
  have H : (if (a0.size : Int) > 2147483647 then (laws_FnUriParts.j0 k a0 l1 a2 a3 true) else ((laws_zzFits1.f k l1).bind fun t696 => (if t696 = true then (if (a2.size : Int) > 2147483647 then (laws_FnUriParts.j0 k a0 l1 a2 a3 true) else (laws_FnUriParts.j0 k a0 l1 a2 a3 (decide ((a3.size : Int) > 2147483647)))) else (laws_FnUriParts.j0 k a0 l1 a2 a3 true)))) = some r := h
  clear h
  have HC5 := Aside0.mk H
  clear H
  go_enter Try.func4, Try.ntmps4
  go_upto_region 1 with (fail)
  go_cut [31] (fun v31 wc => ∃ (kq : Nat) (x31_4 : Bool), v31 = .bool x31_4 ∧ Aside0 (laws_FnUriParts.j0 kq a0 l1 a2 a3 x31_4 = some r) ∧ Aside0 (kq ≤ k) ∧ Aside0 (Below w.heap.size w wc))
  case first =>
    have H := HC5.out
    clear HC5
    by_cases c6 : (a0.size : Int) > 2147483647
    · rw [if_pos c6] at H
      have c6b0 : decide (2147483647 < (a0.size : Int)) = true := decide_eq_true c6
      have c6b1 : decide (2147483647 < a0.size) = true := decide_eq_true (by omega)
      clear c6
      (first | rw [c6b0] | (simp only [i64_w, i32_w]; rw [c6b0]) | (rw [Go.Proofs.YtbkeakeldegkeaaX.isEmpty_eq]; rw [c6b0]) | skip)
      have H' := Aside0.mk H
      clear H
      go_wp2
      go_meet
      case rel => exact ⟨_, (true), (by first | rfl | (simp; done) | (simp [*]; done) | (simp [Go.Proofs.YtbkeakeldegkeaaX.isEmpty_ne]; done)), H', ⟨by first | omega | exact Nat.le_refl _⟩, ⟨by repeat (first | (with_reducible first | exact HB.out | apply below_alloc | apply pw_below_drewN | apply below_drew1) | exact HB.out)⟩⟩
    · rw [if_neg c6] at H
      have c6b0 : decide (2147483647 < (a0.size : Int)) = false := decide_eq_false c6
      have c6b1 : decide (2147483647 < a0.size) = false := decide_eq_false (by omega)
      clear c6
      (first | rw [c6b0] | (simp only [i64_w, i32_w]; rw [c6b0]) | (rw [Go.Proofs.YtbkeakeldegkeaaX.isEmpty_eq]; rw [c6b0]) | skip)
      replace H := Option.bind_eq_some_iff.mp H
      obtain ⟨t696, A70, H⟩ := H
      replace H : (if t696 = true then (if (a2.size : Int) > 2147483647 then (laws_FnUriParts.j0 k a0 l1 a2 a3 true) else (laws_FnUriParts.j0 k a0 l1 a2 a3 (decide ((a3.size : Int) > 2147483647)))) else (laws_FnUriParts.j0 k a0 l1 a2 a3 true)) = some r := H
      have A7 := Aside0.mk A70
      clear A70
      by_cases c8 : t696 = true
      · subst c8
        have H1 : (if (a2.size : Int) > 2147483647 then (laws_FnUriParts.j0 k a0 l1 a2 a3 true) else (laws_FnUriParts.j0 k a0 l1 a2 a3 (decide ((a3.size : Int) > 2147483647)))) = some r := by rw [if_pos rfl] at H; exact H
        clear H
        have H := H1
        clear H1
        by_cases c9 : (a2.size : Int) > 2147483647
        · rw [if_pos c9] at H
          have c9b0 : decide (2147483647 < (a2.size : Int)) = true := decide_eq_true c9
          have c9b1 : decide (2147483647 < a2.size) = true := decide_eq_true (by omega)
          clear c9
          have H' := Aside0.mk H
          clear H
          go_wp2_with (first | (go_at_call 19; (with_reducible refine (laws_zzFits1.calls k _ _ l1 true _ ?side1 ?side2 A7.out).mono ?_); (case side1 => repeat (first | exact (Kd.C_below HR1.out HB.out) | (with_reducible refine Kd.C_alloc ?_ _) | (with_reducible refine Kd.C_drewN ?_ _) | (with_reducible refine Kd.C_drew ?_))); (case side2 => exact HC1.out); rintro e w' ⟨rfl, ⟨nd, rfl⟩⟩))
          go_meet
          case rel => exact ⟨_, (true), (by first | rfl | (simp; done) | (simp [*]; done) | (simp [Go.Proofs.YtbkeakeldegkeaaX.isEmpty_ne]; done)), H', ⟨by first | omega | exact Nat.le_refl _⟩, ⟨by repeat (first | (with_reducible first | exact HB.out | apply below_alloc | apply pw_below_drewN | apply below_drew1) | exact HB.out)⟩⟩
        · rw [if_neg c9] at H
          have c9b0 : decide (2147483647 < (a2.size : Int)) = false := decide_eq_false c9
          have c9b1 : decide (2147483647 < a2.size) = false := decide_eq_false (by omega)
          clear c9
          have H' := Aside0.mk H
          clear H
          go_wp2_with (first | (go_at_call 19; (with_reducible refine (laws_zzFits1.calls k _ _ l1 true _ ?side1 ?side2 A7.out).mono ?_); (case side1 => repeat (first | exact (Kd.C_below HR1.out HB.out) | (with_reducible refine Kd.C_alloc ?_ _) | (with_reducible refine Kd.C_drewN ?_ _) | (with_reducible refine Kd.C_drew ?_))); (case side2 => exact HC1.out); rintro e w' ⟨rfl, ⟨nd, rfl⟩⟩))
          go_meet
          case rel => exact ⟨_, (decide ((a3.size : Int) > 2147483647)), (by first | rfl | (simp; done) | (simp [*]; done) | (simp [Go.Proofs.YtbkeakeldegkeaaX.isEmpty_ne]; done)), H', ⟨by first | omega | exact Nat.le_refl _⟩, ⟨by repeat (first | (with_reducible first | exact HB.out | apply below_alloc | apply pw_below_drewN | apply below_drew1) | exact HB.out)⟩⟩
      · replace c8 := Bool.eq_false_iff.mpr c8
        subst c8
        have H1 : (laws_FnUriParts.j0 k a0 l1 a2 a3 true) = some r := by rw [if_neg (show ¬ (false = true) by decide)] at H; exact H
        clear H
        have H := H1
        clear H1
        have H' := Aside0.mk H
        clear H
        go_wp2_with (first | (go_at_call 19; (with_reducible refine (laws_zzFits1.calls k _ _ l1 false _ ?side1 ?side2 A7.out).mono ?_); (case side1 => repeat (first | exact (Kd.C_below HR1.out HB.out) | (with_reducible refine Kd.C_alloc ?_ _) | (with_reducible refine Kd.C_drewN ?_ _) | (with_reducible refine Kd.C_drew ?_))); (case side2 => exact HC1.out); rintro e w' ⟨rfl, ⟨nd, rfl⟩⟩))
        go_meet
        case rel => exact ⟨_, (true), (by first | rfl | (simp; done) | (simp [*]; done) | (simp [Go.Proofs.YtbkeakeldegkeaaX.isEmpty_ne]; done)), H', ⟨by first | omega | exact Nat.le_refl _⟩, ⟨by repeat (first | (with_reducible first | exact HB.out | apply below_alloc | apply pw_below_drewN | apply below_drew1) | exact HB.out)⟩⟩
  case rest =>
    clear HC5
    try clear c1
    try clear p2
    try clear c4
    try clear c6
    try clear c6b0
    try clear c6b1
    try clear c8
    try clear c9
    try clear c9b0
    try clear c9b1
    obtain ⟨kq, x31_4, rfl, HA, HJ4, HB⟩ := hcut
    cases kq with
    | zero => exact absurd HA.out (by simp [laws_FnUriParts.j0])
    | succ kj4 =>
      have H := HA.out
      clear HA
      simp only [laws_FnUriParts.j0] at H
      by_cases c10 : x31_4 = true
      · subst c10
        have H1 : (some true) = some r := by rw [if_pos rfl] at H; exact H
        clear H
        have H := H1
        clear H1
        obtain rfl := Option.some.inj H
        go_wp2
        go_ret
        exact ⟨by first | rfl | (simp [errW_none, errW_some] <;> rfl) | (simp [*, errW_none, errW_some] <;> rfl), by repeat (first | (with_reducible first | exact HB.out | apply below_alloc | apply pw_below_drewN | apply below_drew1) | exact HB.out)⟩
      · replace c10 := Bool.eq_false_iff.mpr c10
        subst c10
        have H1 : ((laws_parses.f).bind fun t697 => (if t697 = true then (laws_FnUriParts.l0 kj4 a0 a2 a3 (⟨#[]⟩ : ByteArray) l1 (l1.length : Int) 0) else (none))) = some r := by rw [if_neg (show ¬ (false = true) by decide)] at H; exact H
        clear H
        have H := H1
        clear H1
        replace H := Option.bind_eq_some_iff.mp H
        obtain ⟨t697, A110, H⟩ := H
        replace H : (if t697 = true then (laws_FnUriParts.l0 kj4 a0 a2 a3 (⟨#[]⟩ : ByteArray) l1 (l1.length : Int) 0) else (none)) = some r := H
        have A11 := Aside0.mk A110
        clear A110
        by_cases c12 : t697 = true
        · subst c12
          have H1 : (laws_FnUriParts.l0 kj4 a0 a2 a3 (⟨#[]⟩ : ByteArray) l1 (l1.length : Int) 0) = some r := by rw [if_pos rfl] at H; exact H
          clear H
          have H := H1
          clear H1
          have H' := Aside0.mk H
          clear H
          go_wp2_with (first | ((with_reducible refine gate_callee (f := 12) rfl ?_); refine goesL_ (some 32) rfl rfl Try.func12 (by kernel_rfl) rfl #[] rfl (by (try simp only [List.map_toArray, List.map_cons, List.map_nil]); first | done | rfl | (simp only [List.length_drop, List.length_take]; rfl)) ?_; (with_reducible refine (laws_parses.calls  true _ A11.out).mono ?_); rintro e w13 ⟨rfl, hb⟩; refine ⟨_, rfl, ?_⟩; have n0_ := Aside0.mk (below_step (by repeat (first | (with_reducible first | exact HB.out | apply below_alloc | apply pw_below_drewN | apply below_drew1) | exact HB.out)) hb); clear HB; have HB := n0_; clear n0_; (try clear hb); (try clear hb2); (try clear hk); (try clear hi)))
          go_loopg [9, 36] kj4 (fun kq v9 v36 w' => ∃ (x9_2 : ByteArray) (x36_2 : Int), v9 = .string x9_2 ∧ v36 = .int .i64 x36_2 ∧ Aside0 (laws_FnUriParts.l0 kq a0 a2 a3 x9_2 l1 (l1.length : Int) x36_2 = some r) ∧ Aside0 (kq ≤ kj4) ∧ Aside0 (Below w.heap.size w w'))
          case atStart => exact ⟨((⟨#[]⟩ : ByteArray)), (0), (by first | rfl | (simp; done) | (simp [*]; done) | (simp [Go.Proofs.YtbkeakeldegkeaaX.isEmpty_ne]; done)), (by first | rfl | (simp; done) | (simp [*]; done) | (simp [Go.Proofs.YtbkeakeldegkeaaX.isEmpty_ne]; done)), H', ⟨Nat.le_refl _⟩, ⟨by repeat (first | (with_reducible first | exact HB.out | apply below_alloc | apply pw_below_drewN | apply below_drew1) | exact HB.out)⟩⟩
          case round =>
            clear H'
            try clear c1
            try clear p2
            try clear c4
            try clear c6
            try clear c6b0
            try clear c6b1
            try clear c8
            try clear c9
            try clear c9b0
            try clear c9b1
            try clear c10
            try clear c12
            try clear p2
            obtain ⟨x9_2, x36_2, rfl, rfl, HA, HK2, HB⟩ := hrel
            cases gk with
            | zero => exact absurd HA.out (by simp [laws_FnUriParts.l0])
            | succ k2 =>
              have H := HA.out
              clear HA
              simp only [laws_FnUriParts.l0] at H
              by_cases c14 : x36_2 < (l1.length : Int)
              · rw [if_pos c14] at H
                have c14b0 : decide (x36_2 < (l1.length : Int)) = true := decide_eq_true c14
                clear c14
                by_cases c15 : 0 ≤ x36_2
                · rw [if_pos c15] at H
                  have c15b0 : decide (0 ≤ x36_2) = true := decide_eq_true c15
                  clear c15
                  by_cases c16 : x36_2 < (l1.length : Int)
                  · rw [if_pos c16] at H
                    have c16b0 : decide (x36_2 < (l1.length : Int)) = true := decide_eq_true c16
                    clear c16
                    replace H := Option.bind_eq_some_iff.mp H
                    obtain ⟨t699, A170, H⟩ := H
                    replace H : (if t699 = true then (if 1 + (rdOf ByteArray.empty l1 x36_2).size ≤ 9223372036854775807 then (if x9_2.size + (1 + (rdOf ByteArray.empty l1 x36_2).size) ≤ 9223372036854775807 then (laws_FnUriParts.l0 k2 a0 a2 a3 (x9_2 ++ ((⟨#[47]⟩ : ByteArray) ++ (rdOf ByteArray.empty l1 x36_2))) l1 (l1.length : Int) (wrap64 (x36_2 + 1))) else (none)) else (none)) else (some true)) = some r := H
                    have A17 := Aside0.mk A170
                    clear A170
                    by_cases c18 : t699 = true
                    · subst c18
                      have H1 : (if 1 + (rdOf ByteArray.empty l1 x36_2).size ≤ 9223372036854775807 then (if x9_2.size + (1 + (rdOf ByteArray.empty l1 x36_2).size) ≤ 9223372036854775807 then (laws_FnUriParts.l0 k2 a0 a2 a3 (x9_2 ++ ((⟨#[47]⟩ : ByteArray) ++ (rdOf ByteArray.empty l1 x36_2))) l1 (l1.length : Int) (wrap64 (x36_2 + 1))) else (none)) else (none)) = some r := by rw [if_pos rfl] at H; exact H
                      clear H
                      have H := H1
                      clear H1
                      by_cases c19 : 1 + (rdOf ByteArray.empty l1 x36_2).size ≤ 9223372036854775807
                      · rw [if_pos c19] at H
                        have c19b0 := eq_true c19
                        have c19b1 : decide (1 + (rdOf ByteArray.empty l1 x36_2).size ≤ 9223372036854775807) = true := decide_eq_true c19
                        try have c19b2 : (9223372036854775807 < 1 + (rdOf ByteArray.empty l1 x36_2).size) = False := eq_false (Nat.not_lt.2 c19)
                        by_cases c20 : x9_2.size + (1 + (rdOf ByteArray.empty l1 x36_2).size) ≤ 9223372036854775807
                        · rw [if_pos c20] at H
                          have c20b0 := eq_true c20
                          have c20b1 : decide (x9_2.size + (1 + (rdOf ByteArray.empty l1 x36_2).size) ≤ 9223372036854775807) = true := decide_eq_true c20
                          try have c20b2 : (9223372036854775807 < x9_2.size + (1 + (rdOf ByteArray.empty l1 x36_2).size)) = False := eq_false (Nat.not_lt.2 c20)
                          have H' := Aside0.mk H
                          clear H
                          have p698 : 0 ≤ (x36_2 : Int) := of_decide_eq_true (by first | (with_reducible assumption) | assumption)
                          have q698 : x36_2 < (l1.length : Int) := of_decide_eq_true (by first | (with_reducible assumption) | assumption)
                          obtain ⟨ad698, e698, hx698_0⟩ := Kd.at_string HR1.out x36_2 p698 q698
                          cases e698
                          replace hx698_0 := (HB.out.cell (World.block_lt_of_cell? w _ hx698_0)).trans hx698_0
                          replace p698 := eq_true p698
                          replace q698 := eq_true q698
                          go_wp2_with (first | ((with_reducible refine gate_callee (f := 13) rfl ?_); refine goesL_ (some 41) rfl rfl Try.func13 (by kernel_rfl) rfl #[.string (rdOf ByteArray.empty l1 x36_2)] rfl (by (try simp only [List.map_toArray, List.map_cons, List.map_nil]); first | done | rfl | (simp only [List.length_drop, List.length_take]; rfl)) ?_; (with_reducible refine (laws_word.calls k2 (rdOf ByteArray.empty l1 x36_2) true _ A17.out).mono ?_); rintro e w' ⟨rfl, ⟨nd, rfl⟩⟩; refine ⟨_, rfl, ?_⟩))
                          any_goals (try (exfalso; have zc14b0 := of_decide_eq_true c14b0; have zc15b0 := of_decide_eq_true c15b0; have zc16b0 := of_decide_eq_true c16b0; have zc19b1 := of_decide_eq_true c19b1; have zc20b1 := of_decide_eq_true c20b1; omega))
                          go_roundg k2
                          case measure => have := HJ4.out; have := HK2.out; omega
                          case rel => exact ⟨(x9_2 ++ ((⟨#[47]⟩ : ByteArray) ++ (rdOf ByteArray.empty l1 x36_2))), (wrap64 (x36_2 + 1)), (by first | rfl | (simp; done) | (simp [*]; done) | (simp [Go.Proofs.YtbkeakeldegkeaaX.isEmpty_ne]; done)), (by first | rfl | (simp; done) | (simp [*]; done) | (simp [Go.Proofs.YtbkeakeldegkeaaX.isEmpty_ne]; done)), H', ⟨by have := HJ4.out; have := HK2.out; omega⟩, ⟨by repeat (first | (with_reducible first | exact HB.out | apply below_alloc | apply pw_below_drewN | apply below_drew1) | exact HB.out)⟩⟩
                        · rw [if_neg c20] at H
                          cases H
                      · rw [if_neg c19] at H
                        cases H
                    · replace c18 := Bool.eq_false_iff.mpr c18
                      subst c18
                      have H1 : (some true) = some r := by rw [if_neg (show ¬ (false = true) by decide)] at H; exact H
                      clear H
                      have H := H1
                      clear H1
                      obtain rfl := Option.some.inj H
                      have p698 : 0 ≤ (x36_2 : Int) := of_decide_eq_true (by first | (with_reducible assumption) | assumption)
                      have q698 : x36_2 < (l1.length : Int) := of_decide_eq_true (by first | (with_reducible assumption) | assumption)
                      obtain ⟨ad698, e698, hx698_0⟩ := Kd.at_string HR1.out x36_2 p698 q698
                      cases e698
                      replace hx698_0 := (HB.out.cell (World.block_lt_of_cell? w _ hx698_0)).trans hx698_0
                      replace p698 := eq_true p698
                      replace q698 := eq_true q698
                      go_wp2_with (first | ((with_reducible refine gate_callee (f := 13) rfl ?_); refine goesL_ (some 41) rfl rfl Try.func13 (by kernel_rfl) rfl #[.string (rdOf ByteArray.empty l1 x36_2)] rfl (by (try simp only [List.map_toArray, List.map_cons, List.map_nil]); first | done | rfl | (simp only [List.length_drop, List.length_take]; rfl)) ?_; (with_reducible refine (laws_word.calls k2 (rdOf ByteArray.empty l1 x36_2) false _ A17.out).mono ?_); rintro e w' ⟨rfl, ⟨nd, rfl⟩⟩; refine ⟨_, rfl, ?_⟩))
                      go_ret
                      exact ⟨by first | rfl | (simp [errW_none, errW_some] <;> rfl) | (simp [*, errW_none, errW_some] <;> rfl), by repeat (first | (with_reducible first | exact HB.out | apply below_alloc | apply pw_below_drewN | apply below_drew1) | exact HB.out)⟩
                  · rw [if_neg c16] at H
                    exact absurd H (by simp)
                · rw [if_neg c15] at H
                  exact absurd H (by simp)
              · rw [if_neg c14] at H
                have c14b0 : decide (x36_2 < (l1.length : Int)) = false := decide_eq_false c14
                clear c14
                have HC21 := Aside0.mk H
                clear H
                go_upto_region 13 with (fail)
                go_cut [74] (fun v74 wc => ∃ (kq : Nat) (x74_20 : Bool), v74 = .bool x74_20 ∧ Aside0 (laws_FnUriParts.j2 kq a0 a2 a3 x9_2 x74_20 = some r) ∧ Aside0 (kq ≤ k2) ∧ Aside0 (Below w.heap.size w wc))
                case first =>
                  have H := HC21.out
                  clear HC21
                  replace H := Option.bind_eq_some_iff.mp H
                  obtain ⟨t700, A220, H⟩ := H
                  replace H : (if t700 = true then (if x9_2.toList = ([] : List UInt8) then (laws_FnUriParts.j2 k2 a0 a2 a3 x9_2 true) else ((laws_short.f k2 (([a0, x9_2, a2, a3] : List ByteArray))).bind fun t704 => (if t704 = true then ((laws_calm.f k2 (([a2, a3] : List ByteArray))).bind fun t708 => (if t708 = true then ((laws_holds.f k2 a2 35).bind fun t709 => (laws_FnUriParts.j2 k2 a0 a2 a3 x9_2 t709)) else (laws_FnUriParts.j2 k2 a0 a2 a3 x9_2 true))) else (laws_FnUriParts.j2 k2 a0 a2 a3 x9_2 true)))) else (laws_FnUriParts.j2 k2 a0 a2 a3 x9_2 true)) = some r := H
                  have A22 := Aside0.mk A220
                  clear A220
                  by_cases c23 : t700 = true
                  · subst c23
                    have H1 : (if x9_2.toList = ([] : List UInt8) then (laws_FnUriParts.j2 k2 a0 a2 a3 x9_2 true) else ((laws_short.f k2 (([a0, x9_2, a2, a3] : List ByteArray))).bind fun t704 => (if t704 = true then ((laws_calm.f k2 (([a2, a3] : List ByteArray))).bind fun t708 => (if t708 = true then ((laws_holds.f k2 a2 35).bind fun t709 => (laws_FnUriParts.j2 k2 a0 a2 a3 x9_2 t709)) else (laws_FnUriParts.j2 k2 a0 a2 a3 x9_2 true))) else (laws_FnUriParts.j2 k2 a0 a2 a3 x9_2 true)))) = some r := by rw [if_pos rfl] at H; exact H
                    clear H
                    have H := H1
                    clear H1
                    by_cases c24 : x9_2.toList = ([] : List UInt8)
                    · rw [if_pos c24] at H
                      have c24b0 : (x9_2.toList == ([] : List UInt8)) = true := beq_iff_eq.mpr c24
                      have c24b1 : (x9_2.toList != ([] : List UInt8)) = false := bne_eq_false_iff_eq.mpr c24
                      clear c24
                      (first | rw [c24b0] | (simp only [i64_w, i32_w]; rw [c24b0]) | (rw [Go.Proofs.YtbkeakeldegkeaaX.isEmpty_eq]; rw [c24b0]) | skip)
                      have H' := Aside0.mk H
                      clear H
                      go_wp2_with (first | ((with_reducible refine gate_callee (f := 13) rfl ?_); refine goesL_ (some 49) rfl rfl Try.func13 (by kernel_rfl) rfl #[.string a0] rfl (by (try simp only [List.map_toArray, List.map_cons, List.map_nil]); first | done | rfl | (simp only [List.length_drop, List.length_take]; rfl)) ?_; (with_reducible refine (laws_word.calls k2 a0 true _ A22.out).mono ?_); rintro e w' ⟨rfl, ⟨nd, rfl⟩⟩; refine ⟨_, rfl, ?_⟩))
                      go_meet
                      case rel => exact ⟨_, (true), (by first | rfl | (simp; done) | (simp [*]; done) | (simp [Go.Proofs.YtbkeakeldegkeaaX.isEmpty_ne]; done)), H', ⟨by have := HJ4.out; have := HK2.out; first | omega | exact Nat.le_refl _⟩, ⟨by repeat (first | (with_reducible first | exact HB.out | apply below_alloc | apply pw_below_drewN | apply below_drew1) | exact HB.out)⟩⟩
                    · rw [if_neg c24] at H
                      have c24b0 : (x9_2.toList == ([] : List UInt8)) = false := beq_eq_false_iff_ne.mpr c24
                      have c24b1 : (x9_2.toList != ([] : List UInt8)) = true := bne_iff_ne.mpr c24
                      (first | rw [c24b0] | (simp only [i64_w, i32_w]; rw [c24b0]) | (rw [Go.Proofs.YtbkeakeldegkeaaX.isEmpty_eq]; rw [c24b0]) | skip)
                      obtain ⟨y701, hy701⟩ : ∃ y_ : List ByteArray, y_ = (([a0, x9_2, a2, a3] : List ByteArray)) := ⟨_, rfl⟩
                      replace H : ((laws_short.f k2 y701).bind fun t704 => (if t704 = true then ((laws_calm.f k2 (([a2, a3] : List ByteArray))).bind fun t708 => (if t708 = true then ((laws_holds.f k2 a2 35).bind fun t709 => (laws_FnUriParts.j2 k2 a0 a2 a3 x9_2 t709)) else (laws_FnUriParts.j2 k2 a0 a2 a3 x9_2 true))) else (laws_FnUriParts.j2 k2 a0 a2 a3 x9_2 true))) = some r := by first | (rw [hy701]; with_reducible exact H) | (have H2_ := (Option.bind_some _ _).symm.trans H; rw [hy701]; with_reducible exact H2_) | (have H2_ := (Option.bind_some _ _).symm.trans H; with_reducible exact H2_) | with_reducible exact H | (rw [hy701]; exact H) | exact H
                      have Ny701 := Aside0.mk hy701
                      clear hy701
                      replace H := Option.bind_eq_some_iff.mp H
                      obtain ⟨t704, A250, H⟩ := H
                      replace H : (if t704 = true then ((laws_calm.f k2 (([a2, a3] : List ByteArray))).bind fun t708 => (if t708 = true then ((laws_holds.f k2 a2 35).bind fun t709 => (laws_FnUriParts.j2 k2 a0 a2 a3 x9_2 t709)) else (laws_FnUriParts.j2 k2 a0 a2 a3 x9_2 true))) else (laws_FnUriParts.j2 k2 a0 a2 a3 x9_2 true)) = some r := H
                      have A25 := Aside0.mk A250
                      clear A250
                      by_cases c26 : t704 = true
                      · subst c26
                        have H1 : ((laws_calm.f k2 (([a2, a3] : List ByteArray))).bind fun t708 => (if t708 = true then ((laws_holds.f k2 a2 35).bind fun t709 => (laws_FnUriParts.j2 k2 a0 a2 a3 x9_2 t709)) else (laws_FnUriParts.j2 k2 a0 a2 a3 x9_2 true))) = some r := by rw [if_pos rfl] at H; exact H
                        clear H
                        have H := H1
                        clear H1
                        obtain ⟨y705, hy705⟩ : ∃ y_ : List ByteArray, y_ = (([a2, a3] : List ByteArray)) := ⟨_, rfl⟩
                        replace H : ((laws_calm.f k2 y705).bind fun t708 => (if t708 = true then ((laws_holds.f k2 a2 35).bind fun t709 => (laws_FnUriParts.j2 k2 a0 a2 a3 x9_2 t709)) else (laws_FnUriParts.j2 k2 a0 a2 a3 x9_2 true))) = some r := by first | (rw [hy705]; with_reducible exact H) | (have H2_ := (Option.bind_some _ _).symm.trans H; rw [hy705]; with_reducible exact H2_) | (have H2_ := (Option.bind_some _ _).symm.trans H; with_reducible exact H2_) | with_reducible exact H | (rw [hy705]; exact H) | exact H
                        have Ny705 := Aside0.mk hy705
                        clear hy705
                        replace H := Option.bind_eq_some_iff.mp H
                        obtain ⟨t708, A270, H⟩ := H
                        replace H : (if t708 = true then ((laws_holds.f k2 a2 35).bind fun t709 => (laws_FnUriParts.j2 k2 a0 a2 a3 x9_2 t709)) else (laws_FnUriParts.j2 k2 a0 a2 a3 x9_2 true)) = some r := H
                        have A27 := Aside0.mk A270
                        clear A270
                        by_cases c28 : t708 = true
                        · subst c28
                          have H1 : ((laws_holds.f k2 a2 35).bind fun t709 => (laws_FnUriParts.j2 k2 a0 a2 a3 x9_2 t709)) = some r := by rw [if_pos rfl] at H; exact H
                          clear H
                          have H := H1
                          clear H1
                          replace H := Option.bind_eq_some_iff.mp H
                          obtain ⟨t709, A290, H⟩ := H
                          replace H : (laws_FnUriParts.j2 k2 a0 a2 a3 x9_2 t709) = some r := H
                          have A29 := Aside0.mk A290
                          clear A290
                          have H' := Aside0.mk H
                          clear H
                          go_wp2_with (first | ((with_reducible refine gate_callee (f := 13) rfl ?_); refine goesL_ (some 49) rfl rfl Try.func13 (by kernel_rfl) rfl #[.string a0] rfl (by (try simp only [List.map_toArray, List.map_cons, List.map_nil]); first | done | rfl | (simp only [List.length_drop, List.length_take]; rfl)) ?_; (with_reducible refine (laws_word.calls k2 a0 true _ A22.out).mono ?_); rintro e w' ⟨rfl, ⟨nd, rfl⟩⟩; refine ⟨_, rfl, ?_⟩) | ((with_reducible refine gate_dst (N := 60) rfl ?_); (try (refine gate_guard (by rfl) ?_; dsimp only)); refine Kd.R_lit Kd.string _ 9 ?hg (N := 60) ?hd (xs := ([a0, x9_2, a2, a3] : List ByteArray)) (inner := [.string a0, .string x9_2, .string a2, .string a3]) (ok := fun _ => True) (okp := fun _ => True) ?hr ?hp (fun _ hk => hk) trivial (Below.refl _ _) (Nat.le_refl _) (by simp) ?_; (case hd => rfl); (case hg => rfl); (case hr => first | (go_simp; done) | (go_simp; rfl)); (case hp => exact (Reps.one (show Kd.M Kd.string _ _ _ a0 [.string a0] from rfl) (Reps.one (show Kd.M Kd.string _ _ _ x9_2 [.string x9_2] from rfl) (Reps.one (show Kd.M Kd.string _ _ _ a2 [.string a2] from rfl) (Reps.one (show Kd.M Kd.string _ _ _ a3 [.string a3] from rfl) (Reps.none _ _)))))); intro v702 w30 ho31 hb hg_ hnew_; clear hg_ hnew_; (first | rw [← Ny701.out] at ho31 | (simp only [Int.reduceToNat] at ho31; rw [← Ny701.out] at ho31)); have n0_ := Aside0.mk (Kd.R_lower ho31 (below_size (by repeat (first | (with_reducible first | exact HB.out | apply below_alloc | apply pw_below_drewN | apply below_drew1) | exact HB.out)))); have n1_ := Aside0.mk (below_step (by repeat (first | (with_reducible first | exact HB.out | apply below_alloc | apply pw_below_drewN | apply below_drew1) | exact HB.out)) hb); clear HB; have HO703 := n0_; have HB := n1_; clear n0_ n1_; clear hb ho31; obtain ⟨Ao32, co32, eo32⟩ := Kd.R_slice HO703.out; subst eo32) | (go_at_call 14; (with_reducible refine (laws_short.calls k2 _ _ y701 true _ ?side1 ?side2 A25.out).mono ?_); (case side1 => repeat (first | exact (Kd.R_reads' HO703.out).2.2 | (with_reducible refine Kd.C_alloc ?_ _) | (with_reducible refine Kd.C_drewN ?_ _) | (with_reducible refine Kd.C_drew ?_))); (case side2 => exact (Kd.R_reads' HO703.out).2.1); rintro e w' ⟨rfl, ⟨nd, rfl⟩⟩) | ((with_reducible refine gate_dst (N := 67) rfl ?_); (try (refine gate_guard (by rfl) ?_; dsimp only)); refine Kd.R_lit Kd.string _ 9 ?hg (N := 67) ?hd (xs := ([a2, a3] : List ByteArray)) (inner := [.string a2, .string a3]) (ok := fun _ => True) (okp := fun _ => True) ?hr ?hp (fun _ hk => hk) trivial (Below.refl _ _) (Nat.le_refl _) (by simp) ?_; (case hd => rfl); (case hg => rfl); (case hr => first | (go_simp; done) | (go_simp; rfl)); (case hp => exact (Reps.one (show Kd.M Kd.string _ _ _ a2 [.string a2] from rfl) (Reps.one (show Kd.M Kd.string _ _ _ a3 [.string a3] from rfl) (Reps.none _ _)))); intro v706 w33 ho34 hb hg_ hnew_; clear hg_ hnew_; (first | rw [← Ny705.out] at ho34 | (simp only [Int.reduceToNat] at ho34; rw [← Ny705.out] at ho34)); have n0_ := Aside0.mk (Kd.R_elder' (by (with_reducible repeat (first | apply Kd.R_alloc | apply Kd.R_drewN | apply Kd.R_drew)); exact HO703.out) (Kd.R_base ho34) hb); have n1_ := Aside0.mk (Kd.R_lower (Kd.R_new' ho34 (Kd.R_lt (by (with_reducible repeat (first | apply Kd.R_alloc | apply Kd.R_drewN | apply Kd.R_drew)); exact HO703.out))) (below_size (by repeat (first | (with_reducible first | exact HB.out | apply below_alloc | apply pw_below_drewN | apply below_drew1) | exact HB.out)))); have n2_ := Aside0.mk (below_step (by repeat (first | (with_reducible first | exact HB.out | apply below_alloc | apply pw_below_drewN | apply below_drew1) | exact HB.out)) hb); clear HO703; clear HB; have HO703 := n0_; have HO707 := n1_; have HB := n2_; clear n0_ n1_ n2_; clear hb ho34; obtain ⟨Ao35, co35, eo35⟩ := Kd.R_slice HO707.out; subst eo35) | (go_at_call 15; (with_reducible refine (laws_calm.calls k2 _ _ y705 true _ ?side1 ?side2 A27.out).mono ?_); (case side1 => repeat (first | exact (Kd.R_reads' HO707.out).2.2 | (with_reducible refine Kd.C_alloc ?_ _) | (with_reducible refine Kd.C_drewN ?_ _) | (with_reducible refine Kd.C_drew ?_))); (case side2 => exact (Kd.R_reads' HO707.out).2.1); rintro e w' ⟨rfl, ⟨nd, rfl⟩⟩) | (go_at_call 20; (with_reducible refine (laws_holds.calls k2 a2 35 t709 _ A29.out).mono ?_); rintro e w' ⟨rfl, ⟨nd, rfl⟩⟩))
                          go_meet
                          case rel => exact ⟨_, (t709), (by first | rfl | (simp; done) | (simp [*]; done) | (simp [Go.Proofs.YtbkeakeldegkeaaX.isEmpty_ne]; done)), H', ⟨by have := HJ4.out; have := HK2.out; first | omega | exact Nat.le_refl _⟩, ⟨by repeat (first | (with_reducible first | exact HB.out | apply below_alloc | apply pw_below_drewN | apply below_drew1) | exact HB.out)⟩⟩
                        · replace c28 := Bool.eq_false_iff.mpr c28
                          subst c28
                          have H1 : (laws_FnUriParts.j2 k2 a0 a2 a3 x9_2 true) = some r := by rw [if_neg (show ¬ (false = true) by decide)] at H; exact H
                          clear H
                          have H := H1
                          clear H1
                          have H' := Aside0.mk H
                          clear H
                          go_wp2_with (first | ((with_reducible refine gate_callee (f := 13) rfl ?_); refine goesL_ (some 49) rfl rfl Try.func13 (by kernel_rfl) rfl #[.string a0] rfl (by (try simp only [List.map_toArray, List.map_cons, List.map_nil]); first | done | rfl | (simp only [List.length_drop, List.length_take]; rfl)) ?_; (with_reducible refine (laws_word.calls k2 a0 true _ A22.out).mono ?_); rintro e w' ⟨rfl, ⟨nd, rfl⟩⟩; refine ⟨_, rfl, ?_⟩) | ((with_reducible refine gate_dst (N := 60) rfl ?_); (try (refine gate_guard (by rfl) ?_; dsimp only)); refine Kd.R_lit Kd.string _ 9 ?hg (N := 60) ?hd (xs := ([a0, x9_2, a2, a3] : List ByteArray)) (inner := [.string a0, .string x9_2, .string a2, .string a3]) (ok := fun _ => True) (okp := fun _ => True) ?hr ?hp (fun _ hk => hk) trivial (Below.refl _ _) (Nat.le_refl _) (by simp) ?_; (case hd => rfl); (case hg => rfl); (case hr => first | (go_simp; done) | (go_simp; rfl)); (case hp => exact (Reps.one (show Kd.M Kd.string _ _ _ a0 [.string a0] from rfl) (Reps.one (show Kd.M Kd.string _ _ _ x9_2 [.string x9_2] from rfl) (Reps.one (show Kd.M Kd.string _ _ _ a2 [.string a2] from rfl) (Reps.one (show Kd.M Kd.string _ _ _ a3 [.string a3] from rfl) (Reps.none _ _)))))); intro v702 w36 ho37 hb hg_ hnew_; clear hg_ hnew_; (first | rw [← Ny701.out] at ho37 | (simp only [Int.reduceToNat] at ho37; rw [← Ny701.out] at ho37)); have n0_ := Aside0.mk (Kd.R_lower ho37 (below_size (by repeat (first | (with_reducible first | exact HB.out | apply below_alloc | apply pw_below_drewN | apply below_drew1) | exact HB.out)))); have n1_ := Aside0.mk (below_step (by repeat (first | (with_reducible first | exact HB.out | apply below_alloc | apply pw_below_drewN | apply below_drew1) | exact HB.out)) hb); clear HB; have HO703 := n0_; have HB := n1_; clear n0_ n1_; clear hb ho37; obtain ⟨Ao38, co38, eo38⟩ := Kd.R_slice HO703.out; subst eo38) | (go_at_call 14; (with_reducible refine (laws_short.calls k2 _ _ y701 true _ ?side1 ?side2 A25.out).mono ?_); (case side1 => repeat (first | exact (Kd.R_reads' HO703.out).2.2 | (with_reducible refine Kd.C_alloc ?_ _) | (with_reducible refine Kd.C_drewN ?_ _) | (with_reducible refine Kd.C_drew ?_))); (case side2 => exact (Kd.R_reads' HO703.out).2.1); rintro e w' ⟨rfl, ⟨nd, rfl⟩⟩) | ((with_reducible refine gate_dst (N := 67) rfl ?_); (try (refine gate_guard (by rfl) ?_; dsimp only)); refine Kd.R_lit Kd.string _ 9 ?hg (N := 67) ?hd (xs := ([a2, a3] : List ByteArray)) (inner := [.string a2, .string a3]) (ok := fun _ => True) (okp := fun _ => True) ?hr ?hp (fun _ hk => hk) trivial (Below.refl _ _) (Nat.le_refl _) (by simp) ?_; (case hd => rfl); (case hg => rfl); (case hr => first | (go_simp; done) | (go_simp; rfl)); (case hp => exact (Reps.one (show Kd.M Kd.string _ _ _ a2 [.string a2] from rfl) (Reps.one (show Kd.M Kd.string _ _ _ a3 [.string a3] from rfl) (Reps.none _ _)))); intro v706 w39 ho40 hb hg_ hnew_; clear hg_ hnew_; (first | rw [← Ny705.out] at ho40 | (simp only [Int.reduceToNat] at ho40; rw [← Ny705.out] at ho40)); have n0_ := Aside0.mk (Kd.R_elder' (by (with_reducible repeat (first | apply Kd.R_alloc | apply Kd.R_drewN | apply Kd.R_drew)); exact HO703.out) (Kd.R_base ho40) hb); have n1_ := Aside0.mk (Kd.R_lower (Kd.R_new' ho40 (Kd.R_lt (by (with_reducible repeat (first | apply Kd.R_alloc | apply Kd.R_drewN | apply Kd.R_drew)); exact HO703.out))) (below_size (by repeat (first | (with_reducible first | exact HB.out | apply below_alloc | apply pw_below_drewN | apply below_drew1) | exact HB.out)))); have n2_ := Aside0.mk (below_step (by repeat (first | (with_reducible first | exact HB.out | apply below_alloc | apply pw_below_drewN | apply below_drew1) | exact HB.out)) hb); clear HO703; clear HB; have HO703 := n0_; have HO707 := n1_; have HB := n2_; clear n0_ n1_ n2_; clear hb ho40; obtain ⟨Ao41, co41, eo41⟩ := Kd.R_slice HO707.out; subst eo41) | (go_at_call 15; (with_reducible refine (laws_calm.calls k2 _ _ y705 false _ ?side1 ?side2 A27.out).mono ?_); (case side1 => repeat (first | exact (Kd.R_reads' HO707.out).2.2 | (with_reducible refine Kd.C_alloc ?_ _) | (with_reducible refine Kd.C_drewN ?_ _) | (with_reducible refine Kd.C_drew ?_))); (case side2 => exact (Kd.R_reads' HO707.out).2.1); rintro e w' ⟨rfl, ⟨nd, rfl⟩⟩))
                          go_meet
                          case rel => exact ⟨_, (true), (by first | rfl | (simp; done) | (simp [*]; done) | (simp [Go.Proofs.YtbkeakeldegkeaaX.isEmpty_ne]; done)), H', ⟨by have := HJ4.out; have := HK2.out; first | omega | exact Nat.le_refl _⟩, ⟨by repeat (first | (with_reducible first | exact HB.out | apply below_alloc | apply pw_below_drewN | apply below_drew1) | exact HB.out)⟩⟩
                      · replace c26 := Bool.eq_false_iff.mpr c26
                        subst c26
                        have H1 : (laws_FnUriParts.j2 k2 a0 a2 a3 x9_2 true) = some r := by rw [if_neg (show ¬ (false = true) by decide)] at H; exact H
                        clear H
                        have H := H1
                        clear H1
                        have H' := Aside0.mk H
                        clear H
                        go_wp2_with (first | ((with_reducible refine gate_callee (f := 13) rfl ?_); refine goesL_ (some 49) rfl rfl Try.func13 (by kernel_rfl) rfl #[.string a0] rfl (by (try simp only [List.map_toArray, List.map_cons, List.map_nil]); first | done | rfl | (simp only [List.length_drop, List.length_take]; rfl)) ?_; (with_reducible refine (laws_word.calls k2 a0 true _ A22.out).mono ?_); rintro e w' ⟨rfl, ⟨nd, rfl⟩⟩; refine ⟨_, rfl, ?_⟩) | ((with_reducible refine gate_dst (N := 60) rfl ?_); (try (refine gate_guard (by rfl) ?_; dsimp only)); refine Kd.R_lit Kd.string _ 9 ?hg (N := 60) ?hd (xs := ([a0, x9_2, a2, a3] : List ByteArray)) (inner := [.string a0, .string x9_2, .string a2, .string a3]) (ok := fun _ => True) (okp := fun _ => True) ?hr ?hp (fun _ hk => hk) trivial (Below.refl _ _) (Nat.le_refl _) (by simp) ?_; (case hd => rfl); (case hg => rfl); (case hr => first | (go_simp; done) | (go_simp; rfl)); (case hp => exact (Reps.one (show Kd.M Kd.string _ _ _ a0 [.string a0] from rfl) (Reps.one (show Kd.M Kd.string _ _ _ x9_2 [.string x9_2] from rfl) (Reps.one (show Kd.M Kd.string _ _ _ a2 [.string a2] from rfl) (Reps.one (show Kd.M Kd.string _ _ _ a3 [.string a3] from rfl) (Reps.none _ _)))))); intro v702 w42 ho43 hb hg_ hnew_; clear hg_ hnew_; (first | rw [← Ny701.out] at ho43 | (simp only [Int.reduceToNat] at ho43; rw [← Ny701.out] at ho43)); have n0_ := Aside0.mk (Kd.R_lower ho43 (below_size (by repeat (first | (with_reducible first | exact HB.out | apply below_alloc | apply pw_below_drewN | apply below_drew1) | exact HB.out)))); have n1_ := Aside0.mk (below_step (by repeat (first | (with_reducible first | exact HB.out | apply below_alloc | apply pw_below_drewN | apply below_drew1) | exact HB.out)) hb); clear HB; have HO703 := n0_; have HB := n1_; clear n0_ n1_; clear hb ho43; obtain ⟨Ao44, co44, eo44⟩ := Kd.R_slice HO703.out; subst eo44) | (go_at_call 14; (with_reducible refine (laws_short.calls k2 _ _ y701 false _ ?side1 ?side2 A25.out).mono ?_); (case side1 => repeat (first | exact (Kd.R_reads' HO703.out).2.2 | (with_reducible refine Kd.C_alloc ?_ _) | (with_reducible refine Kd.C_drewN ?_ _) | (with_reducible refine Kd.C_drew ?_))); (case side2 => exact (Kd.R_reads' HO703.out).2.1); rintro e w' ⟨rfl, ⟨nd, rfl⟩⟩))
                        go_meet
                        case rel => exact ⟨_, (true), (by first | rfl | (simp; done) | (simp [*]; done) | (simp [Go.Proofs.YtbkeakeldegkeaaX.isEmpty_ne]; done)), H', ⟨by have := HJ4.out; have := HK2.out; first | omega | exact Nat.le_refl _⟩, ⟨by repeat (first | (with_reducible first | exact HB.out | apply below_alloc | apply pw_below_drewN | apply below_drew1) | exact HB.out)⟩⟩
                  · replace c23 := Bool.eq_false_iff.mpr c23
                    subst c23
                    have H1 : (laws_FnUriParts.j2 k2 a0 a2 a3 x9_2 true) = some r := by rw [if_neg (show ¬ (false = true) by decide)] at H; exact H
                    clear H
                    have H := H1
                    clear H1
                    have H' := Aside0.mk H
                    clear H
                    go_wp2_with (first | ((with_reducible refine gate_callee (f := 13) rfl ?_); refine goesL_ (some 49) rfl rfl Try.func13 (by kernel_rfl) rfl #[.string a0] rfl (by (try simp only [List.map_toArray, List.map_cons, List.map_nil]); first | done | rfl | (simp only [List.length_drop, List.length_take]; rfl)) ?_; (with_reducible refine (laws_word.calls k2 a0 false _ A22.out).mono ?_); rintro e w' ⟨rfl, ⟨nd, rfl⟩⟩; refine ⟨_, rfl, ?_⟩))
                    go_meet
                    case rel => exact ⟨_, (true), (by first | rfl | (simp; done) | (simp [*]; done) | (simp [Go.Proofs.YtbkeakeldegkeaaX.isEmpty_ne]; done)), H', ⟨by have := HJ4.out; have := HK2.out; first | omega | exact Nat.le_refl _⟩, ⟨by repeat (first | (with_reducible first | exact HB.out | apply below_alloc | apply pw_below_drewN | apply below_drew1) | exact HB.out)⟩⟩
                case rest =>
                  clear HC21
                  try clear c1
                  try clear c2
                  try clear p2
                  try clear c4
                  try clear c6
                  try clear c6b0
                  try clear c6b1
                  try clear p6
                  try clear q6
                  try clear hx6
                  try clear c8
                  try clear c9
                  try clear c9b0
                  try clear c9b1
                  try clear c10
                  try clear c12
                  try clear c13
                  try clear c14
                  try clear c14b0
                  try clear c15
                  try clear c15b0
                  try clear c16
                  try clear c16b0
                  try clear c18
                  try clear c19
                  try clear c19b0
                  try clear c19b1
                  try clear c19b2
                  try clear c20
                  try clear c20b0
                  try clear c20b1
                  try clear c20b2
                  try clear c23
                  try clear c24
                  try clear c24b0
                  try clear c24b1
                  try clear c26
                  try clear c28
                  try clear hx698_0
                  try clear p2
                  try clear p698
                  try clear q698
                  obtain ⟨kq, x74_20, rfl, HA, HJ20, HB⟩ := hcut
                  cases kq with
                  | zero => exact absurd HA.out (by simp [laws_FnUriParts.j2])
                  | succ kj20 =>
                    have H := HA.out
                    clear HA
                    simp only [laws_FnUriParts.j2] at H
                    by_cases c45 : x74_20 = true
                    · subst c45
                      have H1 : (some true) = some r := by rw [if_pos rfl] at H; exact H
                      clear H
                      have H := H1
                      clear H1
                      obtain rfl := Option.some.inj H
                      go_wp2
                      go_ret
                      exact ⟨by first | rfl | (simp [errW_none, errW_some] <;> rfl) | (simp [*, errW_none, errW_some] <;> rfl), by repeat (first | (with_reducible first | exact HB.out | apply below_alloc | apply pw_below_drewN | apply below_drew1) | exact HB.out)⟩
                    · replace c45 := Bool.eq_false_iff.mpr c45
                      subst c45
                      have H1 : (if 7 + a0.size ≤ 9223372036854775807 then (if 7 + a0.size + x9_2.size ≤ 9223372036854775807 then (if 7 + a0.size + x9_2.size + 1 ≤ 9223372036854775807 then (if 7 + a0.size + x9_2.size + 1 + a2.size ≤ 9223372036854775807 then (if 7 + a0.size + x9_2.size + 1 + a2.size + 1 ≤ 9223372036854775807 then (if 7 + a0.size + x9_2.size + 1 + a2.size + 1 + a3.size ≤ 9223372036854775807 then ((impl_UriOf.f (⟨#[]⟩ : ByteArray) (((((((⟨#[104, 116, 116, 112, 58, 47, 47]⟩ : ByteArray) ++ a0) ++ x9_2) ++ (⟨#[63]⟩ : ByteArray)) ++ a2) ++ (⟨#[35]⟩ : ByteArray)) ++ a3)).bind fun bt710 => (if bt710.2.2.2.2.2.2.2.2 = true then (if bt710.1.toList = ([104, 116, 116, 112] : List UInt8) then ((laws_low.f a0).bind fun t720 => (if bt710.2.1.toList = t720.toList then (if bt710.2.2.1.toList = x9_2.toList then (if bt710.2.2.2.1.toList = x9_2.toList then (if bt710.2.2.2.2.1.toList = a2.toList then (if bt710.2.2.2.2.2.1.toList = a3.toList then (if bt710.2.2.2.2.2.2.1.toList = ([] : List UInt8) then (some (bt710.2.2.2.2.2.2.2.1.toList == ([] : List UInt8))) else (none)) else (none)) else (none)) else (none)) else (none)) else (none))) else (none)) else (none))) else (none)) else (none)) else (none)) else (none)) else (none)) else (none)) = some r := by rw [if_neg (show ¬ (false = true) by decide)] at H; exact H
                      clear H
                      have H := H1
                      clear H1
                      by_cases c46 : 7 + a0.size ≤ 9223372036854775807
                      · rw [if_pos c46] at H
                        have c46b0 := eq_true c46
                        have c46b1 : decide (7 + a0.size ≤ 9223372036854775807) = true := decide_eq_true c46
                        try have c46b2 : (9223372036854775807 < 7 + a0.size) = False := eq_false (Nat.not_lt.2 c46)
                        by_cases c47 : 7 + a0.size + x9_2.size ≤ 9223372036854775807
                        · rw [if_pos c47] at H
                          have c47b0 := eq_true c47
                          have c47b1 : decide (7 + a0.size + x9_2.size ≤ 9223372036854775807) = true := decide_eq_true c47
                          try have c47b2 : (9223372036854775807 < 7 + a0.size + x9_2.size) = False := eq_false (Nat.not_lt.2 c47)
                          by_cases c48 : 7 + a0.size + x9_2.size + 1 ≤ 9223372036854775807
                          · rw [if_pos c48] at H
                            have c48b0 := eq_true c48
                            have c48b1 : decide (7 + a0.size + x9_2.size + 1 ≤ 9223372036854775807) = true := decide_eq_true c48
                            try have c48b2 : (9223372036854775807 < 7 + a0.size + x9_2.size + 1) = False := eq_false (Nat.not_lt.2 c48)
                            by_cases c49 : 7 + a0.size + x9_2.size + 1 + a2.size ≤ 9223372036854775807
                            · rw [if_pos c49] at H
                              have c49b0 := eq_true c49
                              have c49b1 : decide (7 + a0.size + x9_2.size + 1 + a2.size ≤ 9223372036854775807) = true := decide_eq_true c49
                              try have c49b2 : (9223372036854775807 < 7 + a0.size + x9_2.size + 1 + a2.size) = False := eq_false (Nat.not_lt.2 c49)
                              by_cases c50 : 7 + a0.size + x9_2.size + 1 + a2.size + 1 ≤ 9223372036854775807
                              · rw [if_pos c50] at H
                                have c50b0 := eq_true c50
                                have c50b1 : decide (7 + a0.size + x9_2.size + 1 + a2.size + 1 ≤ 9223372036854775807) = true := decide_eq_true c50
                                try have c50b2 : (9223372036854775807 < 7 + a0.size + x9_2.size + 1 + a2.size + 1) = False := eq_false (Nat.not_lt.2 c50)
                                by_cases c51 : 7 + a0.size + x9_2.size + 1 + a2.size + 1 + a3.size ≤ 9223372036854775807
                                · rw [if_pos c51] at H
                                  have c51b0 := eq_true c51
                                  have c51b1 : decide (7 + a0.size + x9_2.size + 1 + a2.size + 1 + a3.size ≤ 9223372036854775807) = true := decide_eq_true c51
                                  try have c51b2 : (9223372036854775807 < 7 + a0.size + x9_2.size + 1 + a2.size + 1 + a3.size) = False := eq_false (Nat.not_lt.2 c51)
                                  replace H := Option.bind_eq_some_iff.mp H
                                  obtain ⟨⟨t710, t711, t712, t713, t714, t715, t716, t717, t718⟩, A520, H⟩ := H
                                  replace H : (if t718 = true then (if t710.toList = ([104, 116, 116, 112] : List UInt8) then ((laws_low.f a0).bind fun t720 => (if t711.toList = t720.toList then (if t712.toList = x9_2.toList then (if t713.toList = x9_2.toList then (if t714.toList = a2.toList then (if t715.toList = a3.toList then (if t716.toList = ([] : List UInt8) then (some (t717.toList == ([] : List UInt8))) else (none)) else (none)) else (none)) else (none)) else (none)) else (none))) else (none)) else (none)) = some r := H
                                  have A52 := Aside0.mk A520
                                  clear A520
                                  by_cases c53 : t718 = true
                                  · subst c53
                                    have H1 : (if t710.toList = ([104, 116, 116, 112] : List UInt8) then ((laws_low.f a0).bind fun t720 => (if t711.toList = t720.toList then (if t712.toList = x9_2.toList then (if t713.toList = x9_2.toList then (if t714.toList = a2.toList then (if t715.toList = a3.toList then (if t716.toList = ([] : List UInt8) then (some (t717.toList == ([] : List UInt8))) else (none)) else (none)) else (none)) else (none)) else (none)) else (none))) else (none)) = some r := by rw [if_pos rfl] at H; exact H
                                    clear H
                                    have H := H1
                                    clear H1
                                    by_cases c54 : t710.toList = ([104, 116, 116, 112] : List UInt8)
                                    · rw [if_pos c54] at H
                                      have c54b0 : (t710.toList == ([104, 116, 116, 112] : List UInt8)) = true := beq_iff_eq.mpr c54
                                      have c54b1 : (t710.toList != ([104, 116, 116, 112] : List UInt8)) = false := bne_eq_false_iff_eq.mpr c54
                                      clear c54
                                      replace H := Option.bind_eq_some_iff.mp H
                                      obtain ⟨t720, A550, H⟩ := H
                                      replace H : (if t711.toList = t720.toList then (if t712.toList = x9_2.toList then (if t713.toList = x9_2.toList then (if t714.toList = a2.toList then (if t715.toList = a3.toList then (if t716.toList = ([] : List UInt8) then (some (t717.toList == ([] : List UInt8))) else (none)) else (none)) else (none)) else (none)) else (none)) else (none)) = some r := H
                                      have A55 := Aside0.mk A550
                                      clear A550
                                      by_cases c56 : t711.toList = t720.toList
                                      · rw [if_pos c56] at H
                                        have c56b0 : (t711.toList == t720.toList) = true := beq_iff_eq.mpr c56
                                        have c56b1 : (t711.toList != t720.toList) = false := bne_eq_false_iff_eq.mpr c56
                                        clear c56
                                        by_cases c57 : t712.toList = x9_2.toList
                                        · rw [if_pos c57] at H
                                          have c57b0 : (t712.toList == x9_2.toList) = true := beq_iff_eq.mpr c57
                                          have c57b1 : (t712.toList != x9_2.toList) = false := bne_eq_false_iff_eq.mpr c57
                                          clear c57
                                          by_cases c58 : t713.toList = x9_2.toList
                                          · rw [if_pos c58] at H
                                            have c58b0 : (t713.toList == x9_2.toList) = true := beq_iff_eq.mpr c58
                                            have c58b1 : (t713.toList != x9_2.toList) = false := bne_eq_false_iff_eq.mpr c58
                                            clear c58
                                            by_cases c59 : t714.toList = a2.toList
                                            · rw [if_pos c59] at H
                                              have c59b0 : (t714.toList == a2.toList) = true := beq_iff_eq.mpr c59
                                              have c59b1 : (t714.toList != a2.toList) = false := bne_eq_false_iff_eq.mpr c59
                                              clear c59
                                              by_cases c60 : t715.toList = a3.toList
                                              · rw [if_pos c60] at H
                                                have c60b0 : (t715.toList == a3.toList) = true := beq_iff_eq.mpr c60
                                                have c60b1 : (t715.toList != a3.toList) = false := bne_eq_false_iff_eq.mpr c60
                                                clear c60
                                                by_cases c61 : t716.toList = ([] : List UInt8)
                                                · rw [if_pos c61] at H
                                                  have c61b0 : (t716.toList == ([] : List UInt8)) = true := beq_iff_eq.mpr c61
                                                  have c61b1 : (t716.toList != ([] : List UInt8)) = false := bne_eq_false_iff_eq.mpr c61
                                                  clear c61
                                                  obtain rfl := Option.some.inj H
                                                  try go_wp2_with (first | ((with_reducible refine gate_callee (f := 18) rfl ?_); refine goesL_ (some 86) rfl rfl Try.func18 (by kernel_rfl) rfl #[.string (⟨#[]⟩ : ByteArray), .string (((((((⟨#[104, 116, 116, 112, 58, 47, 47]⟩ : ByteArray) ++ a0) ++ x9_2) ++ (⟨#[63]⟩ : ByteArray)) ++ a2) ++ (⟨#[35]⟩ : ByteArray)) ++ a3)] rfl (by (try simp only [List.map_toArray, List.map_cons, List.map_nil]); first | done | rfl | (simp only [List.length_drop, List.length_take]; rfl)) ?_; (with_reducible refine (impl_UriOf.calls (⟨#[]⟩ : ByteArray) (((((((⟨#[104, 116, 116, 112, 58, 47, 47]⟩ : ByteArray) ++ a0) ++ x9_2) ++ (⟨#[63]⟩ : ByteArray)) ++ a2) ++ (⟨#[35]⟩ : ByteArray)) ++ a3) t710 t711 t712 t713 t714 t715 t716 t717 true _ A52.out).mono ?_); rintro e w62 ⟨rfl, hb⟩; refine ⟨_, rfl, ?_⟩; have n0_ := Aside0.mk (below_step (by repeat (first | (with_reducible first | exact HB.out | apply below_alloc | apply pw_below_drewN | apply below_drew1) | exact HB.out)) hb); clear HB; have HB := n0_; clear n0_; (try clear hb); (try clear hb2); (try clear hk); (try clear hi)) | ((with_reducible refine gate_dst (N := 12) rfl ?_); (try (refine gate_guard (by rfl) ?_; dsimp only)); refine box_event ?hg (N := 12) ?hd (cs := #[.string (⟨#[]⟩ : ByteArray), .string (⟨#[]⟩ : ByteArray), .string (⟨#[]⟩ : ByteArray), .string (⟨#[]⟩ : ByteArray), .string (⟨#[]⟩ : ByteArray), .string (⟨#[]⟩ : ByteArray), .string (⟨#[]⟩ : ByteArray), .string (⟨#[]⟩ : ByteArray)]) (t := 27) ?hr ?_; (case hd => rfl); (case hg => rfl); (case hr => first | (go_simp; done) | (go_simp; rfl)); intro gb719 hg w63 hbox hb; have n0_ := Aside0.mk (below_step (by repeat (first | (with_reducible first | exact HB.out | apply below_alloc | apply pw_below_drewN | apply below_drew1) | exact HB.out)) hb); have n1_ := Aside0.mk (hbox); have n2_ := Aside0.mk ((by rw [hg]; exact (below_size (by repeat (first | (with_reducible first | exact HB.out | apply below_alloc | apply pw_below_drewN | apply below_drew1) | exact HB.out))) : w.heap.size ≤ gb719)); have n3_ := Aside0.mk ((by rw [hg]; exact (below_size (by repeat (first | (with_reducible first | exact HB.out | apply below_alloc | apply pw_below_drewN | apply below_drew1) | exact HB.out))) : w.heap.size ≤ gb719)); clear HB; have HB := n0_; have BK719 := n1_; have GW719 := n2_; have GE719 := n3_; clear n0_ n1_ n2_ n3_; clear hb hbox hg; have hcz64_0 : w63.cell? ⟨gb719, 0, none⟩ = some (.string (⟨#[]⟩ : ByteArray)) := (blk_cell BK719.out 0).trans rfl; have hcz64_1 : w63.cell? ⟨gb719, 1, none⟩ = some (.string (⟨#[]⟩ : ByteArray)) := (blk_cell BK719.out 1).trans rfl; have hcz64_2 : w63.cell? ⟨gb719, 2, none⟩ = some (.string (⟨#[]⟩ : ByteArray)) := (blk_cell BK719.out 2).trans rfl; have hcz64_3 : w63.cell? ⟨gb719, 3, none⟩ = some (.string (⟨#[]⟩ : ByteArray)) := (blk_cell BK719.out 3).trans rfl; have hcz64_4 : w63.cell? ⟨gb719, 4, none⟩ = some (.string (⟨#[]⟩ : ByteArray)) := (blk_cell BK719.out 4).trans rfl; have hcz64_5 : w63.cell? ⟨gb719, 5, none⟩ = some (.string (⟨#[]⟩ : ByteArray)) := (blk_cell BK719.out 5).trans rfl; have hcz64_6 : w63.cell? ⟨gb719, 6, none⟩ = some (.string (⟨#[]⟩ : ByteArray)) := (blk_cell BK719.out 6).trans rfl; have hcz64_7 : w63.cell? ⟨gb719, 7, none⟩ = some (.string (⟨#[]⟩ : ByteArray)) := (blk_cell BK719.out 7).trans rfl; have hfz64_0 := blk_frozen BK719.out 0; have hfz64_1 := blk_frozen BK719.out 1; have hfz64_2 := blk_frozen BK719.out 2; have hfz64_3 := blk_frozen BK719.out 3; have hfz64_4 := blk_frozen BK719.out 4; have hfz64_5 := blk_frozen BK719.out 5; have hfz64_6 := blk_frozen BK719.out 6; have hfz64_7 := blk_frozen BK719.out 7))
                                                  have n0_ : Aside0 (((((((((w63.setCell ⟨gb719, 0, none⟩ (.string t710)).setCell ⟨gb719, 1, none⟩ (.string t711)).setCell ⟨gb719, 2, none⟩ (.string t712)).setCell ⟨gb719, 3, none⟩ (.string t713)).setCell ⟨gb719, 4, none⟩ (.string t714)).setCell ⟨gb719, 5, none⟩ (.string t715)).setCell ⟨gb719, 6, none⟩ (.string t716)).setCell ⟨gb719, 7, none⟩ (.string t717)).heap[gb719]? = some (.cells #[.string t710, .string t711, .string t712, .string t713, .string t714, .string t715, .string t716, .string t717] 27 (0, 0))) := ⟨by (with_reducible repeat (first | refine blk_drewN ?_ _ | refine blk_drew ?_ | refine blk_alloc ?_ _)); refine blk_put (cs := #[.string t710, .string t711, .string t712, .string t713, .string t714, .string t715, .string t716, .string (⟨#[]⟩ : ByteArray)]) ?_ 7 _ rfl; (with_reducible repeat (first | refine blk_drewN ?_ _ | refine blk_drew ?_ | refine blk_alloc ?_ _)); refine blk_put (cs := #[.string t710, .string t711, .string t712, .string t713, .string t714, .string t715, .string (⟨#[]⟩ : ByteArray), .string (⟨#[]⟩ : ByteArray)]) ?_ 6 _ rfl; (with_reducible repeat (first | refine blk_drewN ?_ _ | refine blk_drew ?_ | refine blk_alloc ?_ _)); refine blk_put (cs := #[.string t710, .string t711, .string t712, .string t713, .string t714, .string (⟨#[]⟩ : ByteArray), .string (⟨#[]⟩ : ByteArray), .string (⟨#[]⟩ : ByteArray)]) ?_ 5 _ rfl; (with_reducible repeat (first | refine blk_drewN ?_ _ | refine blk_drew ?_ | refine blk_alloc ?_ _)); refine blk_put (cs := #[.string t710, .string t711, .string t712, .string t713, .string (⟨#[]⟩ : ByteArray), .string (⟨#[]⟩ : ByteArray), .string (⟨#[]⟩ : ByteArray), .string (⟨#[]⟩ : ByteArray)]) ?_ 4 _ rfl; (with_reducible repeat (first | refine blk_drewN ?_ _ | refine blk_drew ?_ | refine blk_alloc ?_ _)); refine blk_put (cs := #[.string t710, .string t711, .string t712, .string (⟨#[]⟩ : ByteArray), .string (⟨#[]⟩ : ByteArray), .string (⟨#[]⟩ : ByteArray), .string (⟨#[]⟩ : ByteArray), .string (⟨#[]⟩ : ByteArray)]) ?_ 3 _ rfl; (with_reducible repeat (first | refine blk_drewN ?_ _ | refine blk_drew ?_ | refine blk_alloc ?_ _)); refine blk_put (cs := #[.string t710, .string t711, .string (⟨#[]⟩ : ByteArray), .string (⟨#[]⟩ : ByteArray), .string (⟨#[]⟩ : ByteArray), .string (⟨#[]⟩ : ByteArray), .string (⟨#[]⟩ : ByteArray), .string (⟨#[]⟩ : ByteArray)]) ?_ 2 _ rfl; (with_reducible repeat (first | refine blk_drewN ?_ _ | refine blk_drew ?_ | refine blk_alloc ?_ _)); refine blk_put (cs := #[.string t710, .string (⟨#[]⟩ : ByteArray), .string (⟨#[]⟩ : ByteArray), .string (⟨#[]⟩ : ByteArray), .string (⟨#[]⟩ : ByteArray), .string (⟨#[]⟩ : ByteArray), .string (⟨#[]⟩ : ByteArray), .string (⟨#[]⟩ : ByteArray)]) ?_ 1 _ rfl; (with_reducible repeat (first | refine blk_drewN ?_ _ | refine blk_drew ?_ | refine blk_alloc ?_ _)); refine blk_put (cs := #[.string (⟨#[]⟩ : ByteArray), .string (⟨#[]⟩ : ByteArray), .string (⟨#[]⟩ : ByteArray), .string (⟨#[]⟩ : ByteArray), .string (⟨#[]⟩ : ByteArray), .string (⟨#[]⟩ : ByteArray), .string (⟨#[]⟩ : ByteArray), .string (⟨#[]⟩ : ByteArray)]) ?_ 0 _ rfl; (with_reducible repeat (first | refine blk_drewN ?_ _ | refine blk_drew ?_ | refine blk_alloc ?_ _)); exact BK719.out⟩
                                                  have n1_ : Aside0 (Below w.heap.size w ((((((((w63.setCell ⟨gb719, 0, none⟩ (.string t710)).setCell ⟨gb719, 1, none⟩ (.string t711)).setCell ⟨gb719, 2, none⟩ (.string t712)).setCell ⟨gb719, 3, none⟩ (.string t713)).setCell ⟨gb719, 4, none⟩ (.string t714)).setCell ⟨gb719, 5, none⟩ (.string t715)).setCell ⟨gb719, 6, none⟩ (.string t716)).setCell ⟨gb719, 7, none⟩ (.string t717))) := ⟨by repeat (first | (with_reducible first | exact HB.out | apply below_alloc | apply pw_below_drewN | apply below_drew1 | refine below_set ?_ GE719.out) | exact HB.out)⟩
                                                  (try clear BK719)
                                                  (try clear HB)
                                                  generalize ((((((((w63.setCell ⟨gb719, 0, none⟩ (.string t710)).setCell ⟨gb719, 1, none⟩ (.string t711)).setCell ⟨gb719, 2, none⟩ (.string t712)).setCell ⟨gb719, 3, none⟩ (.string t713)).setCell ⟨gb719, 4, none⟩ (.string t714)).setCell ⟨gb719, 5, none⟩ (.string t715)).setCell ⟨gb719, 6, none⟩ (.string t716)).setCell ⟨gb719, 7, none⟩ (.string t717)) = w65 at n0_ n1_ ⊢
                                                  have BK719 := n0_
                                                  have HB := n1_
                                                  clear n0_ n1_
                                                  have n0_ := Aside0.mk (blk_drew BK719.out)
                                                  have n1_ := Aside0.mk (below_drew1 HB.out)
                                                  clear BK719
                                                  clear HB
                                                  have BK719 := n0_
                                                  have HB := n1_
                                                  clear n0_ n1_
                                                  refine start_ (n := 48) (S := fun w' => w'.cell? ⟨gb719, 0, none⟩ = some (.string t710) ∧ w'.cell? ⟨gb719, 1, none⟩ = some (.string t711) ∧ w'.cell? ⟨gb719, 2, none⟩ = some (.string t712) ∧ w'.cell? ⟨gb719, 3, none⟩ = some (.string t713) ∧ w'.cell? ⟨gb719, 4, none⟩ = some (.string t714) ∧ w'.cell? ⟨gb719, 5, none⟩ = some (.string t715) ∧ w'.cell? ⟨gb719, 6, none⟩ = some (.string t716) ∧ w'.cell? ⟨gb719, 7, none⟩ = some (.string t717)) (ds := []) #[false, false, false, false, false, false, false, false, false, false, false, false, false, false, false, false, false, false, false, false, false, false, false, false, false, false, false, false, false, false, false, false, false, false, false, false, false, false, false, false, false, false, false, false, false, false, false, false] (by kernel_rfl) rfl rfl ⟨(blk_cell BK719.out 0).trans rfl, (blk_cell BK719.out 1).trans rfl, (blk_cell BK719.out 2).trans rfl, (blk_cell BK719.out 3).trans rfl, (blk_cell BK719.out 4).trans rfl, (blk_cell BK719.out 5).trans rfl, (blk_cell BK719.out 6).trans rfl, (blk_cell BK719.out 7).trans rfl⟩ (fun hHeld => ?_); refine with_tabW laws_FnUriParts.tab16 laws_FnUriParts.bits16 (fun HT_ HW_ => ?_)
                                                  generalize w65.drew = w66 at BK719 HB hHeld ⊢
                                                  refine pure_ (i := 0) (N := some 89) (v := ?_) (a' := ?_) #[true, false, false, false, false, false, false, false, false, false, false, false, false, false, false, false, false, false, false, false, false, false, false, false, false, false, false, false, false, false, false, false, false, false, false, false, false, false, false, false, false, false, false, false, false, false, false, false] rfl rfl (any_of HT_.out (by kernel_rfl)) (fun _ _ _ h => h) (Or.inl ⟨by rfl, ?_⟩) ?_ ?_
                                                  rotate_left
                                                  · intro w'
                                                    go_simp
                                                    with_reducible rfl
                                                  rotate_left
                                                  · simp only [Act.put, List.setIfInBounds_toArray, List.set_cons_zero, List.set_cons_succ, i64_w, i32_w]
                                                    rfl
                                                  refine pure_ (i := 1) (N := some 90) (v := ?_) (a' := ?_) #[true, true, false, false, false, false, false, false, false, false, false, false, false, false, false, false, false, false, false, false, false, false, false, false, false, false, false, false, false, false, false, false, false, false, false, false, false, false, false, false, false, false, false, false, false, false, false, false] rfl rfl (any_of HT_.out (by kernel_rfl)) (fun _ _ _ h => h) (Or.inl ⟨by rfl, ?_⟩) ?_ ?_
                                                  rotate_left
                                                  · intro w'
                                                    go_simp
                                                    with_reducible rfl
                                                  rotate_left
                                                  · simp only [Act.put, List.setIfInBounds_toArray, List.set_cons_zero, List.set_cons_succ, i64_w, i32_w]
                                                    rfl
                                                  refine pure_ (i := 2) (N := some 91) (v := ?_) (a' := ?_) #[true, true, true, false, false, false, false, false, false, false, false, false, false, false, false, false, false, false, false, false, false, false, false, false, false, false, false, false, false, false, false, false, false, false, false, false, false, false, false, false, false, false, false, false, false, false, false, false] rfl rfl (any_of HT_.out (by kernel_rfl)) (fun _ _ _ h => h) (Or.inl ⟨by rfl, ?_⟩) ?_ ?_
                                                  rotate_left
                                                  · intro w'
                                                    go_simp
                                                    with_reducible rfl
                                                  rotate_left
                                                  · simp only [Act.put, List.setIfInBounds_toArray, List.set_cons_zero, List.set_cons_succ, i64_w, i32_w]
                                                    rfl
                                                  refine take_ (i := 3) (N := some 92) (v := ?_) (a' := ?_) #[true, true, true, true, false, false, false, false, false, false, false, false, false, false, false, false, false, false, false, false, false, false, false, false, false, false, false, false, false, false, false, false, false, false, false, false, false, false, false, false, false, false, false, false, false, false, false, false] rfl rfl (take_ofW HT_.out HW_.out (by kernel_rfl)) (fun _ _ _ h => h) (Or.inl ⟨by rfl, ?_⟩) hHeld ?_ ?_
                                                  rotate_left
                                                  · rintro w' ⟨s0, s1, s2, s3, s4, s5, s6, s7⟩
                                                    go_simp
                                                    with_reducible rfl
                                                  rotate_left
                                                  · simp only [Act.put, List.setIfInBounds_toArray, List.set_cons_zero, List.set_cons_succ, i64_w, i32_w]
                                                    rfl
                                                  refine pure_ (i := 4) (N := some 93) (v := ?_) (a' := ?_) #[true, true, true, true, true, false, false, false, false, false, false, false, false, false, false, false, false, false, false, false, false, false, false, false, false, false, false, false, false, false, false, false, false, false, false, false, false, false, false, false, false, false, false, false, false, false, false, false] rfl rfl (any_of HT_.out (by kernel_rfl)) (fun _ _ _ h => h) (Or.inl ⟨by rfl, ?_⟩) ?_ ?_
                                                  rotate_left
                                                  · intro w'
                                                    go_simp
                                                    with_reducible rfl
                                                  rotate_left
                                                  · simp only [Act.put, List.setIfInBounds_toArray, List.set_cons_zero, List.set_cons_succ, i64_w, i32_w]
                                                    rfl
                                                  refine pure_ (i := 5) (N := some 94) (v := ?_) (a' := ?_) #[true, true, true, true, true, true, false, false, false, false, false, false, false, false, false, false, false, false, false, false, false, false, false, false, false, false, false, false, false, false, false, false, false, false, false, false, false, false, false, false, false, false, false, false, false, false, false, false] rfl rfl (any_of HT_.out (by kernel_rfl)) (fun _ _ _ h => h) (Or.inl ⟨by rfl, ?_⟩) ?_ ?_
                                                  rotate_left
                                                  · intro w'
                                                    go_simp
                                                    with_reducible rfl
                                                  rotate_left
                                                  · simp only [Act.put, List.setIfInBounds_toArray, List.set_cons_zero, List.set_cons_succ, i64_w, i32_w]
                                                    rfl
                                                  refine pure_ (i := 6) (N := some 95) (v := ?_) (a' := ?_) #[true, true, true, true, true, true, true, false, false, false, false, false, false, false, false, false, false, false, false, false, false, false, false, false, false, false, false, false, false, false, false, false, false, false, false, false, false, false, false, false, false, false, false, false, false, false, false, false] rfl rfl (any_of HT_.out (by kernel_rfl)) (fun _ _ _ h => h) (Or.inl ⟨by rfl, ?_⟩) ?_ ?_
                                                  rotate_left
                                                  · intro w'
                                                    go_simp
                                                    with_reducible rfl
                                                  rotate_left
                                                  · simp only [Act.put, List.setIfInBounds_toArray, List.set_cons_zero, List.set_cons_succ, i64_w, i32_w]
                                                    rfl
                                                  refine pure_ (i := 7) (N := some 96) (v := ?_) (a' := ?_) #[true, true, true, true, true, true, true, true, false, false, false, false, false, false, false, false, false, false, false, false, false, false, false, false, false, false, false, false, false, false, false, false, false, false, false, false, false, false, false, false, false, false, false, false, false, false, false, false] rfl rfl (any_of HT_.out (by kernel_rfl)) (fun _ _ _ h => h) (Or.inl ⟨by rfl, ?_⟩) ?_ ?_
                                                  rotate_left
                                                  · intro w'
                                                    go_simp
                                                    with_reducible rfl
                                                  rotate_left
                                                  · simp only [Act.put, List.setIfInBounds_toArray, List.set_cons_zero, List.set_cons_succ, i64_w, i32_w]
                                                    rfl
                                                  refine pure_ (i := 9) (N := some 98) (v := ?_) (a' := ?_) #[true, true, true, true, true, true, true, true, false, true, false, false, false, false, false, false, false, false, false, false, false, false, false, false, false, false, false, false, false, false, false, false, false, false, false, false, false, false, false, false, false, false, false, false, false, false, false, false] rfl rfl (any_of HT_.out (by kernel_rfl)) (fun _ _ _ h => h) (Or.inl ⟨by rfl, ?_⟩) ?_ ?_
                                                  rotate_left
                                                  · intro w'
                                                    go_simp
                                                    with_reducible rfl
                                                  rotate_left
                                                  · simp only [Act.put, List.setIfInBounds_toArray, List.set_cons_zero, List.set_cons_succ, i64_w, i32_w]
                                                    rfl
                                                  refine take_ (i := 8) (N := some 97) (v := ?_) (a' := ?_) #[true, true, true, true, true, true, true, true, true, true, false, false, false, false, false, false, false, false, false, false, false, false, false, false, false, false, false, false, false, false, false, false, false, false, false, false, false, false, false, false, false, false, false, false, false, false, false, false] rfl rfl (take_ofW HT_.out HW_.out (by kernel_rfl)) (fun _ _ _ h => h) (Or.inl ⟨by rfl, ?_⟩) hHeld ?_ ?_
                                                  rotate_left
                                                  · rintro w' ⟨s0, s1, s2, s3, s4, s5, s6, s7⟩
                                                    go_simp
                                                    with_reducible rfl
                                                  rotate_left
                                                  · simp only [Act.put, List.setIfInBounds_toArray, List.set_cons_zero, List.set_cons_succ, i64_w, i32_w]
                                                    rfl
                                                  refine one_ (i := 10) (N := some 99) #[true, true, true, true, true, true, true, true, true, true, true, false, false, false, false, false, false, false, false, false, false, false, false, false, false, false, false, false, false, false, false, false, false, false, false, false, false, false, false, false, false, false, false, false, false, false, false, false] rfl rfl (one_of HT_.out (by kernel_rfl)) (by decide) (fun K hK => ?_)
                                                  refine goes_ Try.func21 (by kernel_rfl) rfl #[.string a0] (by rfl) rfl rfl (by (try simp only [List.map_toArray, List.map_cons, List.map_nil]); first | done | rfl | (simp only [List.length_drop, List.length_take]; rfl)) ?_
                                                  with_reducible refine (laws_low.calls a0 t720 _ A55.out).mono ?_
                                                  rintro e w67 ⟨rfl, hb⟩
                                                  refine ⟨_, rfl, ?_⟩
                                                  have n0_ := Aside0.mk (blk_below (g := gb719) (o := .cells #[.string t710, .string t711, .string t712, .string t713, .string t714, .string t715, .string t716, .string t717] 27 (0, 0)) (by (with_reducible repeat (first | refine blk_drewN ?_ _ | refine blk_drew ?_ | refine blk_alloc ?_ _)); exact BK719.out) hb)
                                                  have n1_ := Aside0.mk (below_step (by repeat (first | (with_reducible first | exact HB.out | apply below_alloc | apply pw_below_drewN | apply below_drew1 | refine below_set ?_ GE719.out) | exact HB.out)) hb)
                                                  clear BK719
                                                  clear HB
                                                  have BK719 := n0_
                                                  have HB := n1_
                                                  clear n0_ n1_
                                                  (try clear hb)
                                                  (try clear hb2)
                                                  (try clear hk)
                                                  (try clear hi)
                                                  refine hK.out _ _ ⟨(blk_cell BK719.out 0).trans rfl, (blk_cell BK719.out 1).trans rfl, (blk_cell BK719.out 2).trans rfl, (blk_cell BK719.out 3).trans rfl, (blk_cell BK719.out 4).trans rfl, (blk_cell BK719.out 5).trans rfl, (blk_cell BK719.out 6).trans rfl, (blk_cell BK719.out 7).trans rfl⟩ (fun hHeld => ?_)
                                                  clear hK K
                                                  refine norm_ (a' := ?_) ?_ ?_
                                                  rotate_left
                                                  · show Act.put _ (some 99) _ = _
                                                    simp only [Act.put, List.setIfInBounds_toArray, List.set_cons_zero, List.set_cons_succ, i64_w, i32_w]
                                                    rfl
                                                  refine pure_ (i := 11) (N := some 100) (v := ?_) (a' := ?_) #[true, true, true, true, true, true, true, true, true, true, true, true, false, false, false, false, false, false, false, false, false, false, false, false, false, false, false, false, false, false, false, false, false, false, false, false, false, false, false, false, false, false, false, false, false, false, false, false] rfl rfl (any_of HT_.out (by kernel_rfl)) (fun _ _ _ h => h) (Or.inl ⟨by rfl, ?_⟩) ?_ ?_
                                                  rotate_left
                                                  · intro w'
                                                    go_simp
                                                    with_reducible rfl
                                                  rotate_left
                                                  · simp only [Act.put, List.setIfInBounds_toArray, List.set_cons_zero, List.set_cons_succ, i64_w, i32_w]
                                                    rfl
                                                  refine pure_ (i := 12) (N := some 101) (v := ?_) (a' := ?_) #[true, true, true, true, true, true, true, true, true, true, true, true, true, false, false, false, false, false, false, false, false, false, false, false, false, false, false, false, false, false, false, false, false, false, false, false, false, false, false, false, false, false, false, false, false, false, false, false] rfl rfl (any_of HT_.out (by kernel_rfl)) (fun _ _ _ h => h) (Or.inl ⟨by rfl, ?_⟩) ?_ ?_
                                                  rotate_left
                                                  · intro w'
                                                    go_simp
                                                    with_reducible rfl
                                                  rotate_left
                                                  · simp only [Act.put, List.setIfInBounds_toArray, List.set_cons_zero, List.set_cons_succ, i64_w, i32_w]
                                                    rfl
                                                  refine pure_ (i := 13) (N := some 102) (v := ?_) (a' := ?_) #[true, true, true, true, true, true, true, true, true, true, true, true, true, true, false, false, false, false, false, false, false, false, false, false, false, false, false, false, false, false, false, false, false, false, false, false, false, false, false, false, false, false, false, false, false, false, false, false] rfl rfl (any_of HT_.out (by kernel_rfl)) (fun _ _ _ h => h) (Or.inl ⟨by rfl, ?_⟩) ?_ ?_
                                                  rotate_left
                                                  · intro w'
                                                    go_simp
                                                    with_reducible rfl
                                                  rotate_left
                                                  · simp only [Act.put, List.setIfInBounds_toArray, List.set_cons_zero, List.set_cons_succ, i64_w, i32_w]
                                                    rfl
                                                  refine pure_ (i := 14) (N := some 103) (v := ?_) (a' := ?_) #[true, true, true, true, true, true, true, true, true, true, true, true, true, true, true, false, false, false, false, false, false, false, false, false, false, false, false, false, false, false, false, false, false, false, false, false, false, false, false, false, false, false, false, false, false, false, false, false] rfl rfl (any_of HT_.out (by kernel_rfl)) (fun _ _ _ h => h) (Or.inl ⟨by rfl, ?_⟩) ?_ ?_
                                                  rotate_left
                                                  · intro w'
                                                    go_simp
                                                    with_reducible rfl
                                                  rotate_left
                                                  · simp only [Act.put, List.setIfInBounds_toArray, List.set_cons_zero, List.set_cons_succ, i64_w, i32_w]
                                                    rfl
                                                  refine pure_ (i := 16) (N := some 105) (v := ?_) (a' := ?_) #[true, true, true, true, true, true, true, true, true, true, true, true, true, true, true, false, true, false, false, false, false, false, false, false, false, false, false, false, false, false, false, false, false, false, false, false, false, false, false, false, false, false, false, false, false, false, false, false] rfl rfl (any_of HT_.out (by kernel_rfl)) (fun _ _ _ h => h) (Or.inl ⟨by rfl, ?_⟩) ?_ ?_
                                                  rotate_left
                                                  · intro w'
                                                    go_simp
                                                    with_reducible rfl
                                                  rotate_left
                                                  · simp only [Act.put, List.setIfInBounds_toArray, List.set_cons_zero, List.set_cons_succ, i64_w, i32_w]
                                                    rfl
                                                  refine take_ (i := 15) (N := some 104) (v := ?_) (a' := ?_) #[true, true, true, true, true, true, true, true, true, true, true, true, true, true, true, true, true, false, false, false, false, false, false, false, false, false, false, false, false, false, false, false, false, false, false, false, false, false, false, false, false, false, false, false, false, false, false, false] rfl rfl (take_ofW HT_.out HW_.out (by kernel_rfl)) (fun _ _ _ h => h) (Or.inl ⟨by rfl, ?_⟩) hHeld ?_ ?_
                                                  rotate_left
                                                  · rintro w' ⟨s0, s1, s2, s3, s4, s5, s6, s7⟩
                                                    go_simp
                                                    with_reducible rfl
                                                  rotate_left
                                                  · simp only [Act.put, List.setIfInBounds_toArray, List.set_cons_zero, List.set_cons_succ, i64_w, i32_w]
                                                    rfl
                                                  refine pure_ (i := 17) (N := some 106) (v := ?_) (a' := ?_) #[true, true, true, true, true, true, true, true, true, true, true, true, true, true, true, true, true, true, false, false, false, false, false, false, false, false, false, false, false, false, false, false, false, false, false, false, false, false, false, false, false, false, false, false, false, false, false, false] rfl rfl (any_of HT_.out (by kernel_rfl)) (fun _ _ _ h => h) (Or.inl ⟨by rfl, ?_⟩) ?_ ?_
                                                  rotate_left
                                                  · intro w'
                                                    go_simp
                                                    with_reducible rfl
                                                  rotate_left
                                                  · simp only [Act.put, List.setIfInBounds_toArray, List.set_cons_zero, List.set_cons_succ, i64_w, i32_w]
                                                    rfl
                                                  refine pure_ (i := 18) (N := some 107) (v := ?_) (a' := ?_) #[true, true, true, true, true, true, true, true, true, true, true, true, true, true, true, true, true, true, true, false, false, false, false, false, false, false, false, false, false, false, false, false, false, false, false, false, false, false, false, false, false, false, false, false, false, false, false, false] rfl rfl (any_of HT_.out (by kernel_rfl)) (fun _ _ _ h => h) (Or.inl ⟨by rfl, ?_⟩) ?_ ?_
                                                  rotate_left
                                                  · intro w'
                                                    go_simp
                                                    with_reducible rfl
                                                  rotate_left
                                                  · simp only [Act.put, List.setIfInBounds_toArray, List.set_cons_zero, List.set_cons_succ, i64_w, i32_w]
                                                    rfl
                                                  refine pure_ (i := 19) (N := some 108) (v := ?_) (a' := ?_) #[true, true, true, true, true, true, true, true, true, true, true, true, true, true, true, true, true, true, true, true, false, false, false, false, false, false, false, false, false, false, false, false, false, false, false, false, false, false, false, false, false, false, false, false, false, false, false, false] rfl rfl (any_of HT_.out (by kernel_rfl)) (fun _ _ _ h => h) (Or.inl ⟨by rfl, ?_⟩) ?_ ?_
                                                  rotate_left
                                                  · intro w'
                                                    go_simp
                                                    with_reducible rfl
                                                  rotate_left
                                                  · simp only [Act.put, List.setIfInBounds_toArray, List.set_cons_zero, List.set_cons_succ, i64_w, i32_w]
                                                    rfl
                                                  refine pure_ (i := 20) (N := some 109) (v := ?_) (a' := ?_) #[true, true, true, true, true, true, true, true, true, true, true, true, true, true, true, true, true, true, true, true, true, false, false, false, false, false, false, false, false, false, false, false, false, false, false, false, false, false, false, false, false, false, false, false, false, false, false, false] rfl rfl (any_of HT_.out (by kernel_rfl)) (fun _ _ _ h => h) (Or.inl ⟨by rfl, ?_⟩) ?_ ?_
                                                  rotate_left
                                                  · intro w'
                                                    go_simp
                                                    with_reducible rfl
                                                  rotate_left
                                                  · simp only [Act.put, List.setIfInBounds_toArray, List.set_cons_zero, List.set_cons_succ, i64_w, i32_w]
                                                    rfl
                                                  refine pure_ (i := 22) (N := some 111) (v := ?_) (a' := ?_) #[true, true, true, true, true, true, true, true, true, true, true, true, true, true, true, true, true, true, true, true, true, false, true, false, false, false, false, false, false, false, false, false, false, false, false, false, false, false, false, false, false, false, false, false, false, false, false, false] rfl rfl (any_of HT_.out (by kernel_rfl)) (fun _ _ _ h => h) (Or.inl ⟨by rfl, ?_⟩) ?_ ?_
                                                  rotate_left
                                                  · intro w'
                                                    go_simp
                                                    with_reducible rfl
                                                  rotate_left
                                                  · simp only [Act.put, List.setIfInBounds_toArray, List.set_cons_zero, List.set_cons_succ, i64_w, i32_w]
                                                    rfl
                                                  refine take_ (i := 21) (N := some 110) (v := ?_) (a' := ?_) #[true, true, true, true, true, true, true, true, true, true, true, true, true, true, true, true, true, true, true, true, true, true, true, false, false, false, false, false, false, false, false, false, false, false, false, false, false, false, false, false, false, false, false, false, false, false, false, false] rfl rfl (take_ofW HT_.out HW_.out (by kernel_rfl)) (fun _ _ _ h => h) (Or.inl ⟨by rfl, ?_⟩) hHeld ?_ ?_
                                                  rotate_left
                                                  · rintro w' ⟨s0, s1, s2, s3, s4, s5, s6, s7⟩
                                                    go_simp
                                                    with_reducible rfl
                                                  rotate_left
                                                  · simp only [Act.put, List.setIfInBounds_toArray, List.set_cons_zero, List.set_cons_succ, i64_w, i32_w]
                                                    rfl
                                                  refine pure_ (i := 23) (N := some 112) (v := ?_) (a' := ?_) #[true, true, true, true, true, true, true, true, true, true, true, true, true, true, true, true, true, true, true, true, true, true, true, true, false, false, false, false, false, false, false, false, false, false, false, false, false, false, false, false, false, false, false, false, false, false, false, false] rfl rfl (any_of HT_.out (by kernel_rfl)) (fun _ _ _ h => h) (Or.inl ⟨by rfl, ?_⟩) ?_ ?_
                                                  rotate_left
                                                  · intro w'
                                                    go_simp
                                                    with_reducible rfl
                                                  rotate_left
                                                  · simp only [Act.put, List.setIfInBounds_toArray, List.set_cons_zero, List.set_cons_succ, i64_w, i32_w]
                                                    rfl
                                                  refine pure_ (i := 24) (N := some 113) (v := ?_) (a' := ?_) #[true, true, true, true, true, true, true, true, true, true, true, true, true, true, true, true, true, true, true, true, true, true, true, true, true, false, false, false, false, false, false, false, false, false, false, false, false, false, false, false, false, false, false, false, false, false, false, false] rfl rfl (any_of HT_.out (by kernel_rfl)) (fun _ _ _ h => h) (Or.inl ⟨by rfl, ?_⟩) ?_ ?_
                                                  rotate_left
                                                  · intro w'
                                                    go_simp
                                                    with_reducible rfl
                                                  rotate_left
                                                  · simp only [Act.put, List.setIfInBounds_toArray, List.set_cons_zero, List.set_cons_succ, i64_w, i32_w]
                                                    rfl
                                                  refine pure_ (i := 25) (N := some 114) (v := ?_) (a' := ?_) #[true, true, true, true, true, true, true, true, true, true, true, true, true, true, true, true, true, true, true, true, true, true, true, true, true, true, false, false, false, false, false, false, false, false, false, false, false, false, false, false, false, false, false, false, false, false, false, false] rfl rfl (any_of HT_.out (by kernel_rfl)) (fun _ _ _ h => h) (Or.inl ⟨by rfl, ?_⟩) ?_ ?_
                                                  rotate_left
                                                  · intro w'
                                                    go_simp
                                                    with_reducible rfl
                                                  rotate_left
                                                  · simp only [Act.put, List.setIfInBounds_toArray, List.set_cons_zero, List.set_cons_succ, i64_w, i32_w]
                                                    rfl
                                                  refine pure_ (i := 26) (N := some 115) (v := ?_) (a' := ?_) #[true, true, true, true, true, true, true, true, true, true, true, true, true, true, true, true, true, true, true, true, true, true, true, true, true, true, true, false, false, false, false, false, false, false, false, false, false, false, false, false, false, false, false, false, false, false, false, false] rfl rfl (any_of HT_.out (by kernel_rfl)) (fun _ _ _ h => h) (Or.inl ⟨by rfl, ?_⟩) ?_ ?_
                                                  rotate_left
                                                  · intro w'
                                                    go_simp
                                                    with_reducible rfl
                                                  rotate_left
                                                  · simp only [Act.put, List.setIfInBounds_toArray, List.set_cons_zero, List.set_cons_succ, i64_w, i32_w]
                                                    rfl
                                                  refine pure_ (i := 28) (N := some 117) (v := ?_) (a' := ?_) #[true, true, true, true, true, true, true, true, true, true, true, true, true, true, true, true, true, true, true, true, true, true, true, true, true, true, true, false, true, false, false, false, false, false, false, false, false, false, false, false, false, false, false, false, false, false, false, false] rfl rfl (any_of HT_.out (by kernel_rfl)) (fun _ _ _ h => h) (Or.inl ⟨by rfl, ?_⟩) ?_ ?_
                                                  rotate_left
                                                  · intro w'
                                                    go_simp
                                                    with_reducible rfl
                                                  rotate_left
                                                  · simp only [Act.put, List.setIfInBounds_toArray, List.set_cons_zero, List.set_cons_succ, i64_w, i32_w]
                                                    rfl
                                                  refine take_ (i := 27) (N := some 116) (v := ?_) (a' := ?_) #[true, true, true, true, true, true, true, true, true, true, true, true, true, true, true, true, true, true, true, true, true, true, true, true, true, true, true, true, true, false, false, false, false, false, false, false, false, false, false, false, false, false, false, false, false, false, false, false] rfl rfl (take_ofW HT_.out HW_.out (by kernel_rfl)) (fun _ _ _ h => h) (Or.inl ⟨by rfl, ?_⟩) hHeld ?_ ?_
                                                  rotate_left
                                                  · rintro w' ⟨s0, s1, s2, s3, s4, s5, s6, s7⟩
                                                    go_simp
                                                    with_reducible rfl
                                                  rotate_left
                                                  · simp only [Act.put, List.setIfInBounds_toArray, List.set_cons_zero, List.set_cons_succ, i64_w, i32_w]
                                                    rfl
                                                  refine pure_ (i := 29) (N := some 118) (v := ?_) (a' := ?_) #[true, true, true, true, true, true, true, true, true, true, true, true, true, true, true, true, true, true, true, true, true, true, true, true, true, true, true, true, true, true, false, false, false, false, false, false, false, false, false, false, false, false, false, false, false, false, false, false] rfl rfl (any_of HT_.out (by kernel_rfl)) (fun _ _ _ h => h) (Or.inl ⟨by rfl, ?_⟩) ?_ ?_
                                                  rotate_left
                                                  · intro w'
                                                    go_simp
                                                    with_reducible rfl
                                                  rotate_left
                                                  · simp only [Act.put, List.setIfInBounds_toArray, List.set_cons_zero, List.set_cons_succ, i64_w, i32_w]
                                                    rfl
                                                  refine pure_ (i := 30) (N := some 119) (v := ?_) (a' := ?_) #[true, true, true, true, true, true, true, true, true, true, true, true, true, true, true, true, true, true, true, true, true, true, true, true, true, true, true, true, true, true, true, false, false, false, false, false, false, false, false, false, false, false, false, false, false, false, false, false] rfl rfl (any_of HT_.out (by kernel_rfl)) (fun _ _ _ h => h) (Or.inl ⟨by rfl, ?_⟩) ?_ ?_
                                                  rotate_left
                                                  · intro w'
                                                    go_simp
                                                    with_reducible rfl
                                                  rotate_left
                                                  · simp only [Act.put, List.setIfInBounds_toArray, List.set_cons_zero, List.set_cons_succ, i64_w, i32_w]
                                                    rfl
                                                  refine pure_ (i := 31) (N := some 120) (v := ?_) (a' := ?_) #[true, true, true, true, true, true, true, true, true, true, true, true, true, true, true, true, true, true, true, true, true, true, true, true, true, true, true, true, true, true, true, true, false, false, false, false, false, false, false, false, false, false, false, false, false, false, false, false] rfl rfl (any_of HT_.out (by kernel_rfl)) (fun _ _ _ h => h) (Or.inl ⟨by rfl, ?_⟩) ?_ ?_
                                                  rotate_left
                                                  · intro w'
                                                    go_simp
                                                    with_reducible rfl
                                                  rotate_left
                                                  · simp only [Act.put, List.setIfInBounds_toArray, List.set_cons_zero, List.set_cons_succ, i64_w, i32_w]
                                                    rfl
                                                  refine pure_ (i := 32) (N := some 121) (v := ?_) (a' := ?_) #[true, true, true, true, true, true, true, true, true, true, true, true, true, true, true, true, true, true, true, true, true, true, true, true, true, true, true, true, true, true, true, true, true, false, false, false, false, false, false, false, false, false, false, false, false, false, false, false] rfl rfl (any_of HT_.out (by kernel_rfl)) (fun _ _ _ h => h) (Or.inl ⟨by rfl, ?_⟩) ?_ ?_
                                                  rotate_left
                                                  · intro w'
                                                    go_simp
                                                    with_reducible rfl
                                                  rotate_left
                                                  · simp only [Act.put, List.setIfInBounds_toArray, List.set_cons_zero, List.set_cons_succ, i64_w, i32_w]
                                                    rfl
                                                  refine pure_ (i := 34) (N := some 123) (v := ?_) (a' := ?_) #[true, true, true, true, true, true, true, true, true, true, true, true, true, true, true, true, true, true, true, true, true, true, true, true, true, true, true, true, true, true, true, true, true, false, true, false, false, false, false, false, false, false, false, false, false, false, false, false] rfl rfl (any_of HT_.out (by kernel_rfl)) (fun _ _ _ h => h) (Or.inl ⟨by rfl, ?_⟩) ?_ ?_
                                                  rotate_left
                                                  · intro w'
                                                    go_simp
                                                    with_reducible rfl
                                                  rotate_left
                                                  · simp only [Act.put, List.setIfInBounds_toArray, List.set_cons_zero, List.set_cons_succ, i64_w, i32_w]
                                                    rfl
                                                  refine take_ (i := 33) (N := some 122) (v := ?_) (a' := ?_) #[true, true, true, true, true, true, true, true, true, true, true, true, true, true, true, true, true, true, true, true, true, true, true, true, true, true, true, true, true, true, true, true, true, true, true, false, false, false, false, false, false, false, false, false, false, false, false, false] rfl rfl (take_ofW HT_.out HW_.out (by kernel_rfl)) (fun _ _ _ h => h) (Or.inl ⟨by rfl, ?_⟩) hHeld ?_ ?_
                                                  rotate_left
                                                  · rintro w' ⟨s0, s1, s2, s3, s4, s5, s6, s7⟩
                                                    go_simp
                                                    with_reducible rfl
                                                  rotate_left
                                                  · simp only [Act.put, List.setIfInBounds_toArray, List.set_cons_zero, List.set_cons_succ, i64_w, i32_w]
                                                    rfl
                                                  refine pure_ (i := 35) (N := some 124) (v := ?_) (a' := ?_) #[true, true, true, true, true, true, true, true, true, true, true, true, true, true, true, true, true, true, true, true, true, true, true, true, true, true, true, true, true, true, true, true, true, true, true, true, false, false, false, false, false, false, false, false, false, false, false, false] rfl rfl (any_of HT_.out (by kernel_rfl)) (fun _ _ _ h => h) (Or.inl ⟨by rfl, ?_⟩) ?_ ?_
                                                  rotate_left
                                                  · intro w'
                                                    go_simp
                                                    with_reducible rfl
                                                  rotate_left
                                                  · simp only [Act.put, List.setIfInBounds_toArray, List.set_cons_zero, List.set_cons_succ, i64_w, i32_w]
                                                    rfl
                                                  refine pure_ (i := 36) (N := some 125) (v := ?_) (a' := ?_) #[true, true, true, true, true, true, true, true, true, true, true, true, true, true, true, true, true, true, true, true, true, true, true, true, true, true, true, true, true, true, true, true, true, true, true, true, true, false, false, false, false, false, false, false, false, false, false, false] rfl rfl (any_of HT_.out (by kernel_rfl)) (fun _ _ _ h => h) (Or.inl ⟨by rfl, ?_⟩) ?_ ?_
                                                  rotate_left
                                                  · intro w'
                                                    go_simp
                                                    with_reducible rfl
                                                  rotate_left
                                                  · simp only [Act.put, List.setIfInBounds_toArray, List.set_cons_zero, List.set_cons_succ, i64_w, i32_w]
                                                    rfl
                                                  refine pure_ (i := 37) (N := some 126) (v := ?_) (a' := ?_) #[true, true, true, true, true, true, true, true, true, true, true, true, true, true, true, true, true, true, true, true, true, true, true, true, true, true, true, true, true, true, true, true, true, true, true, true, true, true, false, false, false, false, false, false, false, false, false, false] rfl rfl (any_of HT_.out (by kernel_rfl)) (fun _ _ _ h => h) (Or.inl ⟨by rfl, ?_⟩) ?_ ?_
                                                  rotate_left
                                                  · intro w'
                                                    go_simp
                                                    with_reducible rfl
                                                  rotate_left
                                                  · simp only [Act.put, List.setIfInBounds_toArray, List.set_cons_zero, List.set_cons_succ, i64_w, i32_w]
                                                    rfl
                                                  refine pure_ (i := 38) (N := some 127) (v := ?_) (a' := ?_) #[true, true, true, true, true, true, true, true, true, true, true, true, true, true, true, true, true, true, true, true, true, true, true, true, true, true, true, true, true, true, true, true, true, true, true, true, true, true, true, false, false, false, false, false, false, false, false, false] rfl rfl (any_of HT_.out (by kernel_rfl)) (fun _ _ _ h => h) (Or.inl ⟨by rfl, ?_⟩) ?_ ?_
                                                  rotate_left
                                                  · intro w'
                                                    go_simp
                                                    with_reducible rfl
                                                  rotate_left
                                                  · simp only [Act.put, List.setIfInBounds_toArray, List.set_cons_zero, List.set_cons_succ, i64_w, i32_w]
                                                    rfl
                                                  refine take_ (i := 39) (N := some 128) (v := ?_) (a' := ?_) #[true, true, true, true, true, true, true, true, true, true, true, true, true, true, true, true, true, true, true, true, true, true, true, true, true, true, true, true, true, true, true, true, true, true, true, true, true, true, true, true, false, false, false, false, false, false, false, false] rfl rfl (take_ofW HT_.out HW_.out (by kernel_rfl)) (fun _ _ _ h => h) (Or.inl ⟨by rfl, ?_⟩) hHeld ?_ ?_
                                                  rotate_left
                                                  · rintro w' ⟨s0, s1, s2, s3, s4, s5, s6, s7⟩
                                                    go_simp
                                                    with_reducible rfl
                                                  rotate_left
                                                  · simp only [Act.put, List.setIfInBounds_toArray, List.set_cons_zero, List.set_cons_succ, i64_w, i32_w]
                                                    rfl
                                                  refine pure_ (i := 40) (N := some 129) (v := ?_) (a' := ?_) #[true, true, true, true, true, true, true, true, true, true, true, true, true, true, true, true, true, true, true, true, true, true, true, true, true, true, true, true, true, true, true, true, true, true, true, true, true, true, true, true, true, false, false, false, false, false, false, false] rfl rfl (any_of HT_.out (by kernel_rfl)) (fun _ _ _ h => h) (Or.inl ⟨by rfl, ?_⟩) ?_ ?_
                                                  rotate_left
                                                  · intro w'
                                                    go_simp
                                                    with_reducible rfl
                                                  rotate_left
                                                  · simp only [Act.put, List.setIfInBounds_toArray, List.set_cons_zero, List.set_cons_succ, i64_w, i32_w]
                                                    rfl
                                                  refine pure_ (i := 41) (N := some 130) (v := ?_) (a' := ?_) #[true, true, true, true, true, true, true, true, true, true, true, true, true, true, true, true, true, true, true, true, true, true, true, true, true, true, true, true, true, true, true, true, true, true, true, true, true, true, true, true, true, true, false, false, false, false, false, false] rfl rfl (any_of HT_.out (by kernel_rfl)) (fun _ _ _ h => h) (Or.inl ⟨by rfl, ?_⟩) ?_ ?_
                                                  rotate_left
                                                  · intro w'
                                                    go_simp
                                                    with_reducible rfl
                                                  rotate_left
                                                  · simp only [Act.put, List.setIfInBounds_toArray, List.set_cons_zero, List.set_cons_succ, i64_w, i32_w]
                                                    rfl
                                                  refine pure_ (i := 42) (N := some 131) (v := ?_) (a' := ?_) #[true, true, true, true, true, true, true, true, true, true, true, true, true, true, true, true, true, true, true, true, true, true, true, true, true, true, true, true, true, true, true, true, true, true, true, true, true, true, true, true, true, true, true, false, false, false, false, false] rfl rfl (any_of HT_.out (by kernel_rfl)) (fun _ _ _ h => h) (Or.inl ⟨by rfl, ?_⟩) ?_ ?_
                                                  rotate_left
                                                  · intro w'
                                                    go_simp
                                                    with_reducible rfl
                                                  rotate_left
                                                  · simp only [Act.put, List.setIfInBounds_toArray, List.set_cons_zero, List.set_cons_succ, i64_w, i32_w]
                                                    rfl
                                                  refine pure_ (i := 43) (N := some 132) (v := ?_) (a' := ?_) #[true, true, true, true, true, true, true, true, true, true, true, true, true, true, true, true, true, true, true, true, true, true, true, true, true, true, true, true, true, true, true, true, true, true, true, true, true, true, true, true, true, true, true, true, false, false, false, false] rfl rfl (any_of HT_.out (by kernel_rfl)) (fun _ _ _ h => h) (Or.inl ⟨by rfl, ?_⟩) ?_ ?_
                                                  rotate_left
                                                  · intro w'
                                                    go_simp
                                                    with_reducible rfl
                                                  rotate_left
                                                  · simp only [Act.put, List.setIfInBounds_toArray, List.set_cons_zero, List.set_cons_succ, i64_w, i32_w]
                                                    rfl
                                                  refine take_ (i := 44) (N := some 133) (v := ?_) (a' := ?_) #[true, true, true, true, true, true, true, true, true, true, true, true, true, true, true, true, true, true, true, true, true, true, true, true, true, true, true, true, true, true, true, true, true, true, true, true, true, true, true, true, true, true, true, true, true, false, false, false] rfl rfl (take_ofW HT_.out HW_.out (by kernel_rfl)) (fun _ _ _ h => h) (Or.inl ⟨by rfl, ?_⟩) hHeld ?_ ?_
                                                  rotate_left
                                                  · rintro w' ⟨s0, s1, s2, s3, s4, s5, s6, s7⟩
                                                    go_simp
                                                    with_reducible rfl
                                                  rotate_left
                                                  · simp only [Act.put, List.setIfInBounds_toArray, List.set_cons_zero, List.set_cons_succ, i64_w, i32_w]
                                                    rfl
                                                  refine pure_ (i := 45) (N := some 134) (v := ?_) (a' := ?_) #[true, true, true, true, true, true, true, true, true, true, true, true, true, true, true, true, true, true, true, true, true, true, true, true, true, true, true, true, true, true, true, true, true, true, true, true, true, true, true, true, true, true, true, true, true, true, false, false] rfl rfl (any_of HT_.out (by kernel_rfl)) (fun _ _ _ h => h) (Or.inl ⟨by rfl, ?_⟩) ?_ ?_
                                                  rotate_left
                                                  · intro w'
                                                    go_simp
                                                    with_reducible rfl
                                                  rotate_left
                                                  · simp only [Act.put, List.setIfInBounds_toArray, List.set_cons_zero, List.set_cons_succ, i64_w, i32_w]
                                                    rfl
                                                  refine pure_ (i := 46) (N := some 135) (v := ?_) (a' := ?_) #[true, true, true, true, true, true, true, true, true, true, true, true, true, true, true, true, true, true, true, true, true, true, true, true, true, true, true, true, true, true, true, true, true, true, true, true, true, true, true, true, true, true, true, true, true, true, true, false] rfl rfl (any_of HT_.out (by kernel_rfl)) (fun _ _ _ h => h) (Or.inl ⟨by rfl, ?_⟩) ?_ ?_
                                                  rotate_left
                                                  · intro w'
                                                    go_simp
                                                    with_reducible rfl
                                                  rotate_left
                                                  · simp only [Act.put, List.setIfInBounds_toArray, List.set_cons_zero, List.set_cons_succ, i64_w, i32_w]
                                                    rfl
                                                  refine pure_ (i := 47) (N := some 8) (v := ?_) (a' := ?_) #[true, true, true, true, true, true, true, true, true, true, true, true, true, true, true, true, true, true, true, true, true, true, true, true, true, true, true, true, true, true, true, true, true, true, true, true, true, true, true, true, true, true, true, true, true, true, true, true] rfl rfl (any_of HT_.out (by kernel_rfl)) (fun _ _ _ h => h) (Or.inl ⟨by rfl, ?_⟩) ?_ ?_
                                                  rotate_left
                                                  · intro w'
                                                    go_simp
                                                    with_reducible rfl
                                                  rotate_left
                                                  · simp only [Act.put, List.setIfInBounds_toArray, List.set_cons_zero, List.set_cons_succ, i64_w, i32_w]
                                                    rfl
                                                  refine done_ (done_of HT_.out (by kernel_rfl)) ?_
                                                  try go_wp2
                                                  go_ret
                                                  exact ⟨by first | rfl | (simp [errW_none, errW_some] <;> rfl) | (simp [*, errW_none, errW_some] <;> rfl), by repeat (first | (with_reducible first | exact HB.out | apply below_alloc | apply pw_below_drewN | apply below_drew1 | refine below_set ?_ GE719.out) | exact HB.out)⟩
                                                · rw [if_neg c61] at H
                                                  cases H
                                              · rw [if_neg c60] at H
                                                cases H
                                            · rw [if_neg c59] at H
                                              cases H
                                          · rw [if_neg c58] at H
                                            cases H
                                        · rw [if_neg c57] at H
                                          cases H
                                      · rw [if_neg c56] at H
                                        cases H
                                    · rw [if_neg c54] at H
                                      cases H
                                  · replace c53 := Bool.eq_false_iff.mpr c53
                                    subst c53
                                    have H1 : (none) = some r := by rw [if_neg (show ¬ (false = true) by decide)] at H; exact H
                                    cases H1
                                · rw [if_neg c51] at H
                                  cases H
                              · rw [if_neg c50] at H
                                cases H
                            · rw [if_neg c49] at H
                              cases H
                          · rw [if_neg c48] at H
                            cases H
                        · rw [if_neg c47] at H
                          cases H
                      · rw [if_neg c46] at H
                        cases H
        · replace c12 := Bool.eq_false_iff.mpr c12
          subst c12
          have H1 : (none) = some r := by rw [if_neg (show ¬ (false = true) by decide)] at H; exact H
          cases H1
end Go.Proofs.Ytbkeakeldegkeaa.Q
end
