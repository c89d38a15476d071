/- FnUriSays: the law's function, called with any arguments, returns true and leaves its arguments as they were: every input, no condition. Part 11 of 16. -/
import Derived.Test.YtbkeakeldegkeaaZFnUriSays9
import Derived.Test.YtbkeakeldegkeaaZFnUriSays1
import Derived.Test.YtbkeakeldegkeaaZFnUriSays8
set_option linter.unusedVariables false
set_option linter.unusedSimpArgs false
section
namespace Go.Proofs.Ytbkeakeldegkeaa.Q
open Go.RowKit Go.Proofs.YtbkeakeldegkeaaW.PrintWords Go.Proofs.YtbkeakeldegkeaaW.PrintLast Go.Proofs.YtbkeakeldegkeaaW.PrintMore
attribute [local go_sem] max2_int min2_int max_two min_two max_three min_three max_four min_four
mutual
def spec_schemeOf.j0 : Nat → ByteArray → Int → Bool → Option (Int)
 | 0,_,_,_ => none
 | k + 1,x0,x3,x30 => if x30 = true then (some (-1)) else (spec_schemeOf.l0 k x0 x3 0)
def spec_schemeOf.l0 : Nat → ByteArray → Int → Int → Option (Int)
 | 0,_,_,_ => none
 | k + 1,x0,x3,x4 => if x4 < x3 then (if 0 ≤ x4 then (if x4 < (x0.size : Int) then (if (bt x0 x4) < 97 then (if (bt x0 x4) < 65 then (if x4 = 0 then (some (-1)) else (if (bt x0 x4) < 48 then (if (bt x0 x4) = 43 then (spec_schemeOf.l0 k x0 x3 (wrap64 (x4 + 1))) else (if (bt x0 x4) = 45 then (spec_schemeOf.l0 k x0 x3 (wrap64 (x4 + 1))) else (if (bt x0 x4) = 46 then (spec_schemeOf.l0 k x0 x3 (wrap64 (x4 + 1))) else (some (-1))))) else (if (bt x0 x4) > 57 then (if (bt x0 x4) = 43 then (spec_schemeOf.l0 k x0 x3 (wrap64 (x4 + 1))) else (if (bt x0 x4) = 45 then (spec_schemeOf.l0 k x0 x3 (wrap64 (x4 + 1))) else (if (bt x0 x4) = 46 then (spec_schemeOf.l0 k x0 x3 (wrap64 (x4 + 1))) else (some (-1))))) else (spec_schemeOf.l0 k x0 x3 (wrap64 (x4 + 1)))))) else (if (bt x0 x4) > 90 then (if x4 = 0 then (some (-1)) else (if (bt x0 x4) < 48 then (if (bt x0 x4) = 43 then (spec_schemeOf.l0 k x0 x3 (wrap64 (x4 + 1))) else (if (bt x0 x4) = 45 then (spec_schemeOf.l0 k x0 x3 (wrap64 (x4 + 1))) else (if (bt x0 x4) = 46 then (spec_schemeOf.l0 k x0 x3 (wrap64 (x4 + 1))) else (some (-1))))) else (if (bt x0 x4) > 57 then (if (bt x0 x4) = 43 then (spec_schemeOf.l0 k x0 x3 (wrap64 (x4 + 1))) else (if (bt x0 x4) = 45 then (spec_schemeOf.l0 k x0 x3 (wrap64 (x4 + 1))) else (if (bt x0 x4) = 46 then (spec_schemeOf.l0 k x0 x3 (wrap64 (x4 + 1))) else (some (-1))))) else (spec_schemeOf.l0 k x0 x3 (wrap64 (x4 + 1)))))) else (spec_schemeOf.l0 k x0 x3 (wrap64 (x4 + 1))))) else (if (bt x0 x4) > 122 then (if (bt x0 x4) < 65 then (if x4 = 0 then (some (-1)) else (if (bt x0 x4) < 48 then (if (bt x0 x4) = 43 then (spec_schemeOf.l0 k x0 x3 (wrap64 (x4 + 1))) else (if (bt x0 x4) = 45 then (spec_schemeOf.l0 k x0 x3 (wrap64 (x4 + 1))) else (if (bt x0 x4) = 46 then (spec_schemeOf.l0 k x0 x3 (wrap64 (x4 + 1))) else (some (-1))))) else (if (bt x0 x4) > 57 then (if (bt x0 x4) = 43 then (spec_schemeOf.l0 k x0 x3 (wrap64 (x4 + 1))) else (if (bt x0 x4) = 45 then (spec_schemeOf.l0 k x0 x3 (wrap64 (x4 + 1))) else (if (bt x0 x4) = 46 then (spec_schemeOf.l0 k x0 x3 (wrap64 (x4 + 1))) else (some (-1))))) else (spec_schemeOf.l0 k x0 x3 (wrap64 (x4 + 1)))))) else (if (bt x0 x4) > 90 then (if x4 = 0 then (some (-1)) else (if (bt x0 x4) < 48 then (if (bt x0 x4) = 43 then (spec_schemeOf.l0 k x0 x3 (wrap64 (x4 + 1))) else (if (bt x0 x4) = 45 then (spec_schemeOf.l0 k x0 x3 (wrap64 (x4 + 1))) else (if (bt x0 x4) = 46 then (spec_schemeOf.l0 k x0 x3 (wrap64 (x4 + 1))) else (some (-1))))) else (if (bt x0 x4) > 57 then (if (bt x0 x4) = 43 then (spec_schemeOf.l0 k x0 x3 (wrap64 (x4 + 1))) else (if (bt x0 x4) = 45 then (spec_schemeOf.l0 k x0 x3 (wrap64 (x4 + 1))) else (if (bt x0 x4) = 46 then (spec_schemeOf.l0 k x0 x3 (wrap64 (x4 + 1))) else (some (-1))))) else (spec_schemeOf.l0 k x0 x3 (wrap64 (x4 + 1)))))) else (spec_schemeOf.l0 k x0 x3 (wrap64 (x4 + 1))))) else (spec_schemeOf.l0 k x0 x3 (wrap64 (x4 + 1))))) else (none)) else (none)) else (some x3)
end
def spec_schemeOf.f (k : Nat) (a0 : ByteArray) : Option (Int) := (spec_indexOf.f k a0 58).bind fun t331 => (if t331 < 1 then (spec_schemeOf.j0 k a0 t331 true) else (if (wrap64 (t331 + 2)) ≥ (a0.size : Int) then (spec_schemeOf.j0 k a0 t331 true) else (if 0 ≤ (wrap64 (t331 + 1)) then (if (wrap64 (t331 + 1)) < (a0.size : Int) then (if (bt a0 (wrap64 (t331 + 1))) = 47 then (if 0 ≤ (wrap64 (t331 + 2)) then (if (wrap64 (t331 + 2)) < (a0.size : Int) then (spec_schemeOf.j0 k a0 t331 ((bt a0 (wrap64 (t331 + 2))) != 47)) else (none)) else (none)) else (spec_schemeOf.j0 k a0 t331 true)) else (none)) else (none))))
set_option maxHeartbeats 8000000 in
set_option maxRecDepth 100000 in
theorem spec_schemeOf.calls (k : Nat) (a0 : ByteArray) (r : Int) (w : World) (h : spec_schemeOf.f k a0 = some r) :
  Calls Try.prog 39 #[.string a0] w fun e w' => e = .returned (.int .i64 r) ∧ Drawn0 w w' := by
 have H : ((spec_indexOf.f k a0 58).bind fun t331 => (if t331 < 1 then (spec_schemeOf.j0 k a0 t331 true) else (if (wrap64 (t331 + 2)) ≥ (a0.size : Int) then (spec_schemeOf.j0 k a0 t331 true) else (if 0 ≤ (wrap64 (t331 + 1)) then (if (wrap64 (t331 + 1)) < (a0.size : Int) then (if (bt a0 (wrap64 (t331 + 1))) = 47 then (if 0 ≤ (wrap64 (t331 + 2)) then (if (wrap64 (t331 + 2)) < (a0.size : Int) then (spec_schemeOf.j0 k a0 t331 ((bt a0 (wrap64 (t331 + 2))) != 47)) else (none)) else (none)) else (spec_schemeOf.j0 k a0 t331 true)) else (none)) else (none))))) = some r := h
 clear h
 replace H := Option.bind_eq_some_iff.mp H
 obtain ⟨t331,A20,H⟩ := H
 replace H : (if t331 < 1 then (spec_schemeOf.j0 k a0 t331 true) else (if (wrap64 (t331 + 2)) ≥ (a0.size : Int) then (spec_schemeOf.j0 k a0 t331 true) else (if 0 ≤ (wrap64 (t331 + 1)) then (if (wrap64 (t331 + 1)) < (a0.size : Int) then (if (bt a0 (wrap64 (t331 + 1))) = 47 then (if 0 ≤ (wrap64 (t331 + 2)) then (if (wrap64 (t331 + 2)) < (a0.size : Int) then (spec_schemeOf.j0 k a0 t331 ((bt a0 (wrap64 (t331 + 2))) != 47)) else (none)) else (none)) else (spec_schemeOf.j0 k a0 t331 true)) else (none)) else (none)))) = some r := H
 have A2 := Aside0.mk A20
 clear A20
 have HC3 := Aside0.mk H
 clear H
 go_enter Try.func39,Try.ntmps39
 go_upto_region 2 with (first|((with_reducible refine gate_callee (f := 40) rfl ?_);refine goesL_ (some 7) rfl rfl Try.func40 (by kernel_rfl) rfl #[.string a0,.int .u8 58] rfl (by (try simp only [List.map_toArray,List.map_cons,List.map_nil]);first|done|rfl|(simp only [List.length_drop,List.length_take];rfl)) ?_;(with_reducible refine (spec_indexOf.calls k a0 58 t331 _ A2.out).mono ?_);rintro e w' ⟨rfl,⟨nd,rfl⟩⟩;refine ⟨_,rfl,?_⟩))
 (try simp only [Act.put,List.setIfInBounds_toArray,List.set_cons_zero,List.set_cons_succ])
 go_cut [30] (fun v30 wc => ∃ (kq : Nat) (x30_2 : Bool),v30 = .bool x30_2 ∧ Aside0 (spec_schemeOf.j0 kq a0 t331 x30_2 = some r) ∧ Aside0 (kq ≤ k) ∧ Drawn0 w wc)
 case first =>
  have H := HC3.out
  clear HC3
  by_cases c4 : t331 < 1
  ·
   rw [if_pos c4] at H
   have c4b0 : decide (t331 < 1) = true := decide_eq_true c4
   clear c4
   (first|rw [c4b0]|(simp only [i64_w,i32_w];rw [c4b0])|(rw [YtbkeakeldegkeaaX.isEmpty_eq];rw [c4b0])|skip)
   have H' := Aside0.mk H
   clear H
   go_wp2
   go_meet
   case rel => exact ⟨_,(true),(rs_),H',⟨by first|omega|exact Nat.le_refl _⟩,by repeat (first|exact Drawn0.refl _|apply Drawn0.step)⟩
  rw [if_neg c4] at H
  have c4b0 : decide (t331 < 1) = false := decide_eq_false c4
  clear c4
  (first|rw [c4b0]|(simp only [i64_w,i32_w];rw [c4b0])|(rw [YtbkeakeldegkeaaX.isEmpty_eq];rw [c4b0])|skip)
  by_cases c5 : (wrap64 (t331 + 2)) ≥ (a0.size : Int)
  ·
   rw [if_pos c5] at H
   have c5b0 : decide ((a0.size : Int) ≤ (wrap64 (t331 + 2))) = true := decide_eq_true c5
   clear c5
   have H' := Aside0.mk H
   clear H
   go_wp2
   go_meet
   case rel => exact ⟨_,(true),(rs_),H',⟨by first|omega|exact Nat.le_refl _⟩,by repeat (first|exact Drawn0.refl _|apply Drawn0.step)⟩
  rw [if_neg c5] at H
  have c5b0 : decide ((a0.size : Int) ≤ (wrap64 (t331 + 2))) = false := decide_eq_false c5
  clear c5
  obtain ⟨ji6,hji6⟩ : ∃ j_ : Int,(wrap64 (t331 + 1)) = j_ := ⟨_,rfl⟩
  replace H : (if 0 ≤ (ji6) then (if (ji6) < (a0.size : Int) then (if (bt a0 (ji6)) = 47 then (if 0 ≤ (wrap64 (t331 + 2)) then (if (wrap64 (t331 + 2)) < (a0.size : Int) then (spec_schemeOf.j0 k a0 t331 ((bt a0 (wrap64 (t331 + 2))) != 47)) else (none)) else (none)) else (spec_schemeOf.j0 k a0 t331 true)) else (none)) else (none)) = some r := by first|(rw [hji6] at H;exact H)|(simp only [hji6] at H ⊢;exact H)
  have hji6w : (IntKind.i64.wrap (t331 + 1)) = ji6 := (i64_w _).trans hji6
  by_cases c7 : 0 ≤ (ji6)
  ·
   rw [if_pos c7] at H
   have c7b0 : decide (0 ≤ (ji6)) = true := decide_eq_true c7
   clear c7
   by_cases c8 : (ji6) < (a0.size : Int)
   ·
    rw [if_pos c8] at H
    have c8b0 : decide ((ji6) < (a0.size : Int)) = true := decide_eq_true c8
    clear c8
    by_cases c10 : (bt a0 (ji6)) = 47
    ·
     rw [if_pos c10] at H
     have c10b0 : ((bt a0 (ji6)) == 47) = true := beq_iff_eq.mpr c10
     have c10b1 : ((bt a0 (ji6)) != 47) = false := bne_eq_false_iff_eq.mpr c10
     clear c10
     obtain ⟨ji11,hji11⟩ : ∃ j_ : Int,(wrap64 (t331 + 2)) = j_ := ⟨_,rfl⟩
     replace H : (if 0 ≤ (ji11) then (if (ji11) < (a0.size : Int) then (spec_schemeOf.j0 k a0 t331 ((bt a0 (ji11)) != 47)) else (none)) else (none)) = some r := by first|(rw [hji11] at H;exact H)|(simp only [hji11] at H ⊢;exact H)
     (try rw [hji11] at c5b0)
     have hji11w : (IntKind.i64.wrap (t331 + 2)) = ji11 := (i64_w _).trans hji11
     by_cases c12 : 0 ≤ (ji11)
     ·
      rw [if_pos c12] at H
      have c12b0 : decide (0 ≤ (ji11)) = true := decide_eq_true c12
      clear c12
      by_cases c13 : (ji11) < (a0.size : Int)
      ·
       rw [if_pos c13] at H
       have c13b0 : decide ((ji11) < (a0.size : Int)) = true := decide_eq_true c13
       clear c13
       have H' := Aside0.mk H
       clear H
       have p9 : 0 ≤ ((ji6) : Int) := odt_
       have q9 : (ji6) < (a0.size : Int) := odt_
       have hx9 := bt_at a0 (ji6)
       replace p9 := eq_true p9
       replace q9 := eq_true q9
       have p14 : 0 ≤ ((ji11) : Int) := odt_
       have q14 : (ji11) < (a0.size : Int) := odt_
       have hx14 := bt_at a0 (ji11)
       replace p14 := eq_true p14
       replace q14 := eq_true q14
       go_wp2
       go_meet
       case rel => exact ⟨_,(((bt a0 (ji11)) != 47)),(by first|rfl|(simp;done)|(simp only [← hji11] <;> (first|rfl|simp))|(simp [*];done)|(simp [YtbkeakeldegkeaaX.isEmpty_ne];done)),H',⟨by first|omega|exact Nat.le_refl _⟩,by repeat (first|exact Drawn0.refl _|apply Drawn0.step)⟩
      rw [if_neg c13] at H
      exact absurd H (by simp)
     rw [if_neg c12] at H
     exact absurd H (by simp)
    rw [if_neg c10] at H
    have c10b0 : ((bt a0 (ji6)) == 47) = false := beq_eq_false_iff_ne.mpr c10
    have c10b1 : ((bt a0 (ji6)) != 47) = true := bne_iff_ne.mpr c10
    have H' := Aside0.mk H
    clear H
    have p9 : 0 ≤ ((ji6) : Int) := odt_
    have q9 : (ji6) < (a0.size : Int) := odt_
    have hx9 := bt_at a0 (ji6)
    replace p9 := eq_true p9
    replace q9 := eq_true q9
    go_wp2
    go_meet
    case rel => exact ⟨_,(true),(rs_),H',⟨by first|omega|exact Nat.le_refl _⟩,by repeat (first|exact Drawn0.refl _|apply Drawn0.step)⟩
   rw [if_neg c8] at H
   exact absurd H (by simp)
  rw [if_neg c7] at H
  exact absurd H (by simp)
 case rest =>
  clear HC3
  try clear c1
  try clear p1
  try clear q1
  try clear hx1
  try clear p2
  try clear c3
  try clear c4
  try clear c4b0
  try clear c5
  try clear c5b0
  try clear p6
  try clear c7
  try clear c7b0
  try clear c8
  try clear c8b0
  try clear p9
  try clear q9
  try clear hx9
  try clear c10
  try clear c10b0
  try clear c10b1
  try clear c12
  try clear c12b0
  try clear c13
  try clear c13b0
  try clear p14
  try clear q14
  try clear hx14
  try clear p14
  try clear p9
  try clear q14
  try clear q9
  obtain ⟨kq,x30_2,rfl,HA,HJ2,⟨mc2,rfl⟩⟩ := hcut
  cases kq with
  | zero => exact absurd HA.out (by simp [spec_schemeOf.j0])
  | succ kj2 =>
   have H := HA.out
   clear HA
   simp only [spec_schemeOf.j0] at H
   by_cases c15 : x30_2 = true
   ·
    subst c15
    have H1 : (some (-1)) = some r := by rw [if_pos rfl] at H;exact H
    clear H
    have H := H1
    clear H1
    obtain rfl := Option.some.inj H
    go_wp2
    go_ret
    exact ⟨rs_,by repeat (first|exact Drawn0.refl _|apply Drawn0.step)⟩
   replace c15 := Bool.eq_false_iff.mpr c15
   subst c15
   have H1 : (spec_schemeOf.l0 kj2 a0 t331 0) = some r := by rw [if_neg (show ¬ (false = true) by decide)] at H;exact H
   clear H
   have H := H1
   clear H1
   have H' := Aside0.mk H
   clear H
   go_wp2
   go_loopg [4] kj2 (fun kq v4 w' => ∃ (x4_2 : Int),v4 = .int .i64 x4_2 ∧ Aside0 (spec_schemeOf.l0 kq a0 t331 x4_2 = some r) ∧ Aside0 (kq ≤ kj2) ∧ Drawn0 w w')
   case atStart => exact ⟨(0),(rs_),H',⟨Nat.le_refl _⟩,by repeat (first|exact Drawn0.refl _|apply Drawn0.step)⟩
   case round =>
    clear H'
    try clear c1
    try clear p1
    try clear q1
    try clear hx1
    try clear c2
    try clear p2
    try clear c3
    try clear c4
    try clear c4b0
    try clear c5
    try clear c5b0
    try clear p6
    try clear c7
    try clear c7b0
    try clear c8
    try clear c8b0
    try clear p9
    try clear q9
    try clear hx9
    try clear c10
    try clear c10b0
    try clear c10b1
    try clear c12
    try clear c12b0
    try clear c13
    try clear c13b0
    try clear p14
    try clear q14
    try clear hx14
    try clear c15
    try clear p1
    try clear p14
    try clear p2
    try clear p6
    try clear p9
    try clear q1
    try clear q14
    try clear q9
    obtain ⟨x4_2,rfl,HA,HK2,⟨m2,rfl⟩⟩ := hrel
    cases gk with
    | zero => exact absurd HA.out (by simp [spec_schemeOf.l0])
    | succ k2 =>
     have H := HA.out
     clear HA
     simp only [spec_schemeOf.l0] at H
     by_cases c16 : x4_2 < t331
     ·
      rw [if_pos c16] at H
      have c16b0 : decide (x4_2 < t331) = true := decide_eq_true c16
      clear c16
      by_cases c17 : 0 ≤ x4_2
      ·
       rw [if_pos c17] at H
       have c17b0 : decide (0 ≤ x4_2) = true := decide_eq_true c17
       clear c17
       by_cases c18 : x4_2 < (a0.size : Int)
       ·
        rw [if_pos c18] at H
        have c18b0 : decide (x4_2 < (a0.size : Int)) = true := decide_eq_true c18
        clear c18
        by_cases c20 : (bt a0 x4_2) < 97
        ·
         rw [if_pos c20] at H
         have c20b0 : decide ((bt a0 x4_2) < 97) = true := decide_eq_true c20
         clear c20
         by_cases c21 : (bt a0 x4_2) < 65
         ·
          rw [if_pos c21] at H
          have c21b0 : decide ((bt a0 x4_2) < 65) = true := decide_eq_true c21
          clear c21
          by_cases c22 : x4_2 = 0
          ·
           rw [if_pos c22] at H
           have c22b0 : (x4_2 == 0) = true := beq_iff_eq.mpr c22
           have c22b1 : (x4_2 != 0) = false := bne_eq_false_iff_eq.mpr c22
           clear c22
           obtain rfl := Option.some.inj H
           have p19 : 0 ≤ (x4_2 : Int) := odt_
           have q19 : x4_2 < (a0.size : Int) := odt_
           have hx19 := bt_at a0 x4_2
           replace p19 := eq_true p19
           replace q19 := eq_true q19
           go_wp2
           go_ret
           exact ⟨rs_,by repeat (first|exact Drawn0.refl _|apply Drawn0.step)⟩
          rw [if_neg c22] at H
          have c22b0 : (x4_2 == 0) = false := beq_eq_false_iff_ne.mpr c22
          have c22b1 : (x4_2 != 0) = true := bne_iff_ne.mpr c22
          by_cases c23 : (bt a0 x4_2) < 48
          ·
           rw [if_pos c23] at H
           have c23b0 : decide ((bt a0 x4_2) < 48) = true := decide_eq_true c23
           clear c23
           by_cases c24 : (bt a0 x4_2) = 43
           ·
            rw [if_pos c24] at H
            have c24b0 : ((bt a0 x4_2) == 43) = true := beq_iff_eq.mpr c24
            have c24b1 : ((bt a0 x4_2) != 43) = false := bne_eq_false_iff_eq.mpr c24
            clear c24
            have H' := Aside0.mk H
            clear H
            have p19 : 0 ≤ (x4_2 : Int) := odt_
            have q19 : x4_2 < (a0.size : Int) := odt_
            have hx19 := bt_at a0 x4_2
            replace p19 := eq_true p19
            replace q19 := eq_true q19
            go_wp2
            go_roundg k2
            case measure => have := HJ2.out;have := HK2.out;omega
            case rel => exact ⟨(wrap64 (x4_2 + 1)),(rs_),H',⟨by have := HJ2.out;have := HK2.out;omega⟩,by repeat (first|exact Drawn0.refl _|apply Drawn0.step)⟩
           rw [if_neg c24] at H
           have c24b0 : ((bt a0 x4_2) == 43) = false := beq_eq_false_iff_ne.mpr c24
           have c24b1 : ((bt a0 x4_2) != 43) = true := bne_iff_ne.mpr c24
           by_cases c25 : (bt a0 x4_2) = 45
           ·
            rw [if_pos c25] at H
            have c25b0 : ((bt a0 x4_2) == 45) = true := beq_iff_eq.mpr c25
            have c25b1 : ((bt a0 x4_2) != 45) = false := bne_eq_false_iff_eq.mpr c25
            clear c25
            have H' := Aside0.mk H
            clear H
            have p19 : 0 ≤ (x4_2 : Int) := odt_
            have q19 : x4_2 < (a0.size : Int) := odt_
            have hx19 := bt_at a0 x4_2
            replace p19 := eq_true p19
            replace q19 := eq_true q19
            go_wp2
            go_roundg k2
            case measure => have := HJ2.out;have := HK2.out;omega
            case rel => exact ⟨(wrap64 (x4_2 + 1)),(rs_),H',⟨by have := HJ2.out;have := HK2.out;omega⟩,by repeat (first|exact Drawn0.refl _|apply Drawn0.step)⟩
           rw [if_neg c25] at H
           have c25b0 : ((bt a0 x4_2) == 45) = false := beq_eq_false_iff_ne.mpr c25
           have c25b1 : ((bt a0 x4_2) != 45) = true := bne_iff_ne.mpr c25
           by_cases c26 : (bt a0 x4_2) = 46
           ·
            rw [if_pos c26] at H
            have c26b0 : ((bt a0 x4_2) == 46) = true := beq_iff_eq.mpr c26
            have c26b1 : ((bt a0 x4_2) != 46) = false := bne_eq_false_iff_eq.mpr c26
            clear c26
            have H' := Aside0.mk H
            clear H
            have p19 : 0 ≤ (x4_2 : Int) := odt_
            have q19 : x4_2 < (a0.size : Int) := odt_
            have hx19 := bt_at a0 x4_2
            replace p19 := eq_true p19
            replace q19 := eq_true q19
            go_wp2
            go_roundg k2
            case measure => have := HJ2.out;have := HK2.out;omega
            case rel => exact ⟨(wrap64 (x4_2 + 1)),(rs_),H',⟨by have := HJ2.out;have := HK2.out;omega⟩,by repeat (first|exact Drawn0.refl _|apply Drawn0.step)⟩
           rw [if_neg c26] at H
           have c26b0 : ((bt a0 x4_2) == 46) = false := beq_eq_false_iff_ne.mpr c26
           have c26b1 : ((bt a0 x4_2) != 46) = true := bne_iff_ne.mpr c26
           obtain rfl := Option.some.inj H
           have p19 : 0 ≤ (x4_2 : Int) := odt_
           have q19 : x4_2 < (a0.size : Int) := odt_
           have hx19 := bt_at a0 x4_2
           replace p19 := eq_true p19
           replace q19 := eq_true q19
           go_wp2
           go_ret
           exact ⟨rs_,by repeat (first|exact Drawn0.refl _|apply Drawn0.step)⟩
          rw [if_neg c23] at H
          have c23b0 : decide ((bt a0 x4_2) < 48) = false := decide_eq_false c23
          clear c23
          by_cases c27 : (bt a0 x4_2) > 57
          ·
           rw [if_pos c27] at H
           have c27b0 : decide (57 < (bt a0 x4_2)) = true := decide_eq_true c27
           clear c27
           by_cases c28 : (bt a0 x4_2) = 43
           ·
            rw [if_pos c28] at H
            have c28b0 : ((bt a0 x4_2) == 43) = true := beq_iff_eq.mpr c28
            have c28b1 : ((bt a0 x4_2) != 43) = false := bne_eq_false_iff_eq.mpr c28
            clear c28
            have H' := Aside0.mk H
            clear H
            have p19 : 0 ≤ (x4_2 : Int) := odt_
            have q19 : x4_2 < (a0.size : Int) := odt_
            have hx19 := bt_at a0 x4_2
            replace p19 := eq_true p19
            replace q19 := eq_true q19
            go_wp2
            go_roundg k2
            case measure => have := HJ2.out;have := HK2.out;omega
            case rel => exact ⟨(wrap64 (x4_2 + 1)),(rs_),H',⟨by have := HJ2.out;have := HK2.out;omega⟩,by repeat (first|exact Drawn0.refl _|apply Drawn0.step)⟩
           rw [if_neg c28] at H
           have c28b0 : ((bt a0 x4_2) == 43) = false := beq_eq_false_iff_ne.mpr c28
           have c28b1 : ((bt a0 x4_2) != 43) = true := bne_iff_ne.mpr c28
           by_cases c29 : (bt a0 x4_2) = 45
           ·
            rw [if_pos c29] at H
            have c29b0 : ((bt a0 x4_2) == 45) = true := beq_iff_eq.mpr c29
            have c29b1 : ((bt a0 x4_2) != 45) = false := bne_eq_false_iff_eq.mpr c29
            clear c29
            have H' := Aside0.mk H
            clear H
            have p19 : 0 ≤ (x4_2 : Int) := odt_
            have q19 : x4_2 < (a0.size : Int) := odt_
            have hx19 := bt_at a0 x4_2
            replace p19 := eq_true p19
            replace q19 := eq_true q19
            go_wp2
            go_roundg k2
            case measure => have := HJ2.out;have := HK2.out;omega
            case rel => exact ⟨(wrap64 (x4_2 + 1)),(rs_),H',⟨by have := HJ2.out;have := HK2.out;omega⟩,by repeat (first|exact Drawn0.refl _|apply Drawn0.step)⟩
           rw [if_neg c29] at H
           have c29b0 : ((bt a0 x4_2) == 45) = false := beq_eq_false_iff_ne.mpr c29
           have c29b1 : ((bt a0 x4_2) != 45) = true := bne_iff_ne.mpr c29
           by_cases c30 : (bt a0 x4_2) = 46
           ·
            rw [if_pos c30] at H
            have c30b0 : ((bt a0 x4_2) == 46) = true := beq_iff_eq.mpr c30
            have c30b1 : ((bt a0 x4_2) != 46) = false := bne_eq_false_iff_eq.mpr c30
            clear c30
            have H' := Aside0.mk H
            clear H
            have p19 : 0 ≤ (x4_2 : Int) := odt_
            have q19 : x4_2 < (a0.size : Int) := odt_
            have hx19 := bt_at a0 x4_2
            replace p19 := eq_true p19
            replace q19 := eq_true q19
            go_wp2
            go_roundg k2
            case measure => have := HJ2.out;have := HK2.out;omega
            case rel => exact ⟨(wrap64 (x4_2 + 1)),(rs_),H',⟨by have := HJ2.out;have := HK2.out;omega⟩,by repeat (first|exact Drawn0.refl _|apply Drawn0.step)⟩
           rw [if_neg c30] at H
           have c30b0 : ((bt a0 x4_2) == 46) = false := beq_eq_false_iff_ne.mpr c30
           have c30b1 : ((bt a0 x4_2) != 46) = true := bne_iff_ne.mpr c30
           obtain rfl := Option.some.inj H
           have p19 : 0 ≤ (x4_2 : Int) := odt_
           have q19 : x4_2 < (a0.size : Int) := odt_
           have hx19 := bt_at a0 x4_2
           replace p19 := eq_true p19
           replace q19 := eq_true q19
           go_wp2
           go_ret
           exact ⟨rs_,by repeat (first|exact Drawn0.refl _|apply Drawn0.step)⟩
          rw [if_neg c27] at H
          have c27b0 : decide (57 < (bt a0 x4_2)) = false := decide_eq_false c27
          clear c27
          have H' := Aside0.mk H
          clear H
          have p19 : 0 ≤ (x4_2 : Int) := odt_
          have q19 : x4_2 < (a0.size : Int) := odt_
          have hx19 := bt_at a0 x4_2
          replace p19 := eq_true p19
          replace q19 := eq_true q19
          go_wp2
          go_roundg k2
          case measure => have := HJ2.out;have := HK2.out;omega
          case rel => exact ⟨(wrap64 (x4_2 + 1)),(rs_),H',⟨by have := HJ2.out;have := HK2.out;omega⟩,by repeat (first|exact Drawn0.refl _|apply Drawn0.step)⟩
         rw [if_neg c21] at H
         have c21b0 : decide ((bt a0 x4_2) < 65) = false := decide_eq_false c21
         clear c21
         by_cases c31 : (bt a0 x4_2) > 90
         ·
          rw [if_pos c31] at H
          have c31b0 : decide (90 < (bt a0 x4_2)) = true := decide_eq_true c31
          clear c31
          by_cases c32 : x4_2 = 0
          ·
           rw [if_pos c32] at H
           have c32b0 : (x4_2 == 0) = true := beq_iff_eq.mpr c32
           have c32b1 : (x4_2 != 0) = false := bne_eq_false_iff_eq.mpr c32
           clear c32
           obtain rfl := Option.some.inj H
           have p19 : 0 ≤ (x4_2 : Int) := odt_
           have q19 : x4_2 < (a0.size : Int) := odt_
           have hx19 := bt_at a0 x4_2
           replace p19 := eq_true p19
           replace q19 := eq_true q19
           go_wp2
           go_ret
           exact ⟨rs_,by repeat (first|exact Drawn0.refl _|apply Drawn0.step)⟩
          rw [if_neg c32] at H
          have c32b0 : (x4_2 == 0) = false := beq_eq_false_iff_ne.mpr c32
          have c32b1 : (x4_2 != 0) = true := bne_iff_ne.mpr c32
          by_cases c33 : (bt a0 x4_2) < 48
          ·
           rw [if_pos c33] at H
           have c33b0 : decide ((bt a0 x4_2) < 48) = true := decide_eq_true c33
           clear c33
           by_cases c34 : (bt a0 x4_2) = 43
           ·
            rw [if_pos c34] at H
            have c34b0 : ((bt a0 x4_2) == 43) = true := beq_iff_eq.mpr c34
            have c34b1 : ((bt a0 x4_2) != 43) = false := bne_eq_false_iff_eq.mpr c34
            clear c34
            have H' := Aside0.mk H
            clear H
            have p19 : 0 ≤ (x4_2 : Int) := odt_
            have q19 : x4_2 < (a0.size : Int) := odt_
            have hx19 := bt_at a0 x4_2
            replace p19 := eq_true p19
            replace q19 := eq_true q19
            go_wp2
            go_roundg k2
            case measure => have := HJ2.out;have := HK2.out;omega
            case rel => exact ⟨(wrap64 (x4_2 + 1)),(rs_),H',⟨by have := HJ2.out;have := HK2.out;omega⟩,by repeat (first|exact Drawn0.refl _|apply Drawn0.step)⟩
           rw [if_neg c34] at H
           have c34b0 : ((bt a0 x4_2) == 43) = false := beq_eq_false_iff_ne.mpr c34
           have c34b1 : ((bt a0 x4_2) != 43) = true := bne_iff_ne.mpr c34
           by_cases c35 : (bt a0 x4_2) = 45
           ·
            rw [if_pos c35] at H
            have c35b0 : ((bt a0 x4_2) == 45) = true := beq_iff_eq.mpr c35
            have c35b1 : ((bt a0 x4_2) != 45) = false := bne_eq_false_iff_eq.mpr c35
            clear c35
            have H' := Aside0.mk H
            clear H
            have p19 : 0 ≤ (x4_2 : Int) := odt_
            have q19 : x4_2 < (a0.size : Int) := odt_
            have hx19 := bt_at a0 x4_2
            replace p19 := eq_true p19
            replace q19 := eq_true q19
            go_wp2
            go_roundg k2
            case measure => have := HJ2.out;have := HK2.out;omega
            case rel => exact ⟨(wrap64 (x4_2 + 1)),(rs_),H',⟨by have := HJ2.out;have := HK2.out;omega⟩,by repeat (first|exact Drawn0.refl _|apply Drawn0.step)⟩
           rw [if_neg c35] at H
           have c35b0 : ((bt a0 x4_2) == 45) = false := beq_eq_false_iff_ne.mpr c35
           have c35b1 : ((bt a0 x4_2) != 45) = true := bne_iff_ne.mpr c35
           by_cases c36 : (bt a0 x4_2) = 46
           ·
            rw [if_pos c36] at H
            have c36b0 : ((bt a0 x4_2) == 46) = true := beq_iff_eq.mpr c36
            have c36b1 : ((bt a0 x4_2) != 46) = false := bne_eq_false_iff_eq.mpr c36
            clear c36
            have H' := Aside0.mk H
            clear H
            have p19 : 0 ≤ (x4_2 : Int) := odt_
            have q19 : x4_2 < (a0.size : Int) := odt_
            have hx19 := bt_at a0 x4_2
            replace p19 := eq_true p19
            replace q19 := eq_true q19
            go_wp2
            go_roundg k2
            case measure => have := HJ2.out;have := HK2.out;omega
            case rel => exact ⟨(wrap64 (x4_2 + 1)),(rs_),H',⟨by have := HJ2.out;have := HK2.out;omega⟩,by repeat (first|exact Drawn0.refl _|apply Drawn0.step)⟩
           rw [if_neg c36] at H
           have c36b0 : ((bt a0 x4_2) == 46) = false := beq_eq_false_iff_ne.mpr c36
           have c36b1 : ((bt a0 x4_2) != 46) = true := bne_iff_ne.mpr c36
           obtain rfl := Option.some.inj H
           have p19 : 0 ≤ (x4_2 : Int) := odt_
           have q19 : x4_2 < (a0.size : Int) := odt_
           have hx19 := bt_at a0 x4_2
           replace p19 := eq_true p19
           replace q19 := eq_true q19
           go_wp2
           go_ret
           exact ⟨rs_,by repeat (first|exact Drawn0.refl _|apply Drawn0.step)⟩
          rw [if_neg c33] at H
          have c33b0 : decide ((bt a0 x4_2) < 48) = false := decide_eq_false c33
          clear c33
          by_cases c37 : (bt a0 x4_2) > 57
          ·
           rw [if_pos c37] at H
           have c37b0 : decide (57 < (bt a0 x4_2)) = true := decide_eq_true c37
           clear c37
           by_cases c38 : (bt a0 x4_2) = 43
           ·
            rw [if_pos c38] at H
            have c38b0 : ((bt a0 x4_2) == 43) = true := beq_iff_eq.mpr c38
            have c38b1 : ((bt a0 x4_2) != 43) = false := bne_eq_false_iff_eq.mpr c38
            clear c38
            have H' := Aside0.mk H
            clear H
            have p19 : 0 ≤ (x4_2 : Int) := odt_
            have q19 : x4_2 < (a0.size : Int) := odt_
            have hx19 := bt_at a0 x4_2
            replace p19 := eq_true p19
            replace q19 := eq_true q19
            go_wp2
            go_roundg k2
            case measure => have := HJ2.out;have := HK2.out;omega
            case rel => exact ⟨(wrap64 (x4_2 + 1)),(rs_),H',⟨by have := HJ2.out;have := HK2.out;omega⟩,by repeat (first|exact Drawn0.refl _|apply Drawn0.step)⟩
           rw [if_neg c38] at H
           have c38b0 : ((bt a0 x4_2) == 43) = false := beq_eq_false_iff_ne.mpr c38
           have c38b1 : ((bt a0 x4_2) != 43) = true := bne_iff_ne.mpr c38
           by_cases c39 : (bt a0 x4_2) = 45
           ·
            rw [if_pos c39] at H
            have c39b0 : ((bt a0 x4_2) == 45) = true := beq_iff_eq.mpr c39
            have c39b1 : ((bt a0 x4_2) != 45) = false := bne_eq_false_iff_eq.mpr c39
            clear c39
            have H' := Aside0.mk H
            clear H
            have p19 : 0 ≤ (x4_2 : Int) := odt_
            have q19 : x4_2 < (a0.size : Int) := odt_
            have hx19 := bt_at a0 x4_2
            replace p19 := eq_true p19
            replace q19 := eq_true q19
            go_wp2
            go_roundg k2
            case measure => have := HJ2.out;have := HK2.out;omega
            case rel => exact ⟨(wrap64 (x4_2 + 1)),(rs_),H',⟨by have := HJ2.out;have := HK2.out;omega⟩,by repeat (first|exact Drawn0.refl _|apply Drawn0.step)⟩
           rw [if_neg c39] at H
           have c39b0 : ((bt a0 x4_2) == 45) = false := beq_eq_false_iff_ne.mpr c39
           have c39b1 : ((bt a0 x4_2) != 45) = true := bne_iff_ne.mpr c39
           by_cases c40 : (bt a0 x4_2) = 46
           ·
            rw [if_pos c40] at H
            have c40b0 : ((bt a0 x4_2) == 46) = true := beq_iff_eq.mpr c40
            have c40b1 : ((bt a0 x4_2) != 46) = false := bne_eq_false_iff_eq.mpr c40
            clear c40
            have H' := Aside0.mk H
            clear H
            have p19 : 0 ≤ (x4_2 : Int) := odt_
            have q19 : x4_2 < (a0.size : Int) := odt_
            have hx19 := bt_at a0 x4_2
            replace p19 := eq_true p19
            replace q19 := eq_true q19
            go_wp2
            go_roundg k2
            case measure => have := HJ2.out;have := HK2.out;omega
            case rel => exact ⟨(wrap64 (x4_2 + 1)),(rs_),H',⟨by have := HJ2.out;have := HK2.out;omega⟩,by repeat (first|exact Drawn0.refl _|apply Drawn0.step)⟩
           rw [if_neg c40] at H
           have c40b0 : ((bt a0 x4_2) == 46) = false := beq_eq_false_iff_ne.mpr c40
           have c40b1 : ((bt a0 x4_2) != 46) = true := bne_iff_ne.mpr c40
           obtain rfl := Option.some.inj H
           have p19 : 0 ≤ (x4_2 : Int) := odt_
           have q19 : x4_2 < (a0.size : Int) := odt_
           have hx19 := bt_at a0 x4_2
           replace p19 := eq_true p19
           replace q19 := eq_true q19
           go_wp2
           go_ret
           exact ⟨rs_,by repeat (first|exact Drawn0.refl _|apply Drawn0.step)⟩
          rw [if_neg c37] at H
          have c37b0 : decide (57 < (bt a0 x4_2)) = false := decide_eq_false c37
          clear c37
          have H' := Aside0.mk H
          clear H
          have p19 : 0 ≤ (x4_2 : Int) := odt_
          have q19 : x4_2 < (a0.size : Int) := odt_
          have hx19 := bt_at a0 x4_2
          replace p19 := eq_true p19
          replace q19 := eq_true q19
          go_wp2
          go_roundg k2
          case measure => have := HJ2.out;have := HK2.out;omega
          case rel => exact ⟨(wrap64 (x4_2 + 1)),(rs_),H',⟨by have := HJ2.out;have := HK2.out;omega⟩,by repeat (first|exact Drawn0.refl _|apply Drawn0.step)⟩
         rw [if_neg c31] at H
         have c31b0 : decide (90 < (bt a0 x4_2)) = false := decide_eq_false c31
         clear c31
         have H' := Aside0.mk H
         clear H
         have p19 : 0 ≤ (x4_2 : Int) := odt_
         have q19 : x4_2 < (a0.size : Int) := odt_
         have hx19 := bt_at a0 x4_2
         replace p19 := eq_true p19
         replace q19 := eq_true q19
         go_wp2
         go_roundg k2
         case measure => have := HJ2.out;have := HK2.out;omega
         case rel => exact ⟨(wrap64 (x4_2 + 1)),(rs_),H',⟨by have := HJ2.out;have := HK2.out;omega⟩,by repeat (first|exact Drawn0.refl _|apply Drawn0.step)⟩
        rw [if_neg c20] at H
        have c20b0 : decide ((bt a0 x4_2) < 97) = false := decide_eq_false c20
        clear c20
        by_cases c41 : (bt a0 x4_2) > 122
        ·
         rw [if_pos c41] at H
         have c41b0 : decide (122 < (bt a0 x4_2)) = true := decide_eq_true c41
         clear c41
         by_cases c42 : (bt a0 x4_2) < 65
         ·
          rw [if_pos c42] at H
          have c42b0 : decide ((bt a0 x4_2) < 65) = true := decide_eq_true c42
          clear c42
          by_cases c43 : x4_2 = 0
          ·
           rw [if_pos c43] at H
           have c43b0 : (x4_2 == 0) = true := beq_iff_eq.mpr c43
           have c43b1 : (x4_2 != 0) = false := bne_eq_false_iff_eq.mpr c43
           clear c43
           obtain rfl := Option.some.inj H
           have p19 : 0 ≤ (x4_2 : Int) := odt_
           have q19 : x4_2 < (a0.size : Int) := odt_
           have hx19 := bt_at a0 x4_2
           replace p19 := eq_true p19
           replace q19 := eq_true q19
           go_wp2
           go_ret
           exact ⟨rs_,by repeat (first|exact Drawn0.refl _|apply Drawn0.step)⟩
          rw [if_neg c43] at H
          have c43b0 : (x4_2 == 0) = false := beq_eq_false_iff_ne.mpr c43
          have c43b1 : (x4_2 != 0) = true := bne_iff_ne.mpr c43
          by_cases c44 : (bt a0 x4_2) < 48
          ·
           rw [if_pos c44] at H
           have c44b0 : decide ((bt a0 x4_2) < 48) = true := decide_eq_true c44
           clear c44
           by_cases c45 : (bt a0 x4_2) = 43
           ·
            rw [if_pos c45] at H
            have c45b0 : ((bt a0 x4_2) == 43) = true := beq_iff_eq.mpr c45
            have c45b1 : ((bt a0 x4_2) != 43) = false := bne_eq_false_iff_eq.mpr c45
            clear c45
            have H' := Aside0.mk H
            clear H
            have p19 : 0 ≤ (x4_2 : Int) := odt_
            have q19 : x4_2 < (a0.size : Int) := odt_
            have hx19 := bt_at a0 x4_2
            replace p19 := eq_true p19
            replace q19 := eq_true q19
            go_wp2
            go_roundg k2
            case measure => have := HJ2.out;have := HK2.out;omega
            case rel => exact ⟨(wrap64 (x4_2 + 1)),(rs_),H',⟨by have := HJ2.out;have := HK2.out;omega⟩,by repeat (first|exact Drawn0.refl _|apply Drawn0.step)⟩
           rw [if_neg c45] at H
           have c45b0 : ((bt a0 x4_2) == 43) = false := beq_eq_false_iff_ne.mpr c45
           have c45b1 : ((bt a0 x4_2) != 43) = true := bne_iff_ne.mpr c45
           by_cases c46 : (bt a0 x4_2) = 45
           ·
            rw [if_pos c46] at H
            have c46b0 : ((bt a0 x4_2) == 45) = true := beq_iff_eq.mpr c46
            have c46b1 : ((bt a0 x4_2) != 45) = false := bne_eq_false_iff_eq.mpr c46
            clear c46
            have H' := Aside0.mk H
            clear H
            have p19 : 0 ≤ (x4_2 : Int) := odt_
            have q19 : x4_2 < (a0.size : Int) := odt_
            have hx19 := bt_at a0 x4_2
            replace p19 := eq_true p19
            replace q19 := eq_true q19
            go_wp2
            go_roundg k2
            case measure => have := HJ2.out;have := HK2.out;omega
            case rel => exact ⟨(wrap64 (x4_2 + 1)),(rs_),H',⟨by have := HJ2.out;have := HK2.out;omega⟩,by repeat (first|exact Drawn0.refl _|apply Drawn0.step)⟩
           rw [if_neg c46] at H
           have c46b0 : ((bt a0 x4_2) == 45) = false := beq_eq_false_iff_ne.mpr c46
           have c46b1 : ((bt a0 x4_2) != 45) = true := bne_iff_ne.mpr c46
           by_cases c47 : (bt a0 x4_2) = 46
           ·
            rw [if_pos c47] at H
            have c47b0 : ((bt a0 x4_2) == 46) = true := beq_iff_eq.mpr c47
            have c47b1 : ((bt a0 x4_2) != 46) = false := bne_eq_false_iff_eq.mpr c47
            clear c47
            have H' := Aside0.mk H
            clear H
            have p19 : 0 ≤ (x4_2 : Int) := odt_
            have q19 : x4_2 < (a0.size : Int) := odt_
            have hx19 := bt_at a0 x4_2
            replace p19 := eq_true p19
            replace q19 := eq_true q19
            go_wp2
            go_roundg k2
            case measure => have := HJ2.out;have := HK2.out;omega
            case rel => exact ⟨(wrap64 (x4_2 + 1)),(rs_),H',⟨by have := HJ2.out;have := HK2.out;omega⟩,by repeat (first|exact Drawn0.refl _|apply Drawn0.step)⟩
           rw [if_neg c47] at H
           have c47b0 : ((bt a0 x4_2) == 46) = false := beq_eq_false_iff_ne.mpr c47
           have c47b1 : ((bt a0 x4_2) != 46) = true := bne_iff_ne.mpr c47
           obtain rfl := Option.some.inj H
           have p19 : 0 ≤ (x4_2 : Int) := odt_
           have q19 : x4_2 < (a0.size : Int) := odt_
           have hx19 := bt_at a0 x4_2
           replace p19 := eq_true p19
           replace q19 := eq_true q19
           go_wp2
           go_ret
           exact ⟨rs_,by repeat (first|exact Drawn0.refl _|apply Drawn0.step)⟩
          rw [if_neg c44] at H
          have c44b0 : decide ((bt a0 x4_2) < 48) = false := decide_eq_false c44
          clear c44
          by_cases c48 : (bt a0 x4_2) > 57
          ·
           rw [if_pos c48] at H
           have c48b0 : decide (57 < (bt a0 x4_2)) = true := decide_eq_true c48
           clear c48
           by_cases c49 : (bt a0 x4_2) = 43
           ·
            rw [if_pos c49] at H
            have c49b0 : ((bt a0 x4_2) == 43) = true := beq_iff_eq.mpr c49
            have c49b1 : ((bt a0 x4_2) != 43) = false := bne_eq_false_iff_eq.mpr c49
            clear c49
            have H' := Aside0.mk H
            clear H
            have p19 : 0 ≤ (x4_2 : Int) := odt_
            have q19 : x4_2 < (a0.size : Int) := odt_
            have hx19 := bt_at a0 x4_2
            replace p19 := eq_true p19
            replace q19 := eq_true q19
            go_wp2
            go_roundg k2
            case measure => have := HJ2.out;have := HK2.out;omega
            case rel => exact ⟨(wrap64 (x4_2 + 1)),(rs_),H',⟨by have := HJ2.out;have := HK2.out;omega⟩,by repeat (first|exact Drawn0.refl _|apply Drawn0.step)⟩
           rw [if_neg c49] at H
           have c49b0 : ((bt a0 x4_2) == 43) = false := beq_eq_false_iff_ne.mpr c49
           have c49b1 : ((bt a0 x4_2) != 43) = true := bne_iff_ne.mpr c49
           by_cases c50 : (bt a0 x4_2) = 45
           ·
            rw [if_pos c50] at H
            have c50b0 : ((bt a0 x4_2) == 45) = true := beq_iff_eq.mpr c50
            have c50b1 : ((bt a0 x4_2) != 45) = false := bne_eq_false_iff_eq.mpr c50
            clear c50
            have H' := Aside0.mk H
            clear H
            have p19 : 0 ≤ (x4_2 : Int) := odt_
            have q19 : x4_2 < (a0.size : Int) := odt_
            have hx19 := bt_at a0 x4_2
            replace p19 := eq_true p19
            replace q19 := eq_true q19
            go_wp2
            go_roundg k2
            case measure => have := HJ2.out;have := HK2.out;omega
            case rel => exact ⟨(wrap64 (x4_2 + 1)),(rs_),H',⟨by have := HJ2.out;have := HK2.out;omega⟩,by repeat (first|exact Drawn0.refl _|apply Drawn0.step)⟩
           rw [if_neg c50] at H
           have c50b0 : ((bt a0 x4_2) == 45) = false := beq_eq_false_iff_ne.mpr c50
           have c50b1 : ((bt a0 x4_2) != 45) = true := bne_iff_ne.mpr c50
           by_cases c51 : (bt a0 x4_2) = 46
           ·
            rw [if_pos c51] at H
            have c51b0 : ((bt a0 x4_2) == 46) = true := beq_iff_eq.mpr c51
            have c51b1 : ((bt a0 x4_2) != 46) = false := bne_eq_false_iff_eq.mpr c51
            clear c51
            have H' := Aside0.mk H
            clear H
            have p19 : 0 ≤ (x4_2 : Int) := odt_
            have q19 : x4_2 < (a0.size : Int) := odt_
            have hx19 := bt_at a0 x4_2
            replace p19 := eq_true p19
            replace q19 := eq_true q19
            go_wp2
            go_roundg k2
            case measure => have := HJ2.out;have := HK2.out;omega
            case rel => exact ⟨(wrap64 (x4_2 + 1)),(rs_),H',⟨by have := HJ2.out;have := HK2.out;omega⟩,by repeat (first|exact Drawn0.refl _|apply Drawn0.step)⟩
           rw [if_neg c51] at H
           have c51b0 : ((bt a0 x4_2) == 46) = false := beq_eq_false_iff_ne.mpr c51
           have c51b1 : ((bt a0 x4_2) != 46) = true := bne_iff_ne.mpr c51
           obtain rfl := Option.some.inj H
           have p19 : 0 ≤ (x4_2 : Int) := odt_
           have q19 : x4_2 < (a0.size : Int) := odt_
           have hx19 := bt_at a0 x4_2
           replace p19 := eq_true p19
           replace q19 := eq_true q19
           go_wp2
           go_ret
           exact ⟨rs_,by repeat (first|exact Drawn0.refl _|apply Drawn0.step)⟩
          rw [if_neg c48] at H
          have c48b0 : decide (57 < (bt a0 x4_2)) = false := decide_eq_false c48
          clear c48
          have H' := Aside0.mk H
          clear H
          have p19 : 0 ≤ (x4_2 : Int) := odt_
          have q19 : x4_2 < (a0.size : Int) := odt_
          have hx19 := bt_at a0 x4_2
          replace p19 := eq_true p19
          replace q19 := eq_true q19
          go_wp2
          go_roundg k2
          case measure => have := HJ2.out;have := HK2.out;omega
          case rel => exact ⟨(wrap64 (x4_2 + 1)),(rs_),H',⟨by have := HJ2.out;have := HK2.out;omega⟩,by repeat (first|exact Drawn0.refl _|apply Drawn0.step)⟩
         rw [if_neg c42] at H
         have c42b0 : decide ((bt a0 x4_2) < 65) = false := decide_eq_false c42
         clear c42
         by_cases c52 : (bt a0 x4_2) > 90
         ·
          rw [if_pos c52] at H
          have c52b0 : decide (90 < (bt a0 x4_2)) = true := decide_eq_true c52
          clear c52
          by_cases c53 : x4_2 = 0
          ·
           rw [if_pos c53] at H
           have c53b0 : (x4_2 == 0) = true := beq_iff_eq.mpr c53
           have c53b1 : (x4_2 != 0) = false := bne_eq_false_iff_eq.mpr c53
           clear c53
           obtain rfl := Option.some.inj H
           have p19 : 0 ≤ (x4_2 : Int) := odt_
           have q19 : x4_2 < (a0.size : Int) := odt_
           have hx19 := bt_at a0 x4_2
           replace p19 := eq_true p19
           replace q19 := eq_true q19
           go_wp2
           go_ret
           exact ⟨rs_,by repeat (first|exact Drawn0.refl _|apply Drawn0.step)⟩
          rw [if_neg c53] at H
          have c53b0 : (x4_2 == 0) = false := beq_eq_false_iff_ne.mpr c53
          have c53b1 : (x4_2 != 0) = true := bne_iff_ne.mpr c53
          by_cases c54 : (bt a0 x4_2) < 48
          ·
           rw [if_pos c54] at H
           have c54b0 : decide ((bt a0 x4_2) < 48) = true := decide_eq_true c54
           clear c54
           by_cases c55 : (bt a0 x4_2) = 43
           ·
            rw [if_pos c55] at H
            have c55b0 : ((bt a0 x4_2) == 43) = true := beq_iff_eq.mpr c55
            have c55b1 : ((bt a0 x4_2) != 43) = false := bne_eq_false_iff_eq.mpr c55
            clear c55
            have H' := Aside0.mk H
            clear H
            have p19 : 0 ≤ (x4_2 : Int) := odt_
            have q19 : x4_2 < (a0.size : Int) := odt_
            have hx19 := bt_at a0 x4_2
            replace p19 := eq_true p19
            replace q19 := eq_true q19
            go_wp2
            go_roundg k2
            case measure => have := HJ2.out;have := HK2.out;omega
            case rel => exact ⟨(wrap64 (x4_2 + 1)),(rs_),H',⟨by have := HJ2.out;have := HK2.out;omega⟩,by repeat (first|exact Drawn0.refl _|apply Drawn0.step)⟩
           rw [if_neg c55] at H
           have c55b0 : ((bt a0 x4_2) == 43) = false := beq_eq_false_iff_ne.mpr c55
           have c55b1 : ((bt a0 x4_2) != 43) = true := bne_iff_ne.mpr c55
           by_cases c56 : (bt a0 x4_2) = 45
           ·
            rw [if_pos c56] at H
            have c56b0 : ((bt a0 x4_2) == 45) = true := beq_iff_eq.mpr c56
            have c56b1 : ((bt a0 x4_2) != 45) = false := bne_eq_false_iff_eq.mpr c56
            clear c56
            have H' := Aside0.mk H
            clear H
            have p19 : 0 ≤ (x4_2 : Int) := odt_
            have q19 : x4_2 < (a0.size : Int) := odt_
            have hx19 := bt_at a0 x4_2
            replace p19 := eq_true p19
            replace q19 := eq_true q19
            go_wp2
            go_roundg k2
            case measure => have := HJ2.out;have := HK2.out;omega
            case rel => exact ⟨(wrap64 (x4_2 + 1)),(rs_),H',⟨by have := HJ2.out;have := HK2.out;omega⟩,by repeat (first|exact Drawn0.refl _|apply Drawn0.step)⟩
           rw [if_neg c56] at H
           have c56b0 : ((bt a0 x4_2) == 45) = false := beq_eq_false_iff_ne.mpr c56
           have c56b1 : ((bt a0 x4_2) != 45) = true := bne_iff_ne.mpr c56
           by_cases c57 : (bt a0 x4_2) = 46
           ·
            rw [if_pos c57] at H
            have c57b0 : ((bt a0 x4_2) == 46) = true := beq_iff_eq.mpr c57
            have c57b1 : ((bt a0 x4_2) != 46) = false := bne_eq_false_iff_eq.mpr c57
            clear c57
            have H' := Aside0.mk H
            clear H
            have p19 : 0 ≤ (x4_2 : Int) := odt_
            have q19 : x4_2 < (a0.size : Int) := odt_
            have hx19 := bt_at a0 x4_2
            replace p19 := eq_true p19
            replace q19 := eq_true q19
            go_wp2
            go_roundg k2
            case measure => have := HJ2.out;have := HK2.out;omega
            case rel => exact ⟨(wrap64 (x4_2 + 1)),(rs_),H',⟨by have := HJ2.out;have := HK2.out;omega⟩,by repeat (first|exact Drawn0.refl _|apply Drawn0.step)⟩
           rw [if_neg c57] at H
           have c57b0 : ((bt a0 x4_2) == 46) = false := beq_eq_false_iff_ne.mpr c57
           have c57b1 : ((bt a0 x4_2) != 46) = true := bne_iff_ne.mpr c57
           obtain rfl := Option.some.inj H
           have p19 : 0 ≤ (x4_2 : Int) := odt_
           have q19 : x4_2 < (a0.size : Int) := odt_
           have hx19 := bt_at a0 x4_2
           replace p19 := eq_true p19
           replace q19 := eq_true q19
           go_wp2
           go_ret
           exact ⟨rs_,by repeat (first|exact Drawn0.refl _|apply Drawn0.step)⟩
          rw [if_neg c54] at H
          have c54b0 : decide ((bt a0 x4_2) < 48) = false := decide_eq_false c54
          clear c54
          by_cases c58 : (bt a0 x4_2) > 57
          ·
           rw [if_pos c58] at H
           have c58b0 : decide (57 < (bt a0 x4_2)) = true := decide_eq_true c58
           clear c58
           by_cases c59 : (bt a0 x4_2) = 43
           ·
            rw [if_pos c59] at H
            have c59b0 : ((bt a0 x4_2) == 43) = true := beq_iff_eq.mpr c59
            have c59b1 : ((bt a0 x4_2) != 43) = false := bne_eq_false_iff_eq.mpr c59
            clear c59
            have H' := Aside0.mk H
            clear H
            have p19 : 0 ≤ (x4_2 : Int) := odt_
            have q19 : x4_2 < (a0.size : Int) := odt_
            have hx19 := bt_at a0 x4_2
            replace p19 := eq_true p19
            replace q19 := eq_true q19
            go_wp2
            go_roundg k2
            case measure => have := HJ2.out;have := HK2.out;omega
            case rel => exact ⟨(wrap64 (x4_2 + 1)),(rs_),H',⟨by have := HJ2.out;have := HK2.out;omega⟩,by repeat (first|exact Drawn0.refl _|apply Drawn0.step)⟩
           rw [if_neg c59] at H
           have c59b0 : ((bt a0 x4_2) == 43) = false := beq_eq_false_iff_ne.mpr c59
           have c59b1 : ((bt a0 x4_2) != 43) = true := bne_iff_ne.mpr c59
           by_cases c60 : (bt a0 x4_2) = 45
           ·
            rw [if_pos c60] at H
            have c60b0 : ((bt a0 x4_2) == 45) = true := beq_iff_eq.mpr c60
            have c60b1 : ((bt a0 x4_2) != 45) = false := bne_eq_false_iff_eq.mpr c60
            clear c60
            have H' := Aside0.mk H
            clear H
            have p19 : 0 ≤ (x4_2 : Int) := odt_
            have q19 : x4_2 < (a0.size : Int) := odt_
            have hx19 := bt_at a0 x4_2
            replace p19 := eq_true p19
            replace q19 := eq_true q19
            go_wp2
            go_roundg k2
            case measure => have := HJ2.out;have := HK2.out;omega
            case rel => exact ⟨(wrap64 (x4_2 + 1)),(rs_),H',⟨by have := HJ2.out;have := HK2.out;omega⟩,by repeat (first|exact Drawn0.refl _|apply Drawn0.step)⟩
           rw [if_neg c60] at H
           have c60b0 : ((bt a0 x4_2) == 45) = false := beq_eq_false_iff_ne.mpr c60
           have c60b1 : ((bt a0 x4_2) != 45) = true := bne_iff_ne.mpr c60
           by_cases c61 : (bt a0 x4_2) = 46
           ·
            rw [if_pos c61] at H
            have c61b0 : ((bt a0 x4_2) == 46) = true := beq_iff_eq.mpr c61
            have c61b1 : ((bt a0 x4_2) != 46) = false := bne_eq_false_iff_eq.mpr c61
            clear c61
            have H' := Aside0.mk H
            clear H
            have p19 : 0 ≤ (x4_2 : Int) := odt_
            have q19 : x4_2 < (a0.size : Int) := odt_
            have hx19 := bt_at a0 x4_2
            replace p19 := eq_true p19
            replace q19 := eq_true q19
            go_wp2
            go_roundg k2
            case measure => have := HJ2.out;have := HK2.out;omega
            case rel => exact ⟨(wrap64 (x4_2 + 1)),(rs_),H',⟨by have := HJ2.out;have := HK2.out;omega⟩,by repeat (first|exact Drawn0.refl _|apply Drawn0.step)⟩
           rw [if_neg c61] at H
           have c61b0 : ((bt a0 x4_2) == 46) = false := beq_eq_false_iff_ne.mpr c61
           have c61b1 : ((bt a0 x4_2) != 46) = true := bne_iff_ne.mpr c61
           obtain rfl := Option.some.inj H
           have p19 : 0 ≤ (x4_2 : Int) := odt_
           have q19 : x4_2 < (a0.size : Int) := odt_
           have hx19 := bt_at a0 x4_2
           replace p19 := eq_true p19
           replace q19 := eq_true q19
           go_wp2
           go_ret
           exact ⟨rs_,by repeat (first|exact Drawn0.refl _|apply Drawn0.step)⟩
          rw [if_neg c58] at H
          have c58b0 : decide (57 < (bt a0 x4_2)) = false := decide_eq_false c58
          clear c58
          have H' := Aside0.mk H
          clear H
          have p19 : 0 ≤ (x4_2 : Int) := odt_
          have q19 : x4_2 < (a0.size : Int) := odt_
          have hx19 := bt_at a0 x4_2
          replace p19 := eq_true p19
          replace q19 := eq_true q19
          go_wp2
          go_roundg k2
          case measure => have := HJ2.out;have := HK2.out;omega
          case rel => exact ⟨(wrap64 (x4_2 + 1)),(rs_),H',⟨by have := HJ2.out;have := HK2.out;omega⟩,by repeat (first|exact Drawn0.refl _|apply Drawn0.step)⟩
         rw [if_neg c52] at H
         have c52b0 : decide (90 < (bt a0 x4_2)) = false := decide_eq_false c52
         clear c52
         have H' := Aside0.mk H
         clear H
         have p19 : 0 ≤ (x4_2 : Int) := odt_
         have q19 : x4_2 < (a0.size : Int) := odt_
         have hx19 := bt_at a0 x4_2
         replace p19 := eq_true p19
         replace q19 := eq_true q19
         go_wp2
         go_roundg k2
         case measure => have := HJ2.out;have := HK2.out;omega
         case rel => exact ⟨(wrap64 (x4_2 + 1)),(rs_),H',⟨by have := HJ2.out;have := HK2.out;omega⟩,by repeat (first|exact Drawn0.refl _|apply Drawn0.step)⟩
        rw [if_neg c41] at H
        have c41b0 : decide (122 < (bt a0 x4_2)) = false := decide_eq_false c41
        clear c41
        have H' := Aside0.mk H
        clear H
        have p19 : 0 ≤ (x4_2 : Int) := odt_
        have q19 : x4_2 < (a0.size : Int) := odt_
        have hx19 := bt_at a0 x4_2
        replace p19 := eq_true p19
        replace q19 := eq_true q19
        go_wp2
        go_roundg k2
        case measure => have := HJ2.out;have := HK2.out;omega
        case rel => exact ⟨(wrap64 (x4_2 + 1)),(rs_),H',⟨by have := HJ2.out;have := HK2.out;omega⟩,by repeat (first|exact Drawn0.refl _|apply Drawn0.step)⟩
       rw [if_neg c18] at H
       exact absurd H (by simp)
      rw [if_neg c17] at H
      exact absurd H (by simp)
     rw [if_neg c16] at H
     have c16b0 : decide (x4_2 < t331) = false := decide_eq_false c16
     clear c16
     obtain rfl := Option.some.inj H
     go_wp2
     go_ret
     exact ⟨rs_,by repeat (first|exact Drawn0.refl _|apply Drawn0.step)⟩
end Go.Proofs.Ytbkeakeldegkeaa.Q
end
section
namespace Go.Proofs.Ytbkeakeldegkeaa.Q
open Go.RowKit Go.Proofs.YtbkeakeldegkeaaW.PrintWords Go.Proofs.YtbkeakeldegkeaaW.PrintLast Go.Proofs.YtbkeakeldegkeaaW.PrintMore
attribute [local go_sem] max2_int min2_int max_two min_two max_three min_three max_four min_four
mutual
def spec_hexOf.j0 : Nat → Int → Bool → Option (Int)
 | 0,_,_ => none
 | k + 1,x0,x3 => if x3 = true then (some ((x0 - 48) % 256)) else (if x0 ≥ 97 then (spec_hexOf.j1 k x0 (decide (x0 ≤ 102))) else (spec_hexOf.j1 k x0 false))
def spec_hexOf.j1 : Nat → Int → Bool → Option (Int)
 | 0,_,_ => none
 | k + 1,x0,x13 => if x13 = true then (some (((x0 - 97) % 256) + 10)) else (if x0 ≥ 65 then (if x0 ≤ 70 then (some (((x0 - 65) % 256) + 10)) else (some (-1))) else (some (-1)))
end
def spec_hexOf.f (k : Nat) (a0 : Int) : Option (Int) := if a0 ≥ 48 then (spec_hexOf.j0 k a0 (decide (a0 ≤ 57))) else (spec_hexOf.j0 k a0 false)
theorem spec_hexOf.mono_l : ∀ k,(∀ y0 y1,LeO (spec_hexOf.j0 k y0 y1) (spec_hexOf.j0 (k + 1) y0 y1)) ∧ (∀ y0 y1,LeO (spec_hexOf.j1 k y0 y1) (spec_hexOf.j1 (k + 1) y0 y1))
 | 0 => ⟨fun _ _ r h => by simp [spec_hexOf.j0] at h,fun _ _ r h => by simp [spec_hexOf.j1] at h⟩
 | k + 1 => by
  obtain ⟨ih0,ih1⟩ := spec_hexOf.mono_l k
  refine ⟨?_,?_⟩
  ·
   intro y0 y1
   unfold spec_hexOf.j0
   repeat' first
   | (with_reducible exact ih0 _ _)
   | (with_reducible exact ih1 _ _)
   | (with_reducible exact LeO.refl _)
   | (with_reducible exact LeO.none _)
   | (with_reducible refine LeO.ite ?_ ?_)
   | (with_reducible refine LeO.bind ?_ (fun _ => ?_))
   | exact ih0 _ _
   | exact ih1 _ _
   | exact LeO.none _
   | refine LeO.ite ?_ ?_
   | refine LeO.bind ?_ (fun _ => ?_)
  intro y0 y1
  unfold spec_hexOf.j1
  repeat' first
  | (with_reducible exact ih0 _ _)
  | (with_reducible exact ih1 _ _)
  | (with_reducible exact LeO.refl _)
  | (with_reducible exact LeO.none _)
  | (with_reducible refine LeO.ite ?_ ?_)
  | (with_reducible refine LeO.bind ?_ (fun _ => ?_))
  | exact ih0 _ _
  | exact ih1 _ _
  | exact LeO.none _
  | refine LeO.ite ?_ ?_
  | refine LeO.bind ?_ (fun _ => ?_)
theorem spec_hexOf.mono : ∀ a0 k,LeO (spec_hexOf.f k a0) (spec_hexOf.f (k + 1) a0) := by
 intro a0 k
 obtain ⟨ih0,ih1⟩ := spec_hexOf.mono_l k
 unfold spec_hexOf.f
 repeat' first
   | (with_reducible exact ih0 _ _)
   | (with_reducible exact ih1 _ _)
   | (with_reducible exact LeO.refl _)
   | (with_reducible exact LeO.none _)
   | (with_reducible refine LeO.ite ?_ ?_)
   | (with_reducible refine LeO.bind ?_ (fun _ => ?_))
   | exact ih0 _ _
   | exact ih1 _ _
   | exact LeO.none _
   | refine LeO.ite ?_ ?_
   | refine LeO.bind ?_ (fun _ => ?_)
set_option maxHeartbeats 8000000 in
set_option maxRecDepth 100000 in
theorem spec_hexOf.calls (k : Nat) (a0 : Int) (r : Int) (w : World) (h : spec_hexOf.f k a0 = some r) :
  Calls Try.prog 75 #[.int .u8 a0] w fun e w' => e = .returned (.int .i64 r) ∧ Drawn0 w w' := by
 have H : (if a0 ≥ 48 then (spec_hexOf.j0 k a0 (decide (a0 ≤ 57))) else (spec_hexOf.j0 k a0 false)) = some r := h
 clear h
 have HC2 := Aside0.mk H
 clear H
 go_enter Try.func75,Try.ntmps75
 go_upto_region 1 with (fail)
 go_cut [3] (fun v3 wc => ∃ (kq : Nat) (x3_1 : Bool),v3 = .bool x3_1 ∧ Aside0 (spec_hexOf.j0 kq a0 x3_1 = some r) ∧ Aside0 (kq ≤ k) ∧ Drawn0 w wc)
 case first =>
  have H := HC2.out
  clear HC2
  by_cases c3 : a0 ≥ 48
  ·
   rw [if_pos c3] at H
   have c3b0 : decide (48 ≤ a0) = true := decide_eq_true c3
   clear c3
   (first|rw [c3b0]|(simp only [i64_w,i32_w];rw [c3b0])|(rw [YtbkeakeldegkeaaX.isEmpty_eq];rw [c3b0])|skip)
   have H' := Aside0.mk H
   clear H
   go_wp2
   go_meet
   case rel => exact ⟨_,(decide (a0 ≤ 57)),(rs_),H',⟨by first|omega|exact Nat.le_refl _⟩,by repeat (first|exact Drawn0.refl _|apply Drawn0.step)⟩
  rw [if_neg c3] at H
  have c3b0 : decide (48 ≤ a0) = false := decide_eq_false c3
  clear c3
  (first|rw [c3b0]|(simp only [i64_w,i32_w];rw [c3b0])|(rw [YtbkeakeldegkeaaX.isEmpty_eq];rw [c3b0])|skip)
  have H' := Aside0.mk H
  clear H
  go_wp2
  go_meet
  case rel => exact ⟨_,(false),(rs_),H',⟨by first|omega|exact Nat.le_refl _⟩,by repeat (first|exact Drawn0.refl _|apply Drawn0.step)⟩
 case rest =>
  clear HC2
  try clear p2
  try clear c3
  try clear c3b0
  obtain ⟨kq,x3_1,rfl,HA,HJ1,⟨mc1,rfl⟩⟩ := hcut
  cases kq with
  | zero => exact absurd HA.out (by simp [spec_hexOf.j0])
  | succ kj1 =>
   have H := HA.out
   clear HA
   simp only [spec_hexOf.j0] at H
   by_cases c4 : x3_1 = true
   ·
    subst c4
    have H1 : (some ((a0 - 48) % 256)) = some r := by rw [if_pos rfl] at H;exact H
    clear H
    have H := H1
    clear H1
    obtain rfl := Option.some.inj H
    go_wp2
    go_ret
    exact ⟨rs_,by repeat (first|exact Drawn0.refl _|apply Drawn0.step)⟩
   replace c4 := Bool.eq_false_iff.mpr c4
   subst c4
   have H1 : (if a0 ≥ 97 then (spec_hexOf.j1 kj1 a0 (decide (a0 ≤ 102))) else (spec_hexOf.j1 kj1 a0 false)) = some r := by rw [if_neg (show ¬ (false = true) by decide)] at H;exact H
   clear H
   have H := H1
   clear H1
   have HC5 := Aside0.mk H
   clear H
   go_upto_region 3 with (fail)
   go_cut [13] (fun v13 wc => ∃ (kq : Nat) (x13_4 : Bool),v13 = .bool x13_4 ∧ Aside0 (spec_hexOf.j1 kq a0 x13_4 = some r) ∧ Aside0 (kq ≤ kj1) ∧ Drawn0 w wc)
   case first =>
    have H := HC5.out
    clear HC5
    by_cases c6 : a0 ≥ 97
    ·
     rw [if_pos c6] at H
     have c6b0 : decide (97 ≤ a0) = true := decide_eq_true c6
     clear c6
     (first|rw [c6b0]|(simp only [i64_w,i32_w];rw [c6b0])|(rw [YtbkeakeldegkeaaX.isEmpty_eq];rw [c6b0])|skip)
     have H' := Aside0.mk H
     clear H
     go_wp2
     go_meet
     case rel => exact ⟨_,(decide (a0 ≤ 102)),(rs_),H',⟨by have := HJ1.out;first|omega|exact Nat.le_refl _⟩,by repeat (first|exact Drawn0.refl _|apply Drawn0.step)⟩
    rw [if_neg c6] at H
    have c6b0 : decide (97 ≤ a0) = false := decide_eq_false c6
    clear c6
    (first|rw [c6b0]|(simp only [i64_w,i32_w];rw [c6b0])|(rw [YtbkeakeldegkeaaX.isEmpty_eq];rw [c6b0])|skip)
    have H' := Aside0.mk H
    clear H
    go_wp2
    go_meet
    case rel => exact ⟨_,(false),(rs_),H',⟨by have := HJ1.out;first|omega|exact Nat.le_refl _⟩,by repeat (first|exact Drawn0.refl _|apply Drawn0.step)⟩
   case rest =>
    clear HC5
    try clear c1
    try clear p2
    try clear c3
    try clear c3b0
    try clear c4
    try clear c6
    try clear c6b0
    try clear p2
    obtain ⟨kq,x13_4,rfl,HA,HJ4,⟨mc4,rfl⟩⟩ := hcut
    cases kq with
    | zero => exact absurd HA.out (by simp [spec_hexOf.j1])
    | succ kj4 =>
     have H := HA.out
     clear HA
     simp only [spec_hexOf.j1] at H
     by_cases c7 : x13_4 = true
     ·
      subst c7
      have H1 : (some (((a0 - 97) % 256) + 10)) = some r := by rw [if_pos rfl] at H;exact H
      clear H
      have H := H1
      clear H1
      obtain rfl := Option.some.inj H
      go_wp2
      go_ret
      exact ⟨rs_,by repeat (first|exact Drawn0.refl _|apply Drawn0.step)⟩
     replace c7 := Bool.eq_false_iff.mpr c7
     subst c7
     have H1 : (if a0 ≥ 65 then (if a0 ≤ 70 then (some (((a0 - 65) % 256) + 10)) else (some (-1))) else (some (-1))) = some r := by rw [if_neg (show ¬ (false = true) by decide)] at H;exact H
     clear H
     have H := H1
     clear H1
     by_cases c8 : a0 ≥ 65
     ·
      rw [if_pos c8] at H
      have c8b0 : decide (65 ≤ a0) = true := decide_eq_true c8
      clear c8
      by_cases c9 : a0 ≤ 70
      ·
       rw [if_pos c9] at H
       have c9b0 : decide (a0 ≤ 70) = true := decide_eq_true c9
       clear c9
       obtain rfl := Option.some.inj H
       go_wp2
       go_ret
       exact ⟨rs_,by repeat (first|exact Drawn0.refl _|apply Drawn0.step)⟩
      rw [if_neg c9] at H
      have c9b0 : decide (a0 ≤ 70) = false := decide_eq_false c9
      clear c9
      obtain rfl := Option.some.inj H
      go_wp2
      go_ret
      exact ⟨rs_,by repeat (first|exact Drawn0.refl _|apply Drawn0.step)⟩
     rw [if_neg c8] at H
     have c8b0 : decide (65 ≤ a0) = false := decide_eq_false c8
     clear c8
     obtain rfl := Option.some.inj H
     go_wp2
     go_ret
     exact ⟨rs_,by repeat (first|exact Drawn0.refl _|apply Drawn0.step)⟩
end Go.Proofs.Ytbkeakeldegkeaa.Q
namespace Go.Proofs.Ytbkeakeldegkeaa.Q
open Go.RowKit Go.Proofs.YtbkeakeldegkeaaW.PrintWords Go.Proofs.YtbkeakeldegkeaaW.PrintLast Go.Proofs.YtbkeakeldegkeaaW.PrintMore
attribute [local go_sem] max2_int min2_int max_two min_two max_three min_three max_four min_four
def spec_Sound.l0 : Nat → ByteArray → Int → Option (Bool)
 | 0,_,_ => none
 | k + 1,x0,x3 => if x3 < (x0.size : Int) then (if 0 ≤ x3 then (if (bt x0 x3) = 37 then (if (wrap64 (x3 + 2)) ≥ (x0.size : Int) then (some false) else (if 0 ≤ (wrap64 (x3 + 1)) then (if (wrap64 (x3 + 1)) < (x0.size : Int) then ((spec_hexOf.f k (bt x0 (wrap64 (x3 + 1)))).bind fun t332 => (if t332 < 0 then (some false) else (if 0 ≤ (wrap64 (x3 + 2)) then (if (wrap64 (x3 + 2)) < (x0.size : Int) then ((spec_hexOf.f k (bt x0 (wrap64 (x3 + 2)))).bind fun t333 => (if t333 < 0 then (some false) else (spec_Sound.l0 k x0 (wrap64 (x3 + 1))))) else (none)) else (none)))) else (none)) else (none))) else (spec_Sound.l0 k x0 (wrap64 (x3 + 1)))) else (none)) else (some true)
def spec_Sound.f (k : Nat) (a0 : ByteArray) : Option (Bool) := spec_Sound.l0 k a0 0
set_option maxHeartbeats 8000000 in
set_option maxRecDepth 100000 in
theorem spec_Sound.calls (k : Nat) (a0 : ByteArray) (r : Bool) (w : World) (h : spec_Sound.f k a0 = some r) :
  Calls Try.prog 53 #[.string a0] w fun e w' => e = .returned (.bool r) ∧ Drawn0 w w' := by
 have H : (spec_Sound.l0 k a0 0) = some r := h
 clear h
 have H' := Aside0.mk H
 clear H
 go_enter Try.func53,Try.ntmps53
 go_wp2
 go_loopg [3] k (fun kq v3 w' => ∃ (x3_1 : Int),v3 = .int .i64 x3_1 ∧ Aside0 (spec_Sound.l0 kq a0 x3_1 = some r) ∧ Aside0 (kq ≤ k) ∧ Drawn0 w w')
 case atStart => exact ⟨(0),(rs_),H',⟨Nat.le_refl _⟩,by repeat (first|exact Drawn0.refl _|apply Drawn0.step)⟩
 case round =>
  clear H'
  obtain ⟨x3_1,rfl,HA,HK1,⟨m1,rfl⟩⟩ := hrel
  cases gk with
  | zero => exact absurd HA.out (by simp [spec_Sound.l0])
  | succ k1 =>
   have H := HA.out
   clear HA
   simp only [spec_Sound.l0] at H
   by_cases c2 : x3_1 < (a0.size : Int)
   ·
    rw [if_pos c2] at H
    have c2b0 : decide (x3_1 < (a0.size : Int)) = true := decide_eq_true c2
    clear c2
    by_cases c3 : 0 ≤ x3_1
    ·
     rw [if_pos c3] at H
     have c3b0 : decide (0 ≤ x3_1) = true := decide_eq_true c3
     clear c3
     by_cases c5 : (bt a0 x3_1) = 37
     ·
      rw [if_pos c5] at H
      have c5b0 : ((bt a0 x3_1) == 37) = true := beq_iff_eq.mpr c5
      have c5b1 : ((bt a0 x3_1) != 37) = false := bne_eq_false_iff_eq.mpr c5
      clear c5
      by_cases c6 : (wrap64 (x3_1 + 2)) ≥ (a0.size : Int)
      ·
       rw [if_pos c6] at H
       have c6b0 : decide ((a0.size : Int) ≤ (wrap64 (x3_1 + 2))) = true := decide_eq_true c6
       clear c6
       obtain rfl := Option.some.inj H
       have p4 : 0 ≤ (x3_1 : Int) := odt_
       have q4 : x3_1 < (a0.size : Int) := odt_
       have hx4 := bt_at a0 x3_1
       replace p4 := eq_true p4
       replace q4 := eq_true q4
       go_wp2
       go_ret
       exact ⟨rs_,by repeat (first|exact Drawn0.refl _|apply Drawn0.step)⟩
      rw [if_neg c6] at H
      have c6b0 : decide ((a0.size : Int) ≤ (wrap64 (x3_1 + 2))) = false := decide_eq_false c6
      clear c6
      obtain ⟨ji7,hji7⟩ : ∃ j_ : Int,(wrap64 (x3_1 + 1)) = j_ := ⟨_,rfl⟩
      replace H : (if 0 ≤ (ji7) then (if (ji7) < (a0.size : Int) then ((spec_hexOf.f k1 (bt a0 (ji7))).bind fun t332 => (if t332 < 0 then (some false) else (if 0 ≤ (wrap64 (x3_1 + 2)) then (if (wrap64 (x3_1 + 2)) < (a0.size : Int) then ((spec_hexOf.f k1 (bt a0 (wrap64 (x3_1 + 2)))).bind fun t333 => (if t333 < 0 then (some false) else (spec_Sound.l0 k1 a0 ji7))) else (none)) else (none)))) else (none)) else (none)) = some r := by first|(rw [hji7] at H;exact H)|(simp only [hji7] at H ⊢;exact H)
      have hji7w : (IntKind.i64.wrap (x3_1 + 1)) = ji7 := (i64_w _).trans hji7
      by_cases c8 : 0 ≤ (ji7)
      ·
       rw [if_pos c8] at H
       have c8b0 : decide (0 ≤ (ji7)) = true := decide_eq_true c8
       clear c8
       by_cases c9 : (ji7) < (a0.size : Int)
       ·
        rw [if_pos c9] at H
        have c9b0 : decide ((ji7) < (a0.size : Int)) = true := decide_eq_true c9
        clear c9
        replace H := Option.bind_eq_some_iff.mp H
        obtain ⟨t332,A110,H⟩ := H
        replace H : (if t332 < 0 then (some false) else (if 0 ≤ (wrap64 (x3_1 + 2)) then (if (wrap64 (x3_1 + 2)) < (a0.size : Int) then ((spec_hexOf.f k1 (bt a0 (wrap64 (x3_1 + 2)))).bind fun t333 => (if t333 < 0 then (some false) else (spec_Sound.l0 k1 a0 ji7))) else (none)) else (none))) = some r := H
        have A11 := Aside0.mk A110
        clear A110
        by_cases c12 : t332 < 0
        ·
         rw [if_pos c12] at H
         have c12b0 : decide (t332 < 0) = true := decide_eq_true c12
         clear c12
         obtain rfl := Option.some.inj H
         have p4 : 0 ≤ (x3_1 : Int) := odt_
         have q4 : x3_1 < (a0.size : Int) := odt_
         have hx4 := bt_at a0 x3_1
         replace p4 := eq_true p4
         replace q4 := eq_true q4
         have p10 : 0 ≤ ((ji7) : Int) := odt_
         have q10 : (ji7) < (a0.size : Int) := odt_
         have hx10 := bt_at a0 (ji7)
         replace p10 := eq_true p10
         replace q10 := eq_true q10
         go_wp2_with (first|(go_at_call 75;(with_reducible refine (spec_hexOf.calls k1 (bt a0 (ji7)) t332 _ A11.out).mono ?_);rintro e w' ⟨rfl,⟨nd,rfl⟩⟩))
         go_ret
         exact ⟨by first|rfl|(simp;done)|(simp only [← hji7] <;> (first|rfl|simp))|(simp [*];done)|(simp [YtbkeakeldegkeaaX.isEmpty_ne];done),by repeat (first|exact Drawn0.refl _|apply Drawn0.step)⟩
        rw [if_neg c12] at H
        have c12b0 : decide (t332 < 0) = false := decide_eq_false c12
        clear c12
        obtain ⟨ji13,hji13⟩ : ∃ j_ : Int,(wrap64 (x3_1 + 2)) = j_ := ⟨_,rfl⟩
        replace H : (if 0 ≤ (ji13) then (if (ji13) < (a0.size : Int) then ((spec_hexOf.f k1 (bt a0 (ji13))).bind fun t333 => (if t333 < 0 then (some false) else (spec_Sound.l0 k1 a0 ji7))) else (none)) else (none)) = some r := by first|(rw [hji13] at H;exact H)|(simp only [hji13] at H ⊢;exact H)
        (try rw [hji13] at c6b0)
        (try rw [hji13] at A11)
        have hji13w : (IntKind.i64.wrap (x3_1 + 2)) = ji13 := (i64_w _).trans hji13
        by_cases c14 : 0 ≤ (ji13)
        ·
         rw [if_pos c14] at H
         have c14b0 : decide (0 ≤ (ji13)) = true := decide_eq_true c14
         clear c14
         by_cases c15 : (ji13) < (a0.size : Int)
         ·
          rw [if_pos c15] at H
          have c15b0 : decide ((ji13) < (a0.size : Int)) = true := decide_eq_true c15
          clear c15
          replace H := Option.bind_eq_some_iff.mp H
          obtain ⟨t333,A170,H⟩ := H
          replace H : (if t333 < 0 then (some false) else (spec_Sound.l0 k1 a0 ji7)) = some r := H
          have A17 := Aside0.mk A170
          clear A170
          by_cases c18 : t333 < 0
          ·
           rw [if_pos c18] at H
           have c18b0 : decide (t333 < 0) = true := decide_eq_true c18
           clear c18
           obtain rfl := Option.some.inj H
           have p4 : 0 ≤ (x3_1 : Int) := odt_
           have q4 : x3_1 < (a0.size : Int) := odt_
           have hx4 := bt_at a0 x3_1
           replace p4 := eq_true p4
           replace q4 := eq_true q4
           have p10 : 0 ≤ ((ji7) : Int) := odt_
           have q10 : (ji7) < (a0.size : Int) := odt_
           have hx10 := bt_at a0 (ji7)
           replace p10 := eq_true p10
           replace q10 := eq_true q10
           go_wp2_with (first|(go_at_call 75;(with_reducible refine (spec_hexOf.calls k1 (bt a0 (ji7)) t332 _ A11.out).mono ?_);rintro e w' ⟨rfl,⟨nd,rfl⟩⟩;have p16 : 0 ≤ ((ji13) : Int) := odt_;have q16 : (ji13) < (a0.size : Int) := odt_;have hx16 := bt_at a0 (ji13);replace p16 := eq_true p16;replace q16 := eq_true q16)|(go_at_call 75;(with_reducible refine (spec_hexOf.calls k1 (bt a0 (ji13)) t333 _ A17.out).mono ?_);rintro e w' ⟨rfl,⟨nd,rfl⟩⟩))
           go_ret
           exact ⟨by first|rfl|(simp;done)|(simp only [← hji7,← hji13] <;> (first|rfl|simp))|(simp [*];done)|(simp [YtbkeakeldegkeaaX.isEmpty_ne];done),by repeat (first|exact Drawn0.refl _|apply Drawn0.step)⟩
          rw [if_neg c18] at H
          have c18b0 : decide (t333 < 0) = false := decide_eq_false c18
          clear c18
          have H' := Aside0.mk H
          clear H
          have p4 : 0 ≤ (x3_1 : Int) := odt_
          have q4 : x3_1 < (a0.size : Int) := odt_
          have hx4 := bt_at a0 x3_1
          replace p4 := eq_true p4
          replace q4 := eq_true q4
          have p10 : 0 ≤ ((ji7) : Int) := odt_
          have q10 : (ji7) < (a0.size : Int) := odt_
          have hx10 := bt_at a0 (ji7)
          replace p10 := eq_true p10
          replace q10 := eq_true q10
          go_wp2_with (first|(go_at_call 75;(with_reducible refine (spec_hexOf.calls k1 (bt a0 (ji7)) t332 _ A11.out).mono ?_);rintro e w' ⟨rfl,⟨nd,rfl⟩⟩;have p16 : 0 ≤ ((ji13) : Int) := odt_;have q16 : (ji13) < (a0.size : Int) := odt_;have hx16 := bt_at a0 (ji13);replace p16 := eq_true p16;replace q16 := eq_true q16)|(go_at_call 75;(with_reducible refine (spec_hexOf.calls k1 (bt a0 (ji13)) t333 _ A17.out).mono ?_);rintro e w' ⟨rfl,⟨nd,rfl⟩⟩))
          go_roundg k1
          case measure => have := HK1.out;omega
          case rel => exact ⟨(ji7),(by first|rfl|(simp;done)|(simp only [← hji7] <;> (first|rfl|simp))|(simp [*];done)|(simp [YtbkeakeldegkeaaX.isEmpty_ne];done)),H',⟨by have := HK1.out;omega⟩,by repeat (first|exact Drawn0.refl _|apply Drawn0.step)⟩
         rw [if_neg c15] at H
         exact absurd H (by simp)
        rw [if_neg c14] at H
        exact absurd H (by simp)
       rw [if_neg c9] at H
       exact absurd H (by simp)
      rw [if_neg c8] at H
      exact absurd H (by simp)
     rw [if_neg c5] at H
     have c5b0 : ((bt a0 x3_1) == 37) = false := beq_eq_false_iff_ne.mpr c5
     have c5b1 : ((bt a0 x3_1) != 37) = true := bne_iff_ne.mpr c5
     have H' := Aside0.mk H
     clear H
     have p4 : 0 ≤ (x3_1 : Int) := odt_
     have q4 : x3_1 < (a0.size : Int) := odt_
     have hx4 := bt_at a0 x3_1
     replace p4 := eq_true p4
     replace q4 := eq_true q4
     go_wp2
     go_roundg k1
     case measure => have := HK1.out;omega
     case rel => exact ⟨(wrap64 (x3_1 + 1)),(rs_),H',⟨by have := HK1.out;omega⟩,by repeat (first|exact Drawn0.refl _|apply Drawn0.step)⟩
    rw [if_neg c3] at H
    exact absurd H (by simp)
   rw [if_neg c2] at H
   have c2b0 : decide (x3_1 < (a0.size : Int)) = false := decide_eq_false c2
   clear c2
   obtain rfl := Option.some.inj H
   go_wp2
   go_ret
   exact ⟨rs_,by repeat (first|exact Drawn0.refl _|apply Drawn0.step)⟩
end Go.Proofs.Ytbkeakeldegkeaa.Q
end
