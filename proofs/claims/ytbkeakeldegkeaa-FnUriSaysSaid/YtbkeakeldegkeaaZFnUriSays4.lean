/- FnUriSays: the law's function, called with any arguments, returns true and leaves its arguments as they were: every input, no condition. Part 5 of 16. -/
import Derived.Test.YtbkeakeldegkeaaZFnUriSays1
import Derived.Test.YtbkeakeldegkeaaZFnUriSays3
import Derived.Test.YtbkeakeldegkeaaZFnUriSays2
import Derived.Laws.IdiomCopy
import Derived.Lib.SlBytesConst
import Derived.StillTailTactics
set_option linter.unusedVariables false
set_option linter.unusedSimpArgs false
section
namespace Go.Proofs.Ytbkeakeldegkeaa.Q
open Go.RowKit Go.Proofs.YtbkeakeldegkeaaW.PrintWords Go.Proofs.YtbkeakeldegkeaaW.PrintLast Go.Proofs.YtbkeakeldegkeaaW.PrintMore
attribute [local go_sem] max2_int min2_int max_two min_two max_three min_three max_four min_four
def bytes_LastIndex.f (k : Nat) (l0 : List Int) (l1 : List Int) : Option (Int) := if (l1.length : Int) = 0 then (some (l0.length : Int)) else (if (l1.length : Int) = 1 then (if 0 < (l1.length : Int) then ((bytealg_LastIndexByte.f k l0 (rd l1 0)).bind fun t147 => (some t147)) else (none)) else (if (l1.length : Int) = (l0.length : Int) then ((bytes_Equal.f l0 l1).bind fun t148 => (if t148 = true then (some 0) else (some (-1)))) else (if (l1.length : Int) > (l0.length : Int) then (some (-1)) else ((bytealg_LastIndexRabinKarp_byte.f k l0 l1).bind fun t149 => (some t149)))))
set_option maxHeartbeats 8000000 in
set_option maxRecDepth 100000 in
theorem bytes_LastIndex.calls (k : Nat) (A0 : Option Addr) (c0 : Nat) (l0 : List Int) (A1 : Option Addr) (c1 : Nat) (l1 : List Int) (r : Int) (w : World) (hr0 : Kd.C (Kd.int .u8) w A0 l0.length l0) (hc0 : l0.length ≤ c0) (hr1 : Kd.C (Kd.int .u8) w A1 l1.length l1) (hc1 : l1.length ≤ c1) (h : bytes_LastIndex.f k l0 l1 = some r) :
  Calls Try.prog 97 #[.slice A0 l0.length c0,.slice A1 l1.length c1] w fun e w' => e = .returned (.int .i64 r) ∧ Drawn0 w w' := by
 have HR0 := Aside0.mk hr0
 have HC0 := Aside0.mk hc0
 clear hr0 hc0
 have HR1 := Aside0.mk hr1
 have HC1 := Aside0.mk hc1
 clear hr1 hc1
 have H : (if (l1.length : Int) = 0 then (some (l0.length : Int)) else (if (l1.length : Int) = 1 then (if 0 < (l1.length : Int) then ((bytealg_LastIndexByte.f k l0 (rd l1 0)).bind fun t147 => (some t147)) else (none)) else (if (l1.length : Int) = (l0.length : Int) then ((bytes_Equal.f l0 l1).bind fun t148 => (if t148 = true then (some 0) else (some (-1)))) else (if (l1.length : Int) > (l0.length : Int) then (some (-1)) else ((bytealg_LastIndexRabinKarp_byte.f k l0 l1).bind fun t149 => (some t149)))))) = some r := h
 clear h
 by_cases c3 : (l1.length : Int) = 0
 ·
  rw [if_pos c3] at H
  have c3b0 : ((l1.length : Int) == 0) = true := beq_iff_eq.mpr c3
  have c3b1 : ((l1.length : Int) != 0) = false := bne_eq_false_iff_eq.mpr c3
  clear c3
  obtain rfl := Option.some.inj H
  go_enter Try.func97,Try.ntmps97
  go_wp2
  go_ret
  exact ⟨rs_,by repeat (first|exact Drawn0.refl _|apply Drawn0.step)⟩
 rw [if_neg c3] at H
 have c3b0 : ((l1.length : Int) == 0) = false := beq_eq_false_iff_ne.mpr c3
 have c3b1 : ((l1.length : Int) != 0) = true := bne_iff_ne.mpr c3
 have c3b2 : ¬ (l1 = []) := fun h_ => c3 (by rw [h_];rfl)
 by_cases c4 : (l1.length : Int) = 1
 ·
  rw [if_pos c4] at H
  have c4b0 : ((l1.length : Int) == 1) = true := beq_iff_eq.mpr c4
  have c4b1 : ((l1.length : Int) != 1) = false := bne_eq_false_iff_eq.mpr c4
  clear c4
  by_cases c5 : 0 < (l1.length : Int)
  ·
   rw [if_pos c5] at H
   have c5b0 : decide (0 < (l1.length : Int)) = true := decide_eq_true c5
   have c5b1 : decide (0 < l1.length) = true := decide_eq_true (by omega)
   clear c5
   replace H := Option.bind_eq_some_iff.mp H
   obtain ⟨t147,A60,H⟩ := H
   replace H : (some t147) = some r := H
   have A6 := Aside0.mk A60
   clear A60
   obtain rfl := Option.some.inj H
   have p146 : 0 ≤ (0 : Int) := (by omega)
   have q146 : 0 < (l1.length : Int) := odt_
   obtain ⟨ad146,e146,hx146_0⟩ := Kd.at_int HR1.out 0 p146 q146
   cases e146
   have qi146 : (0 < l1.length) = True := eq_true (by omega)
   (try rw [show ((0 : Int)).toNat = 0 from rfl] at hx146_0)
   (try rw [Addr.add_zero'] at hx146_0)
   replace p146 := eq_true p146
   replace q146 := eq_true q146
   go_enter Try.func97,Try.ntmps97
   go_wp2_with (first|((with_reducible refine gate_callee (f := 91) rfl ?_);refine goesL_ (some 20) rfl rfl Try.func91 (by kernel_rfl) rfl #[.slice A0 l0.length c0,.int .u8 (rd l1 0)] rfl (by (try simp only [List.map_toArray,List.map_cons,List.map_nil]);first|done|rfl|(simp only [List.length_drop,List.length_take];rfl)) ?_;(with_reducible refine (bytealg_LastIndexByte.calls k _ _ l0 (rd l1 0) t147 _ ?side1 ?side2 A6.out).mono ?_);(case side1 => repeat (first|exact HR0.out|(with_reducible refine Kd.C_alloc ?_ _)|(with_reducible refine Kd.C_drewN ?_ _)|(with_reducible refine Kd.C_drew ?_)));(case side2 => exact HC0.out);rintro e w' ⟨rfl,⟨nd,rfl⟩⟩;refine ⟨_,rfl,?_⟩))
   go_ret
   exact ⟨rs_,by repeat (first|exact Drawn0.refl _|apply Drawn0.step)⟩
  rw [if_neg c5] at H
  exact absurd H (by simp)
 rw [if_neg c4] at H
 have c4b0 : ((l1.length : Int) == 1) = false := beq_eq_false_iff_ne.mpr c4
 have c4b1 : ((l1.length : Int) != 1) = true := bne_iff_ne.mpr c4
 by_cases c7 : (l1.length : Int) = (l0.length : Int)
 ·
  rw [if_pos c7] at H
  have c7b0 : ((l1.length : Int) == (l0.length : Int)) = true := beq_iff_eq.mpr c7
  have c7b1 : ((l1.length : Int) != (l0.length : Int)) = false := bne_eq_false_iff_eq.mpr c7
  have c7b2 : (l1.length == l0.length) = true := by first|simpa using c7|(simp at c7 ⊢;omega)
  clear c7
  replace H := Option.bind_eq_some_iff.mp H
  obtain ⟨t148,A80,H⟩ := H
  replace H : (if t148 = true then (some 0) else (some (-1))) = some r := H
  have A8 := Aside0.mk A80
  clear A80
  by_cases c9 : t148 = true
  ·
   subst c9
   have H1 : (some 0) = some r := by rw [if_pos rfl] at H;exact H
   clear H
   have H := H1
   clear H1
   obtain rfl := Option.some.inj H
   go_enter Try.func97,Try.ntmps97
   go_wp2_with (first|((with_reducible refine gate_callee (f := 104) rfl ?_);refine goesL_ (some 28) rfl rfl Try.func104 (by kernel_rfl) rfl #[.slice A0 l0.length c0,.slice A1 l1.length c1] rfl (by (try simp only [List.map_toArray,List.map_cons,List.map_nil]);first|done|rfl|(simp only [List.length_drop,List.length_take];rfl)) ?_;(with_reducible refine (bytes_Equal.calls _ _ l0 _ _ l1 true _ ?side1 ?side2 ?side3 ?side4 A8.out).mono ?_);(case side1 => repeat (first|exact HR0.out|(with_reducible refine Kd.C_alloc ?_ _)|(with_reducible refine Kd.C_drewN ?_ _)|(with_reducible refine Kd.C_drew ?_)));(case side2 => exact HC0.out);(case side3 => repeat (first|exact HR1.out|(with_reducible refine Kd.C_alloc ?_ _)|(with_reducible refine Kd.C_drewN ?_ _)|(with_reducible refine Kd.C_drew ?_)));(case side4 => exact HC1.out);rintro e w' ⟨rfl,⟨nd,rfl⟩⟩;refine ⟨_,rfl,?_⟩))
   go_ret
   exact ⟨rs_,by repeat (first|exact Drawn0.refl _|apply Drawn0.step)⟩
  replace c9 := Bool.eq_false_iff.mpr c9
  subst c9
  have H1 : (some (-1)) = some r := by rw [if_neg (show ¬ (false = true) by decide)] at H;exact H
  clear H
  have H := H1
  clear H1
  obtain rfl := Option.some.inj H
  go_enter Try.func97,Try.ntmps97
  go_wp2_with (first|((with_reducible refine gate_callee (f := 104) rfl ?_);refine goesL_ (some 28) rfl rfl Try.func104 (by kernel_rfl) rfl #[.slice A0 l0.length c0,.slice A1 l1.length c1] rfl (by (try simp only [List.map_toArray,List.map_cons,List.map_nil]);first|done|rfl|(simp only [List.length_drop,List.length_take];rfl)) ?_;(with_reducible refine (bytes_Equal.calls _ _ l0 _ _ l1 false _ ?side1 ?side2 ?side3 ?side4 A8.out).mono ?_);(case side1 => repeat (first|exact HR0.out|(with_reducible refine Kd.C_alloc ?_ _)|(with_reducible refine Kd.C_drewN ?_ _)|(with_reducible refine Kd.C_drew ?_)));(case side2 => exact HC0.out);(case side3 => repeat (first|exact HR1.out|(with_reducible refine Kd.C_alloc ?_ _)|(with_reducible refine Kd.C_drewN ?_ _)|(with_reducible refine Kd.C_drew ?_)));(case side4 => exact HC1.out);rintro e w' ⟨rfl,⟨nd,rfl⟩⟩;refine ⟨_,rfl,?_⟩))
  go_ret
  exact ⟨rs_,by repeat (first|exact Drawn0.refl _|apply Drawn0.step)⟩
 rw [if_neg c7] at H
 have c7b0 : ((l1.length : Int) == (l0.length : Int)) = false := beq_eq_false_iff_ne.mpr c7
 have c7b1 : ((l1.length : Int) != (l0.length : Int)) = true := bne_iff_ne.mpr c7
 have c7b2 : (l1.length == l0.length) = false := by first|simpa using c7|(simp at c7 ⊢;omega)
 by_cases c10 : (l1.length : Int) > (l0.length : Int)
 ·
  rw [if_pos c10] at H
  have c10b0 : decide ((l0.length : Int) < (l1.length : Int)) = true := decide_eq_true c10
  have c10b1 : decide (l0.length < l1.length) = true := decide_eq_true (Int.ofNat_lt.mp c10)
  clear c10
  obtain rfl := Option.some.inj H
  go_enter Try.func97,Try.ntmps97
  go_wp2
  go_ret
  exact ⟨rs_,by repeat (first|exact Drawn0.refl _|apply Drawn0.step)⟩
 rw [if_neg c10] at H
 have c10b0 : decide ((l0.length : Int) < (l1.length : Int)) = false := decide_eq_false c10
 have c10b1 : decide (l0.length < l1.length) = false := decide_eq_false (fun h => c10 (Int.ofNat_lt.mpr h))
 clear c10
 replace H := Option.bind_eq_some_iff.mp H
 obtain ⟨t149,A110,H⟩ := H
 replace H : (some t149) = some r := H
 have A11 := Aside0.mk A110
 clear A110
 obtain rfl := Option.some.inj H
 go_enter Try.func97,Try.ntmps97
 go_wp2_with (first|((with_reducible refine gate_callee (f := 105) rfl ?_);refine goesL_ (some 36) rfl rfl Try.func105 (by kernel_rfl) rfl #[.slice A0 l0.length c0,.slice A1 l1.length c1] rfl (by (try simp only [List.map_toArray,List.map_cons,List.map_nil]);first|done|rfl|(simp only [List.length_drop,List.length_take];rfl)) ?_;(with_reducible refine (bytealg_LastIndexRabinKarp_byte.calls k _ _ l0 _ _ l1 t149 _ ?side1 ?side2 ?side3 ?side4 A11.out).mono ?_);(case side1 => repeat (first|exact HR0.out|(with_reducible refine Kd.C_alloc ?_ _)|(with_reducible refine Kd.C_drewN ?_ _)|(with_reducible refine Kd.C_drew ?_)));(case side2 => exact HC0.out);(case side3 => repeat (first|exact HR1.out|(with_reducible refine Kd.C_alloc ?_ _)|(with_reducible refine Kd.C_drewN ?_ _)|(with_reducible refine Kd.C_drew ?_)));(case side4 => exact HC1.out);rintro e w' ⟨rfl,⟨nd,rfl⟩⟩;refine ⟨_,rfl,?_⟩))
 go_ret
 exact ⟨rs_,by repeat (first|exact Drawn0.refl _|apply Drawn0.step)⟩
def hertzproto_stringContainsCTLByte.l0 : Nat → List Int → Int → Option (Bool)
 | 0,_,_ => none
 | k + 1,x0,x3 => if x3 < (x0.length : Int) then (if 0 ≤ x3 then (if (rd x0 x3) < 32 then (some true) else (if (rd x0 x3) = 127 then (some true) else (hertzproto_stringContainsCTLByte.l0 k x0 (wrap64 (x3 + 1))))) else (none)) else (some false)
def hertzproto_stringContainsCTLByte.f (k : Nat) (l0 : List Int) : Option (Bool) := hertzproto_stringContainsCTLByte.l0 k l0 0
set_option maxHeartbeats 8000000 in
set_option maxRecDepth 100000 in
theorem hertzproto_stringContainsCTLByte.calls (k : Nat) (A0 : Option Addr) (c0 : Nat) (l0 : List Int) (r : Bool) (w : World) (hr0 : Kd.C (Kd.int .u8) w A0 l0.length l0) (hc0 : l0.length ≤ c0) (h : hertzproto_stringContainsCTLByte.f k l0 = some r) :
  Calls Try.prog 78 #[.slice A0 l0.length c0] w fun e w' => e = .returned (.bool r) ∧ Drawn0 w w' := by
 have HR0 := Aside0.mk hr0
 have HC0 := Aside0.mk hc0
 clear hr0 hc0
 have H : (hertzproto_stringContainsCTLByte.l0 k l0 0) = some r := h
 clear h
 have H' := Aside0.mk H
 clear H
 go_enter Try.func78,Try.ntmps78
 go_wp2
 go_loopg [3] k (fun kq v3 w' => ∃ (x3_1 : Int),v3 = .int .i64 x3_1 ∧ Aside0 (hertzproto_stringContainsCTLByte.l0 kq l0 x3_1 = some r) ∧ Aside0 (kq ≤ k) ∧ Drawn0 w w')
 case atStart => exact ⟨(0),(rs_),H',⟨Nat.le_refl _⟩,by repeat (first|exact Drawn0.refl _|apply Drawn0.step)⟩
 case round =>
  clear H'
  obtain ⟨x3_1,rfl,HA,HK1,⟨m1,rfl⟩⟩ := hrel
  cases gk with
  | zero => exact absurd HA.out (by simp [hertzproto_stringContainsCTLByte.l0])
  | succ k1 =>
   have H := HA.out
   clear HA
   simp only [hertzproto_stringContainsCTLByte.l0] at H
   by_cases c2 : x3_1 < (l0.length : Int)
   ·
    rw [if_pos c2] at H
    have c2b0 : decide (x3_1 < (l0.length : Int)) = true := decide_eq_true c2
    clear c2
    by_cases c3 : 0 ≤ x3_1
    ·
     rw [if_pos c3] at H
     have c3b0 : decide (0 ≤ x3_1) = true := decide_eq_true c3
     clear c3
     by_cases c4 : (rd l0 x3_1) < 32
     ·
      rw [if_pos c4] at H
      have c4b0 : decide ((rd l0 x3_1) < 32) = true := decide_eq_true c4
      clear c4
      obtain rfl := Option.some.inj H
      have p170 : 0 ≤ (x3_1 : Int) := odt_
      have q170 : x3_1 < (l0.length : Int) := odt_
      obtain ⟨ad170,e170,hx170_0⟩ := Kd.at_int HR0.out x3_1 p170 q170
      cases e170
      replace p170 := eq_true p170
      replace q170 := eq_true q170
      go_wp2
      go_ret
      exact ⟨rs_,by repeat (first|exact Drawn0.refl _|apply Drawn0.step)⟩
     rw [if_neg c4] at H
     have c4b0 : decide ((rd l0 x3_1) < 32) = false := decide_eq_false c4
     clear c4
     by_cases c5 : (rd l0 x3_1) = 127
     ·
      rw [if_pos c5] at H
      have c5b0 : ((rd l0 x3_1) == 127) = true := beq_iff_eq.mpr c5
      have c5b1 : ((rd l0 x3_1) != 127) = false := bne_eq_false_iff_eq.mpr c5
      clear c5
      obtain rfl := Option.some.inj H
      have p170 : 0 ≤ (x3_1 : Int) := odt_
      have q170 : x3_1 < (l0.length : Int) := odt_
      obtain ⟨ad170,e170,hx170_0⟩ := Kd.at_int HR0.out x3_1 p170 q170
      cases e170
      replace p170 := eq_true p170
      replace q170 := eq_true q170
      go_wp2
      go_ret
      exact ⟨rs_,by repeat (first|exact Drawn0.refl _|apply Drawn0.step)⟩
     rw [if_neg c5] at H
     have c5b0 : ((rd l0 x3_1) == 127) = false := beq_eq_false_iff_ne.mpr c5
     have c5b1 : ((rd l0 x3_1) != 127) = true := bne_iff_ne.mpr c5
     have H' := Aside0.mk H
     clear H
     have p170 : 0 ≤ (x3_1 : Int) := odt_
     have q170 : x3_1 < (l0.length : Int) := odt_
     obtain ⟨ad170,e170,hx170_0⟩ := Kd.at_int HR0.out x3_1 p170 q170
     cases e170
     replace p170 := eq_true p170
     replace q170 := eq_true q170
     go_wp2
     go_roundg k1
     case measure => have := HK1.out;omega
     case rel => exact ⟨(wrap64 (x3_1 + 1)),(rs_),H',⟨by have := HK1.out;omega⟩,by repeat (first|exact Drawn0.refl _|apply Drawn0.step)⟩
    rw [if_neg c3] at H
    exact absurd H (by simp)
   rw [if_neg c2] at H
   have c2b0 : decide (x3_1 < (l0.length : Int)) = false := decide_eq_false c2
   clear c2
   obtain rfl := Option.some.inj H
   go_wp2
   go_ret
   exact ⟨rs_,by repeat (first|exact Drawn0.refl _|apply Drawn0.step)⟩
def hertzproto_zzContains.f (k : Nat) (l0 : List Int) (l1 : List Int) : Option (Bool) := (hertzproto_zzIndex.f k l0 l1).bind fun t171 => (some (decide (t171 ≥ 0)))
set_option maxHeartbeats 8000000 in
set_option maxRecDepth 100000 in
theorem hertzproto_zzContains.calls (k : Nat) (A0 : Option Addr) (c0 : Nat) (l0 : List Int) (A1 : Option Addr) (c1 : Nat) (l1 : List Int) (r : Bool) (w : World) (hr0 : Kd.C (Kd.int .u8) w A0 l0.length l0) (hc0 : l0.length ≤ c0) (hr1 : Kd.C (Kd.int .u8) w A1 l1.length l1) (hc1 : l1.length ≤ c1) (h : hertzproto_zzContains.f k l0 l1 = some r) :
  Calls Try.prog 79 #[.slice A0 l0.length c0,.slice A1 l1.length c1] w fun e w' => e = .returned (.bool r) ∧ Drawn0 w w' := by
 have HR0 := Aside0.mk hr0
 have HC0 := Aside0.mk hc0
 clear hr0 hc0
 have HR1 := Aside0.mk hr1
 have HC1 := Aside0.mk hc1
 clear hr1 hc1
 have H : ((hertzproto_zzIndex.f k l0 l1).bind fun t171 => (some (decide (t171 ≥ 0)))) = some r := h
 clear h
 replace H := Option.bind_eq_some_iff.mp H
 obtain ⟨t171,A30,H⟩ := H
 replace H : (some (decide (t171 ≥ 0))) = some r := H
 have A3 := Aside0.mk A30
 clear A30
 obtain rfl := Option.some.inj H
 go_enter Try.func79,Try.ntmps79
 go_wp2_with (first|((with_reducible refine gate_callee (f := 83) rfl ?_);refine goesL_ (some 7) rfl rfl Try.func83 (by kernel_rfl) rfl #[.slice A0 l0.length c0,.slice A1 l1.length c1] rfl (by (try simp only [List.map_toArray,List.map_cons,List.map_nil]);first|done|rfl|(simp only [List.length_drop,List.length_take];rfl)) ?_;(with_reducible refine (hertzproto_zzIndex.calls k _ _ l0 _ _ l1 t171 _ ?side1 ?side2 ?side3 ?side4 A3.out).mono ?_);(case side1 => repeat (first|exact HR0.out|(with_reducible refine Kd.C_alloc ?_ _)|(with_reducible refine Kd.C_drewN ?_ _)|(with_reducible refine Kd.C_drew ?_)));(case side2 => exact HC0.out);(case side3 => repeat (first|exact HR1.out|(with_reducible refine Kd.C_alloc ?_ _)|(with_reducible refine Kd.C_drewN ?_ _)|(with_reducible refine Kd.C_drew ?_)));(case side4 => exact HC1.out);rintro e w' ⟨rfl,⟨nd,rfl⟩⟩;refine ⟨_,rfl,?_⟩))
 go_ret
 exact ⟨rs_,by repeat (first|exact Drawn0.refl _|apply Drawn0.step)⟩
end Go.Proofs.Ytbkeakeldegkeaa.Q
namespace Go.Proofs.Ytbkeakeldegkeaa.Q
open Go.RowKit Go.Proofs.YtbkeakeldegkeaaW.PrintWords Go.Proofs.YtbkeakeldegkeaaW.PrintLast Go.Proofs.YtbkeakeldegkeaaW.PrintMore
attribute [local go_sem] max2_int min2_int max_two min_two max_three min_three max_four min_four
end Go.Proofs.Ytbkeakeldegkeaa.Q
end
section
namespace Go.Proofs.Ytbkeakeldegkeaa.Q
open Go.RowKit Go.Proofs.YtbkeakeldegkeaaW.PrintWords Go.Proofs.YtbkeakeldegkeaaW.PrintLast Go.Proofs.YtbkeakeldegkeaaW.PrintMore
open Go.Proofs.Ytbkeakeldegkeaa.SpA (toI toI_length toI_append)
theorem addr_add (g k j : Nat) : (⟨g,k,none⟩ : Addr).add j = ⟨g,k + j,none⟩ := by unfold Addr.add;by_cases hj : j = 0 <;> simp [hj]
theorem BR.pre {w : World} {g : Nat} {e : TypeId} {p q : List UInt8} (h : BR w g e (p ++ q)) : BR w g e p := by
 obtain ⟨C,lo,hi,hg,hs,hf,hc⟩ := h.out
 simp only [List.length_append] at hs hf
 refine ⟨C,lo,hi,hg,by omega,by omega,fun j hj => ?_⟩
 have := hc j (by simp;omega)
 rw [List.getElem_append_left hj] at this
 exact this
theorem BR.C {w : World} {g : Nat} {e : TypeId} {p q : List UInt8} (h : BR w g e (p ++ q)) (hl : (p ++ q).length ≤ 4611686018427387904) : Kd.C (Kd.int .u8) w (some ⟨g,p.length,none⟩) (toI q).length (toI q) := by
 simp only [List.length_append] at hl
 refine Kd.C_of_reads (enc := Value.int .u8) (d := (0 : Int)) (h1 := fun _ => rfl) ⟨rfl,by rw [toI_length];omega,fun _ => ⟨_,rfl,fun j hj => ?_⟩⟩
 rw [toI_length] at hj
 have := h.cell (p.length + j) (by simp;omega)
 rw [addr_add,this,List.getElem_append_right (by omega)]
 simp [toI,hj]
theorem BR.of_R {w : World} {base : Nat} {ok : Nat → Prop} {v : Value} {e : TypeId} {l : List UInt8} (h : Kd.R (Kd.int .u8) e w base ok v (toI l)) (hl : l ≠ []) :
  ∃ g c,v = .slice (some ⟨g,0,none⟩) l.length c ∧ base ≤ g ∧ l.length ≤ c ∧ c ≤ maxLen ∧ BR w g e l := by
 have ho := Kd.own_of_R h
 obtain ⟨_,ho2⟩ := ho
 have hp := List.length_pos_iff.2 hl
 rw [toI_length] at ho2
 rcases ho2 with ⟨_,h0⟩|⟨g,cap,cur,hv,hb,hg,hn,hm,hs,ht⟩
 ·
  omega
 refine ⟨g,cap,hv,hb,hn,hm,cur,0,0,hg,by omega,.inr rfl,fun j hj => ?_⟩
 have h1 : (cur.toList.take (l.length * 1))[j]? = (encs (Value.int .u8) (toI l))[j]? := by rw [ht]
 rw [List.getElem?_take,if_pos (by omega),Array.getElem?_toList] at h1
 rw [h1]
 simp [encs,toI,hj]
theorem BR.below2 {w W w' : World} {g : Nat} {e : TypeId} {l : List UInt8} (h : BR w g e l) (hb : Below W.heap.size W w') (he : W.heap = w.heap) : BR w' g e l := (BR.heap h (by rw [he])).below hb
theorem BR.shift {w : World} {g : Nat} {e : TypeId} (p q r : List UInt8) (h : BR w g e (p ++ q ++ r)) : BR (w.setCells g p.length (r.map fun x => Value.int .u8 (x.toNat : Int))) g e (p ++ r) := by
 have h2 : BR w g e (p ++ (q ++ r).take r.length) := by
  refine BR.pre (q := (q ++ r).drop r.length) ?_
  rw [List.append_assoc,List.take_append_drop,← List.append_assoc]
  exact h
 exact BR.copied r _ p w h2 (by simp)
section
variable {P : Program} {ops : Array Oper} {rest : List Oper} {o : Oper} {a : Act} {Q : Exit → Act → World → Prop} {W : World}
theorem shift_run (P : Program) (W : World) (dT sT ty e : TypeId) (hu : P.underlying dT = some (.slice e)) (hz : (P.info? e).map (·.size) = some 1)
  (g cd cs : Nat) (p q r : List UInt8) (hb : BR W g e (p ++ q ++ r)) :
  (Builtin.copy_ #[dT,sT] ty #[.slice (some ⟨g,p.length,none⟩) (q.length + r.length) cd,.slice (some ⟨g,p.length + q.length,none⟩) r.length cs]).run P W = .ok (goInt r.length) (W.setCells g p.length (r.map fun x => Value.int .u8 (x.toNat : Int))) := by
 have h := run_copy_cells (P := P) W dT sT ty e g p.length (q.length + r.length) cd ⟨g,p.length + q.length,none⟩ r.length cs (r.map fun x => Value.int .u8 (x.toNat : Int)) hu hz (by rw [List.length_map];exact (Nat.min_eq_left (by omega)).symm) (fun j v hj => by
   have hjl : j < r.length := by have := (List.getElem?_eq_some_iff.1 hj).1;simpa using this
   have h1 := hb.cell (p.length + q.length + j) (by simp;omega)
   rw [addr_add,h1,List.getElem_append_right (by simp)]
   rw [List.getElem?_map,List.getElem?_eq_getElem hjl] at hj
   simp at hj ⊢
   exact hj) (fun j hj => by
   rw [List.length_map] at hj
   rw [hb.cell (p.length + j) (by simp;omega)];rfl) (fun j hj => by
   rw [List.length_map] at hj
   exact hb.frozen (p.length + j) (by simp;omega)) (fun v hv => by
   obtain ⟨x,_,rfl⟩ := List.mem_map.1 hv
   rfl)
 rw [List.length_map] at h
 exact h
theorem shift_BR (hgd : o.guard = none) (d x : Operand) (dT sT e : TypeId) (hop : o.op = Op.call { callee := Callee.builtin Builtin.copy,args := #[d,x],argTypes := #[dT,sT] }) (hu : P.underlying dT = some (.slice e)) (hz : (P.info? e).map (·.size) = some 1)
  (g cd cs : Nat) (p q r : List UInt8) (nd ns os : Nat) (hnd : nd = q.length + r.length) (hns : ns = r.length) (hos : os = p.length + q.length) (hd : a.eval d = .slice (some ⟨g,p.length,none⟩) nd cd) (hx : a.eval x = .slice (some ⟨g,os,none⟩) ns cs) (hb : BR W g e (p ++ q ++ r)) (B : Nat) (hB : B ≤ g)
  (h : ∀ w1,BR w1 g e (p ++ r) → Below B W w1 → wpList P ops Q rest (a.put o.dst (goInt r.length)) w1) : wpList P ops Q (o :: rest) a W := by
 subst hnd hns hos
 have hrun := shift_run P W dT sT o.type e hu hz g cd cs p q r hb
 refine wpList_plain hgd fun K hK => ?_
 unfold Oper.wp
 simp [execOp,hop,resolve,invoke,builtin,hd,hx,hrun,Result.andThen]
 exact hK _ _ (h _ (BR.shift p q r hb) (below_setCells hB _ _ _ (Below.refl _ _)))
end
theorem BR.const {w : World} {e : TypeId} (C : Array Value) (l : List UInt8) (hC : C.toList = l.map fun x => Value.int .u8 (x.toNat : Int)) : BR (w.alloc (.cells C e (C.size,C.size + 1))) w.heap.size e l := by
 have hs : C.size = l.length := by rw [← Array.length_toList,hC,List.length_map]
 refine ⟨C,_,_,heap_alloc_new w _,by omega,.inl (by omega),fun j hj => ?_⟩
 rw [← Array.getElem?_toList,hC]
 simp [hj]
end Go.Proofs.Ytbkeakeldegkeaa.Q
end
section
namespace Go.Proofs.Ytbkeakeldegkeaa.Q
open Go.RowKit Go.Proofs.YtbkeakeldegkeaaW.PrintWords Go.Proofs.YtbkeakeldegkeaaW.PrintLast Go.Proofs.YtbkeakeldegkeaaW.PrintMore
set_option maxHeartbeats 8000000 in
set_option maxRecDepth 100000 in
theorem strSS_calls (w : World) : Calls Try.prog 94 #[] w fun e w' => ∃ g c,e = .returned (.slice (some ⟨g,0,none⟩) 2 c) ∧ 2 ≤ c ∧ BR w' g 5 [47,47] ∧ Below w.heap.size w w' := by
 go_enter Try.func94,Try.ntmps94
 have hcv := Lib.run_convert_bytes_const (P := Try.prog) w 49 5 #[.int .u8 47,.int .u8 47] 2 2 Try.underlying49 Try.underlying5
 go_wp2
 go_ret
 exact ⟨_,_,rfl,by omega,BR.const _ [47,47] rfl,below_alloc (Below.refl _ _) _⟩
set_option maxHeartbeats 8000000 in
set_option maxRecDepth 100000 in
theorem strSDS_calls (w : World) : Calls Try.prog 95 #[] w fun e w' => ∃ g c,e = .returned (.slice (some ⟨g,0,none⟩) 3 c) ∧ 3 ≤ c ∧ BR w' g 5 [47,46,47] ∧ Below w.heap.size w w' := by
 go_enter Try.func95,Try.ntmps95
 have hcv := Lib.run_convert_bytes_const (P := Try.prog) w 49 5 #[.int .u8 47,.int .u8 46,.int .u8 47] 3 3 Try.underlying49 Try.underlying5
 go_wp2
 go_ret
 exact ⟨_,_,rfl,by omega,BR.const _ [47,46,47] rfl,below_alloc (Below.refl _ _) _⟩
set_option maxHeartbeats 8000000 in
set_option maxRecDepth 100000 in
theorem strSDDS_calls (w : World) : Calls Try.prog 96 #[] w fun e w' => ∃ g c,e = .returned (.slice (some ⟨g,0,none⟩) 4 c) ∧ 4 ≤ c ∧ BR w' g 5 [47,46,46,47] ∧ Below w.heap.size w w' := by
 go_enter Try.func96,Try.ntmps96
 have hcv := Lib.run_convert_bytes_const (P := Try.prog) w 49 5 #[.int .u8 47,.int .u8 46,.int .u8 46,.int .u8 47] 4 4 Try.underlying49 Try.underlying5
 go_wp2
 go_ret
 exact ⟨_,_,rfl,by omega,BR.const _ [47,46,46,47] rfl,below_alloc (Below.refl _ _) _⟩
set_option maxHeartbeats 8000000 in
set_option maxRecDepth 100000 in
theorem strSDD_calls (w : World) : Calls Try.prog 98 #[] w fun e w' => ∃ g c,e = .returned (.slice (some ⟨g,0,none⟩) 3 c) ∧ 3 ≤ c ∧ BR w' g 5 [47,46,46] ∧ Below w.heap.size w w' := by
 go_enter Try.func98,Try.ntmps98
 have hcv := Lib.run_convert_bytes_const (P := Try.prog) w 49 5 #[.int .u8 47,.int .u8 46,.int .u8 46] 3 3 Try.underlying49 Try.underlying5
 go_wp2
 go_ret
 exact ⟨_,_,rfl,by omega,BR.const _ [47,46,46] rfl,below_alloc (Below.refl _ _) _⟩
end Go.Proofs.Ytbkeakeldegkeaa.Q
end
section
namespace Go.Proofs.Ytbkeakeldegkeaa.SpA
open Go.RowKit Go.Proofs.Ytbkeakeldegkeaa.Q Go.Proofs.YtbkeakeldegkeaaW.PrintWords Go.Proofs.YtbkeakeldegkeaaW.PrintLast Go.Proofs.YtbkeakeldegkeaaKit
theorem ix_cases_from (sub : List UInt8) (hs : sub ≠ []) : ∀ (l : List UInt8) (n : Nat),(ix sub l n = -1 ∧ ∀ a b,l ≠ a ++ sub ++ b) ∨
  (∃ a b,l = a ++ sub ++ b ∧ ix sub l n = ((n + a.length : Nat) : Int) ∧ ∀ a' b',l = a' ++ sub ++ b' → a.length ≤ a'.length)
 | [],n => .inl ⟨by rw [ix,if_neg hs],fun a b e => by simp at e;exact hs e.2.1⟩
 | c :: t,n => by
  by_cases hp : sub.isPrefixOf (c :: t) = true
  ·
   obtain ⟨b,hb⟩ := List.isPrefixOf_iff_prefix.1 hp
   exact .inr ⟨[],b,by simpa using hb.symm,by rw [ix,if_pos hp];simp,fun _ _ _ => Nat.zero_le _⟩
  have hno : ∀ b,c :: t ≠ sub ++ b := fun b e => hp (List.isPrefixOf_iff_prefix.2 ⟨b,e.symm⟩)
  rw [ix,if_neg hp]
  rcases ix_cases_from sub hs t (n + 1) with ⟨e,h⟩|⟨a,b,e,h1,h2⟩
  ·
   refine .inl ⟨e,fun a b e2 => ?_⟩
   cases a with
   | nil => exact hno b (by simpa using e2)
   | cons x a => exact h a b (by simpa using (List.cons.inj e2).2)
  refine .inr ⟨c :: a,b,by rw [e];simp,by rw [h1];simp;omega,fun a' b' e2 => ?_⟩
  cases a' with
  | nil => exact absurd (by simpa using e2) (hno b')
  | cons x a' => have := h2 a' b' (by simpa using (List.cons.inj e2).2);simp;exact this
theorem ix_cases (sub : List UInt8) (hs : sub ≠ []) (l : List UInt8) : (ix sub l 0 = -1 ∧ ∀ a b,l ≠ a ++ sub ++ b) ∨
  (∃ a b,l = a ++ sub ++ b ∧ ix sub l 0 = (a.length : Int) ∧ ∀ a' b',l = a' ++ sub ++ b' → a.length ≤ a'.length) := by
 have := ix_cases_from sub hs l 0
 simpa using this
theorem lastB_l (l : List UInt8) (c : UInt8) (hl : l.length ≤ 4611686018427387904) : ∀ (n : Nat) (a b : List UInt8),a.length = n → l = a ++ b → c ∉ b →
  (∃ p y,l = p ++ c :: y ∧ c ∉ y ∧ Ev (fun k => bytealg_LastIndexByte.l0 k (toI l) (c.toNat : Int) ((n : Int) - 1)) (p.length : Int)) ∨ (c ∉ l ∧ Ev (fun k => bytealg_LastIndexByte.l0 k (toI l) (c.toNat : Int) ((n : Int) - 1)) (-1)) := by
 intro n
 induction n with
 | zero =>
  intro a b ha e hb
  have : a = [] := List.length_eq_zero_iff.1 ha
  subst this
  refine .inr ⟨by rw [e];exact hb,Ev.step (f := fun _ => some (-1)) (fun k => ?_) (Ev.now _)⟩
  simp only [bytealg_LastIndexByte.l0]
  rw [if_neg (by omega)]
 | succ n ih =>
  intro a b ha e hb
  obtain ⟨a',d,rfl⟩ : ∃ a' d,a = a' ++ [d] := ⟨_,_,(List.dropLast_concat_getLast (by intro h;rw [h] at ha;simp at ha)).symm⟩
  have han : a'.length = n := by simpa using ha
  have e2 : l = a' ++ d :: b := by rw [e];simp
  have hlen : l.length = n + (b.length + 1) := by rw [e2];simp [han]
  have hrd : rd (toI l) (((n + 1 : Nat) : Int) - 1) = (d.toNat : Int) := by
   rw [show (((n + 1 : Nat) : Int) - 1) = (a'.length : Int) by omega]
   exact rd_mid e2
  by_cases hd : d = c
  ·
   subst hd
   refine .inl ⟨a',b,e2,hb,Ev.step (f := fun _ => some (a'.length : Int)) (fun k => ?_) (Ev.now _)⟩
   simp only [bytealg_LastIndexByte.l0,toI_length]
   rw [if_pos (by omega),if_pos (by omega),if_pos (by omega),if_pos hrd]
   congr 1
   omega
  have hne : ¬ (d.toNat : Int) = (c.toNat : Int) := fun h => hd (UInt8.toNat_inj.1 (by omega))
  have step : ∀ r,Ev (fun k => bytealg_LastIndexByte.l0 k (toI l) (c.toNat : Int) ((n : Int) - 1)) r → Ev (fun k => bytealg_LastIndexByte.l0 k (toI l) (c.toNat : Int) (((n + 1 : Nat) : Int) - 1)) r := fun r hr => by
   refine Ev.step (fun k => ?_) hr
   simp only [bytealg_LastIndexByte.l0,toI_length]
   rw [if_pos (by omega),if_pos (by omega),if_pos (by omega),hrd,if_neg hne,wrap_id (by omega) (by omega)]
   congr 1
   omega
  rcases ih a' (d :: b) han e2 (by simp only [List.mem_cons,not_or];exact ⟨fun h => hd h.symm,hb⟩) with ⟨p,y,e3,hy,hev⟩|⟨hno,hev⟩
  ·
   exact .inl ⟨p,y,e3,hy,step _ hev⟩
  exact .inr ⟨hno,step _ hev⟩
theorem lastIB (l : List UInt8) (c : UInt8) (hl : l.length ≤ 4611686018427387904) :
  (∃ p y,l = p ++ c :: y ∧ c ∉ y ∧ Ev (fun k => bytes_LastIndexByte.f k (toI l) (c.toNat : Int)) (p.length : Int)) ∨ (c ∉ l ∧ Ev (fun k => bytes_LastIndexByte.f k (toI l) (c.toNat : Int)) (-1)) := by
 have key : ∀ r,Ev (fun k => bytealg_LastIndexByte.l0 k (toI l) (c.toNat : Int) ((l.length : Int) - 1)) r → Ev (fun k => bytes_LastIndexByte.f k (toI l) (c.toNat : Int)) r := fun r hr => by
  obtain ⟨k0,hk⟩ := hr
  refine ⟨k0,fun k h => ?_⟩
  simp only [bytes_LastIndexByte.f,bytealg_LastIndexByte.f,toI_length]
  have hk' := hk k h
  simp only at hk'
  rw [wrap_id (by omega) (by omega),hk']
  rfl
 rcases lastB_l l c hl l.length l [] rfl (by simp) (by simp) with ⟨p,y,e,hy,hev⟩|⟨hno,hev⟩
 ·
  exact .inl ⟨p,y,e,hy,key _ hev⟩
 exact .inr ⟨hno,key _ hev⟩
theorem rk_ahead (l : List UInt8) (x5 x6 : Int) (hl : l.length ≤ 4611686018427387904) : ∀ (n : Nat) (x9 : Int),n + 3 ≤ l.length → ∃ r : Int,r ≤ (n : Int) - 1 ∧ Ev (fun k => bytealg_LastIndexRabinKarp_byte.l1 k (toI l) [47,46,46] x5 x6 3 x9 ((n : Int) - 1)) r := by
 intro n
 induction n with
 | zero =>
  intro x9 _
  refine ⟨-1,by omega,Ev.step (f := fun _ => some (-1)) (fun k => ?_) (Ev.now _)⟩
  simp only [bytealg_LastIndexRabinKarp_byte.l1]
  rw [if_neg (by omega)]
 | succ n ih =>
  intro x9 hn
  have e1 : wrap64 (((n + 1 : Nat) : Int) - 1 + 3) = (n : Int) + 3 := by rw [wrap_id (by omega) (by omega)];omega
  have e2 : wrap64 (((n + 1 : Nat) : Int) - 1 - 1) = (n : Int) - 1 := by rw [wrap_id (by omega) (by omega)];omega
  have c1 : ((n + 1 : Nat) : Int) - 1 ≥ 0 := by omega
  have c3 : ((n + 1 : Nat) : Int) - 1 < (l.length : Int) := by omega
  have c4 : 0 ≤ (n : Int) + 3 := by omega
  have c5 : (n : Int) + 3 < (l.length : Int) := by omega
  have c6 : ((n + 1 : Nat) : Int) - 1 ≤ (n : Int) + 3 := by omega
  have c7 : (n : Int) + 3 ≤ (l.length : Int) := by omega
  obtain ⟨y9,hy9⟩ : ∃ y,y = ((((((x9 * 16777619) % 4294967296) + ((rd (toI l) (((n + 1 : Nat) : Int) - 1)) % 4294967296)) % 4294967296) - ((x6 * ((rd (toI l) ((n : Int) + 3)) % 4294967296)) % 4294967296)) % 4294967296) := ⟨_,rfl⟩
  obtain ⟨r,hr,hev⟩ := ih y9 (by omega)
  by_cases hx : y9 = x5
  ·
   by_cases hq : (strOfNums (((toI l).take (((n : Int) + 3)).toNat).drop (((n + 1 : Nat) : Int) - 1).toNat)).toList = (strOfNums [47,46,46]).toList
   ·
    refine ⟨((n + 1 : Nat) : Int) - 1,by omega,Ev.step (f := fun _ => some (((n + 1 : Nat) : Int) - 1)) (fun k => ?_) (Ev.now _)⟩
    simp only [bytealg_LastIndexRabinKarp_byte.l1,toI_length,e1,e2]
    rw [if_pos c1,if_pos c1,if_pos c3,if_pos c4,if_pos c5,← hy9,if_pos hx,if_pos c6,if_pos c7,if_pos hq]
   refine ⟨r,by omega,Ev.step (fun k => ?_) hev⟩
   simp only [bytealg_LastIndexRabinKarp_byte.l1,toI_length,e1,e2]
   rw [if_pos c1,if_pos c1,if_pos c3,if_pos c4,if_pos c5,← hy9,if_pos hx,if_pos c6,if_pos c7,if_neg hq]
  refine ⟨r,by omega,Ev.step (fun k => ?_) hev⟩
  simp only [bytealg_LastIndexRabinKarp_byte.l1,toI_length,e1,e2]
  rw [if_pos c1,if_pos c1,if_pos c3,if_pos c4,if_pos c5,← hy9,if_neg hx]
theorem ev_le {α : Type} {f : Nat → Option α} {r : α} (h : ∀ k,LeO (f k) (f (k + 1))) (k0 : Nat) (e : f k0 = some r) : Ev f r :=
 ⟨k0,fun k hk => by
  obtain ⟨d,rfl⟩ := Nat.exists_eq_add_of_le hk
  clear hk
  induction d with
  | zero => exact e
  | succ d ih => exact h _ r ih⟩
theorem hash_up : Ev (fun k => bytealg_hashStrRev_byte.f k [47,46,46]) (41043831,1055306571) := ev_le (fun k => bytealg_hashStrRev_byte.mono _ k) 10 (by
 have w1 : wrap64 (2 : Int) = 2 := wrap_id (by decide) (by decide)
 have w2 : wrap64 (1 : Int) = 1 := wrap_id (by decide) (by decide)
 have w3 : wrap64 (0 : Int) = 0 := wrap_id (by decide) (by decide)
 have w4 : wrap64 (-1 : Int) = -1 := wrap_id (by decide) (by decide)
 have r2 : rd [47,46,46] 2 = 46 := by rfl
 have r1 : rd [47,46,46] 1 = 46 := by rfl
 have r0 : rd [47,46,46] 0 = 47 := by rfl
 have b1 : ¬ Go.bits .and .i64 3 1 = 0 := by decide
 have b2 : ¬ Go.bits .and .i64 1 1 = 0 := by decide
 simp [bytealg_hashStrRev_byte.f,bytealg_hashStrRev_byte.l0,bytealg_hashStrRev_byte.l1,w1,w2,w3,w4,r0,r1,r2,b1,b2])
theorem lastIdx_long (x : List UInt8) (a b c : UInt8) (hx : x ≠ []) (hl : x.length ≤ 4611686018427387) :
  ∃ r : Int,Ev (fun k => bytes_LastIndex.f k (toI (x ++ [a,b,c])) [47,46,46]) r ∧ (([a,b,c] : List UInt8) = [47,46,46] → r = (x.length : Int)) ∧ (([a,b,c] : List UInt8) ≠ [47,46,46] → r < (x.length : Int)) := by
 have hp : 0 < x.length := List.length_pos_iff.2 hx
 obtain ⟨l,hle⟩ : ∃ l,l = x ++ [a,b,c] := ⟨_,rfl⟩
 have hln : l.length = x.length + 3 := by rw [hle];simp
 have hrc : rd (toI l) ((x.length : Int) + 2) = (c.toNat : Int) := by
  have := rd_mid (xs := l) (pre := x ++ [a,b]) (t := []) (c := c) (by rw [hle];simp)
  rw [← this];congr 1;simp
 have hrb : rd (toI l) ((x.length : Int) + 1) = (b.toNat : Int) := by
  have := rd_mid (xs := l) (pre := x ++ [a]) (t := [c]) (c := b) (by rw [hle];simp)
  rw [← this];congr 1;simp
 have hra : rd (toI l) (x.length : Int) = (a.toNat : Int) := rd_mid (xs := l) (pre := x) (t := [b,c]) (c := a) hle
 have hcut : strOfNums ((toI l).drop x.length) = strOfNums (toI [a,b,c]) := by rw [toI_drop,hle];simp
 obtain ⟨y1,hy1⟩ : ∃ y : Int,y = ((((0 : Int) * 16777619) % 4294967296) + ((c.toNat : Int) % 4294967296)) % 4294967296 := ⟨_,rfl⟩
 obtain ⟨y2,hy2⟩ : ∃ y : Int,y = (((y1 * 16777619) % 4294967296) + ((b.toNat : Int) % 4294967296)) % 4294967296 := ⟨_,rfl⟩
 obtain ⟨y3,hy3⟩ : ∃ y : Int,y = (((y2 * 16777619) % 4294967296) + ((a.toNat : Int) % 4294967296)) % 4294967296 := ⟨_,rfl⟩
 have main : ∃ r : Int,Ev (fun k => bytealg_LastIndexRabinKarp_byte.l0 k (toI l) [47,46,46] 41043831 1055306571 3 (x.length : Int) y3 ((x.length : Int) - 1)) r ∧ (([a,b,c] : List UInt8) = [47,46,46] → r = (x.length : Int)) ∧ (([a,b,c] : List UInt8) ≠ [47,46,46] → r < (x.length : Int)) := by
  have e1 : wrap64 ((x.length : Int) - 1) = (x.length : Int) - 1 := wrap_id (by omega) (by omega)
  by_cases hq : ([a,b,c] : List UInt8) = [47,46,46]
  ·
   refine ⟨(x.length : Int),?_,fun _ => rfl,fun h => absurd hq h⟩
   have hy : y3 = 41043831 := by
    simp only [List.cons.injEq,and_true] at hq
    rw [hy3,hy2,hy1,hq.1,hq.2.1,hq.2.2]
    rfl
   refine Ev.step (f := fun k => bytealg_LastIndexRabinKarp_byte.j1 k (toI l) [47,46,46] 41043831 1055306571 3 (x.length : Int) y3 true) (fun k => ?_) (Ev.step (f := fun _ => some (x.length : Int)) (fun k => ?_) (Ev.now _))
   ·
    simp only [bytealg_LastIndexRabinKarp_byte.l0,toI_length]
    rw [if_neg (by omega),if_pos hy,if_pos (by omega),if_pos (by omega)]
    congr 1
    rw [Int.toNat_natCast,hcut,hq,beq_iff_eq,tl,tl,show ([47,46,46] : List Int) = toI [47,46,46] from rfl]
   simp only [bytealg_LastIndexRabinKarp_byte.j1,if_true]
  obtain ⟨r,hr,hev⟩ := rk_ahead l 41043831 1055306571 (by omega) x.length y3 (by omega)
  refine ⟨r,?_,fun h => absurd h hq,fun _ => by omega⟩
  refine Ev.step (f := fun k => bytealg_LastIndexRabinKarp_byte.j1 k (toI l) [47,46,46] 41043831 1055306571 3 (x.length : Int) y3 false) (fun k => ?_) (Ev.step (fun k => ?_) hev)
  ·
   simp only [bytealg_LastIndexRabinKarp_byte.l0,toI_length]
   rw [if_neg (by omega)]
   by_cases hy : y3 = 41043831
   ·
    rw [if_pos hy,if_pos (by omega),if_pos (by omega)]
    congr 1
    rw [Int.toNat_natCast,hcut,beq_eq_false_iff_ne,tl,tl,L_strOf,show ([47,46,46] : List Int) = toI [47,46,46] from rfl,L_strOf]
    exact hq
   rw [if_neg hy]
  simp only [bytealg_LastIndexRabinKarp_byte.j1]
  rw [if_neg (by decide),e1]
 obtain ⟨r,hev,hh⟩ := main
 refine ⟨r,?_,hh⟩
 rw [← hle]
 have h0 : Ev (fun k => bytealg_LastIndexRabinKarp_byte.l0 k (toI l) [47,46,46] 41043831 1055306571 3 (x.length : Int) 0 ((x.length : Int) + 2)) r := by
  refine Ev.step (f := fun k => bytealg_LastIndexRabinKarp_byte.l0 k (toI l) [47,46,46] 41043831 1055306571 3 (x.length : Int) y1 ((x.length : Int) + 1)) (fun k => ?_) (Ev.step (f := fun k => bytealg_LastIndexRabinKarp_byte.l0 k (toI l) [47,46,46] 41043831 1055306571 3 (x.length : Int) y2 (x.length : Int)) (fun k => ?_) (Ev.step (fun k => ?_) hev))
  ·
   simp only [bytealg_LastIndexRabinKarp_byte.l0,toI_length]
   rw [if_pos (by omega),if_pos (by omega),if_pos (by omega),hrc,← hy1,wrap_id (by omega) (by omega)]
   congr 1
   omega
  ·
   simp only [bytealg_LastIndexRabinKarp_byte.l0,toI_length]
   rw [if_pos (by omega),if_pos (by omega),if_pos (by omega),hrb,← hy2,wrap_id (by omega) (by omega)]
   congr 1
   omega
  simp only [bytealg_LastIndexRabinKarp_byte.l0,toI_length]
  rw [if_pos (by omega),if_pos (by omega),if_pos (by omega),hra,← hy3,wrap_id (by omega) (by omega)]
 obtain ⟨k0,hk⟩ := Ev.bind (f := fun k (bt : Int × Int) => bytealg_LastIndexRabinKarp_byte.l0 k (toI l) [47,46,46] bt.1 bt.2 3 (x.length : Int) 0 ((x.length : Int) + 2)) hash_up h0
 refine ⟨k0,fun k h => ?_⟩
 have hk' := hk k h
 simp only at hk'
 simp only [bytes_LastIndex.f,bytealg_LastIndexRabinKarp_byte.f,toI_length,hln]
 rw [if_neg (by decide),if_neg (by decide),if_neg (by simp;omega),if_neg (by simp;omega)]
 have w1 : wrap64 (((x.length + 3 : Nat) : Int) - (([47,46,46] : List Int).length : Int)) = (x.length : Int) := by rw [wrap_id (by simp <;> omega) (by simp <;> omega)];simp <;> omega
 have w2 : wrap64 (((x.length + 3 : Nat) : Int) - 1) = (x.length : Int) + 2 := by rw [wrap_id (by omega) (by omega)];omega
 rw [w1,w2]
 rw [show ((([47,46,46] : List Int).length : Int)) = 3 from rfl,hk']
 rfl
theorem lastIdx (l : List UInt8) (hl : l.length ≤ 4611686018427387) : ∃ r : Int,Ev (fun k => bytes_LastIndex.f k (toI l) [47,46,46]) r ∧ (∀ x,l = x ++ [47,46,46] → r = (x.length : Int)) ∧ ((∀ x,l ≠ x ++ [47,46,46]) → r < 0 ∨ r + 3 ≠ (l.length : Int)) ∧ r ≤ (l.length : Int) := by
 by_cases h3 : l.length < 3
 ·
  refine ⟨-1,⟨0,fun k _ => ?_⟩,fun x e => by rw [e] at h3;simp at h3;omega,fun _ => .inl (by omega),by omega⟩
  simp only [bytes_LastIndex.f,toI_length]
  rw [if_neg (by decide),if_neg (by decide),if_neg (by simp;omega),if_pos (by simp;omega)]
 obtain ⟨x,hx⟩ : ∃ x,x = l.take (l.length - 3) := ⟨_,rfl⟩
 obtain ⟨y,hy⟩ : ∃ y,y = l.drop (l.length - 3) := ⟨_,rfl⟩
 have hxy : l = x ++ y := by rw [hx,hy,List.take_append_drop]
 have hyl : y.length = 3 := by rw [hy,List.length_drop];omega
 obtain ⟨a,b,c,rfl⟩ : ∃ a b c,y = [a,b,c] := by
  match y,hyl with
  | [a,b,c],_ => exact ⟨a,b,c,rfl⟩
 clear hx hy
 have tail : ∀ z,l = z ++ [47,46,46] → z = x ∧ ([a,b,c] : List UInt8) = [47,46,46] := fun z e => by
  rw [hxy] at e
  have := List.append_inj' e rfl
  exact ⟨this.1.symm,this.2⟩
 by_cases hx0 : x = []
 ·
  subst hx0
  rw [List.nil_append] at hxy
  by_cases hq : ([a,b,c] : List UInt8) = [47,46,46]
  ·
   refine ⟨0,⟨0,fun k _ => ?_⟩,fun z e => by rw [(tail z e).1];rfl,fun h => absurd (by rw [hxy,hq];rfl) (h []),by omega⟩
   rw [hxy,hq]
   simp only [bytes_LastIndex.f,bytes_Equal.f,toI_length]
   rw [if_neg (by decide),if_neg (by decide),if_pos (by rfl),show toI [47,46,46] = [47,46,46] from rfl]
   simp
  refine ⟨-1,⟨0,fun k _ => ?_⟩,fun z e => absurd (tail z e).2 hq,fun _ => .inl (by omega),by omega⟩
  rw [hxy]
  simp only [bytes_LastIndex.f,bytes_Equal.f,toI_length]
  rw [if_neg (by decide),if_neg (by decide),if_pos (by simp)]
  have : ((strOfNums (toI [a,b,c])).toList == (strOfNums [47,46,46]).toList) = false := by
   rw [beq_eq_false_iff_ne,tl,tl,L_strOf,show ([47,46,46] : List Int) = toI [47,46,46] from rfl,L_strOf]
   exact hq
  rw [this]
  rfl
 obtain ⟨r,hev,h1,h2⟩ := lastIdx_long x a b c hx0 (by rw [hxy] at hl;simp at hl;omega)
 refine ⟨r,by rw [hxy];exact hev,fun z e => by rw [(tail z e).1];exact h1 (tail z e).2,fun h => .inr ?_,by have h4 : r ≤ (x.length : Int) := (Classical.em _).elim (fun h => Int.le_of_eq (h1 h)) (fun h => Int.le_of_lt (h2 h));rw [hxy];simp;omega⟩
 have := h2 (fun hq => h x (by rw [hxy,hq]))
 rw [hxy]
 simp
 omega
theorem dup_next (p q a b : List UInt8) (hq : q = a ++ [47,47] ++ b) (hmin : ∀ a' b',q = a' ++ [47,47] ++ b' → a.length ≤ a'.length) (hinv : ∀ a' b',p ++ q = a' ++ [47,47] ++ b' → p.length ≤ a'.length) :
  ∀ a' b',(p ++ a) ++ 47 :: b = a' ++ [47,47] ++ b' → (p ++ a).length ≤ a'.length := by
 intro a' b' e
 refine Classical.byContradiction fun hn => ?_
 have hlt : a'.length < (p ++ a).length := by omega
 obtain ⟨m,hm1,hm2⟩ : ∃ m,p ++ a = a' ++ m ∧ m ++ 47 :: b = [47,47] ++ b' := by
  have e' : (p ++ a) ++ 47 :: b = a' ++ ([47,47] ++ b') := by rw [e];simp
  rcases List.append_eq_append_iff.1 e' with ⟨t,h1,h2⟩|⟨t,h1,h2⟩
  ·
   rw [h1] at hlt;simp at hlt;omega
  exact ⟨t,h1,h2.symm⟩
 have hocc : ∃ b3,p ++ q = a' ++ [47,47] ++ b3 := by
  cases m with
  | nil => rw [hm1] at hlt;simp at hlt
  | cons x m =>
   simp at hm2
   cases m with
   | nil =>
    refine ⟨47 :: b,?_⟩
    rw [hq,show p ++ (a ++ [47,47] ++ b) = (p ++ a) ++ 47 :: 47 :: b by simp,hm1,hm2.1]
    simp
   | cons y m =>
    simp at hm2
    refine ⟨m ++ 47 :: 47 :: b,?_⟩
    rw [hq,show p ++ (a ++ [47,47] ++ b) = (p ++ a) ++ 47 :: 47 :: b by simp,hm1,hm2.1,hm2.2.1]
    simp
 obtain ⟨b3,hb3⟩ := hocc
 have hp := hinv a' b3 hb3
 have hb4 : p ++ q = a' ++ ([47,47] ++ b3) := by rw [hb3];simp
 rcases List.append_eq_append_iff.1 hb4 with ⟨t,h1,h2⟩|⟨t,h1,h2⟩
 ·
  have := hmin t b3 (by rw [h2];simp)
  rw [h1] at hlt
  simp at hlt
  omega
 have : t = [] := by rw [h1] at hp;simp at hp;exact List.length_eq_zero_iff.1 (by omega)
 subst this
 have := hmin [] b3 (by simpa using h2.symm)
 have hpl : p.length = a'.length := by rw [h1];simp
 rw [List.length_append] at hlt
 simp only [List.length_nil] at this
 omega
theorem dup_none (p q : List UInt8) (hno : ∀ a b,q ≠ a ++ [47,47] ++ b) (hinv : ∀ a' b',p ++ q = a' ++ [47,47] ++ b' → p.length ≤ a'.length) : ∀ a b,p ++ q ≠ a ++ 47 :: 47 :: b := by
 intro a b e
 have hp := hinv a b (by rw [e];simp)
 rcases List.append_eq_append_iff.1 e with ⟨t,h1,h2⟩|⟨t,h1,h2⟩
 ·
  exact hno t b (by rw [h2];simp)
 have : t = [] := by rw [h1] at hp;simp at hp;exact List.length_eq_zero_iff.1 (by omega)
 subst this
 exact hno [] b (by simpa using h2.symm)
end Go.Proofs.Ytbkeakeldegkeaa.SpA
end
section
namespace Go.Proofs.Ytbkeakeldegkeaa.Q
open Go.RowKit Go.Proofs.YtbkeakeldegkeaaW.PrintWords Go.Proofs.YtbkeakeldegkeaaW.PrintLast Go.Proofs.YtbkeakeldegkeaaW.PrintMore
open Go.Proofs.Ytbkeakeldegkeaa.SpA (toI toI_length toI_append ix)
theorem cutTo {P : Program} {t e : TypeId} {i : TypeInfo} (ht : P.underlying t = some (.slice e)) (hi : P.info? e = some i) (A : Option Addr) (m c n : Nat) (x : Int) (hx : x = (n : Int)) (hn : n ≤ m) (hm : m ≤ c) :
  ∀ W : World,(Instr.slice t (.slice A m c) none (some (.int .i64 x)) none).run P W = .ok (.slice A n c) W := by
 intro W
 have h := cut_to (P := P) t e .i64 ht hi A m c x (by omega) (by omega) hm W
 rw [show x.toNat = n by omega] at h
 exact h
theorem cutFrom {P : Program} {t e : TypeId} {i : TypeInfo} (ht : P.underlying t = some (.slice e)) (hi : P.info? e = some i) (hs : i.size = 1) (g off m c n off' m' c' : Nat) (x : Int) (hx : x = (n : Int)) (hn : n < c) (hm : n ≤ m) (h1 : off' = off + n) (h2 : m' = m - n) (h3 : c' = c - n) :
  ∀ W : World,(Instr.slice t (.slice (some ⟨g,off,none⟩) m c) (some (.int .i64 x)) none none).run P W = .ok (.slice (some ⟨g,off',none⟩) m' c') W := by
 intro W
 have h := cut_from (P := P) t e .i64 ht hi 1 hs (some ⟨g,off,none⟩) m c x (by omega) (by omega) W
 have hxt : x.toNat = n := by omega
 rw [hxt,if_neg (by omega),Nat.mul_one,Option.map_some,addr_add] at h
 rw [h1,h2,h3]
 exact h
theorem zz_calls {w : World} {g g1 c c1 : Nat} {p q sub : List UInt8} (r : Int) (hr : ix sub q 0 = r) (hb : BR w g 5 (p ++ q)) (hc : q.length ≤ c) (hs : BR w g1 5 sub) (hc1 : sub.length ≤ c1) (hn : sub ≠ []) (hl : (p ++ q).length ≤ 4611686018427387) (hm : sub.length ≤ 4611686018427387) :
  Calls Try.prog 83 #[.slice (some ⟨g,p.length,none⟩) q.length c,.slice (some ⟨g1,0,none⟩) sub.length c1] w fun e w' => e = .returned (.int .i64 r) ∧ Drawn0 w w' := by
 subst hr
 have hql : q.length ≤ 4611686018427387 := by simp at hl;omega
 obtain ⟨k,hk⟩ := SpA.zzIndex q sub hn (by omega) hm
 have h := hertzproto_zzIndex.calls k (some ⟨g,p.length,none⟩) c (toI q) (some ⟨g1,0,none⟩) c1 (toI sub) _ w (hb.C (by omega)) (by rw [toI_length];exact hc) (BR.C (p := []) (q := sub) hs (by simpa using Nat.le_trans hm (by omega))) (by rw [toI_length];exact hc1) (hk k (Nat.le_refl k))
 rw [toI_length,toI_length] at h
 exact h
theorem zz0_calls {w : World} {g g1 c c1 : Nat} {q sub : List UInt8} (r : Int) (hr : ix sub q 0 = r) (hb : BR w g 5 q) (hc : q.length ≤ c) (hs : BR w g1 5 sub) (hc1 : sub.length ≤ c1) (hn : sub ≠ []) (hl : q.length ≤ 4611686018427387) (hm : sub.length ≤ 4611686018427387) :
  Calls Try.prog 83 #[.slice (some ⟨g,0,none⟩) q.length c,.slice (some ⟨g1,0,none⟩) sub.length c1] w fun e w' => e = .returned (.int .i64 r) ∧ Drawn0 w w' := zz_calls (p := []) r hr hb hc hs hc1 hn hl hm
def lenV : Value → Nat
 | .slice _ n _ => n
 | _ => 0
theorem good_part (L p y b : List UInt8) (h1 : ∀ a c,L ≠ a ++ 47 :: 47 :: c) (h2 : ∀ a c,L ≠ a ++ 47 :: 46 :: 47 :: c) (hL : L = (p ++ 47 :: y) ++ [47,46,46,47] ++ b) (hmin : ∀ a' b',L = a' ++ [47,46,46,47] ++ b' → (p ++ 47 :: y).length ≤ a'.length) : Cl.good y := by
 refine ⟨fun e => h1 p (46 :: 46 :: 47 :: b) (by rw [hL,e];simp),fun e => h2 p (46 :: 46 :: 47 :: b) (by rw [hL,e];simp),fun e => ?_⟩
 have := hmin p (46 :: 46 :: 47 :: b) (by rw [hL,e];simp)
 simp at this
 omega
theorem no_slash_first (a t L r : List UInt8) (hL : L = a ++ r) (ht : L = 47 :: t) (ha : (47 : UInt8) ∉ a) : a = [] := by
 cases a with
 | nil => rfl
 | cons x a =>
  rw [hL] at ht
  have := (List.cons.inj ht).1
  exact absurd (by rw [this];simp) ha
theorem slash_first (p b c t : List UInt8) (h : p ++ 47 :: c = 47 :: t) : ∃ t,p ++ 47 :: b = 47 :: t := by
 cases p with
 | nil => exact ⟨b,rfl⟩
 | cons x y => have := (List.cons.inj h).1;exact ⟨y ++ 47 :: b,by rw [this];rfl⟩
theorem lib_calls {w : World} {g c : Nat} {p : List UInt8} (r : Int) (hr : Ev (fun k => bytes_LastIndexByte.f k (toI p) 47) r) (hb : BR w g 5 p) (hc : p.length ≤ c) (hl : p.length ≤ 4611686018427387) :
  Calls Try.prog 71 #[.slice (some ⟨g,0,none⟩) p.length c,.int .u8 47] w fun e w' => e = .returned (.int .i64 r) ∧ Drawn0 w w' := by
 obtain ⟨k,hk⟩ := hr
 have h := bytes_LastIndexByte.calls k (some ⟨g,0,none⟩) c (toI p) 47 r w (BR.C (p := []) (q := p) hb (by simpa using Nat.le_trans hl (by omega))) (by rw [toI_length];exact hc) (hk k (Nat.le_refl k))
 rw [toI_length] at h
 exact h
theorem lix_calls {w : World} {g g1 c c1 : Nat} {p : List UInt8} (r : Int) (hr : Ev (fun k => bytes_LastIndex.f k (toI p) [47,46,46]) r) (hb : BR w g 5 p) (hc : p.length ≤ c) (hs : BR w g1 5 [47,46,46]) (hc1 : 3 ≤ c1) (hl : p.length ≤ 4611686018427387) :
  Calls Try.prog 97 #[.slice (some ⟨g,0,none⟩) p.length c,.slice (some ⟨g1,0,none⟩) 3 c1] w fun e w' => e = .returned (.int .i64 r) ∧ Drawn0 w w' := by
 obtain ⟨k,hk⟩ := hr
 have h := bytes_LastIndex.calls k (some ⟨g,0,none⟩) c (toI p) (some ⟨g1,0,none⟩) c1 (toI [47,46,46]) r w (BR.C (p := []) (q := p) hb (by simpa using Nat.le_trans hl (by omega))) (by rw [toI_length];exact hc) (BR.C (p := []) (q := [47,46,46]) hs (by simp)) hc1 (hk k (Nat.le_refl k))
 rw [toI_length] at h
 exact h
end Go.Proofs.Ytbkeakeldegkeaa.Q
end
section
namespace Go.Proofs.Ytbkeakeldegkeaa.Q
open Go.RowKit Go.Proofs.YtbkeakeldegkeaaW.PrintWords Go.Proofs.YtbkeakeldegkeaaW.PrintLast Go.Proofs.YtbkeakeldegkeaaW.PrintMore
open Go.Proofs.Ytbkeakeldegkeaa.SpA (toI toI_length toI_append lowU UR ix schEnd schEnd_lt isAl isSg upto past ib_none ib_some upto_none upto_some past_none ix1)
open Go.Proofs.Ytbkeakeldegkeaa.Ob
structure VW (S : Nat → Prop) (w : World) (A : Option Addr) (n c : Nat) (l : List UInt8) : Prop where
 len : n = l.length
 cap : n ≤ c
 rd : ∀ W,Only S w W → Kd.C (Kd.int .u8) W A n (toI l)
section
variable {S : Nat → Prop} {w W : World} {A : Option Addr} {n c : Nat} {l : List UInt8}
theorem VW.mono (h : VW S w A n c l) (ho : Only S w W) : VW S W A n c l := ⟨h.len,h.cap,fun W' h' => h.rd W' (ho.trans h' (fun _ _ h => h))⟩
theorem VW.below (h : VW S w A n c l) (hb : Below w.heap.size w W) : VW S W A n c l := h.mono (Only.of_below hb)
theorem VW.C (h : VW S w A n c l) : Kd.C (Kd.int .u8) w A n (toI l) := h.rd w (Only.refl _ _)
theorem VW.bound (h : VW S w A n c l) : n ≤ 9223372036854775807 := Kd.C_max h.C
theorem VW.take (h : VW S w A n c l) (j : Nat) (hj : j ≤ n) : VW S w A j c (l.take j) := by
 have hl := h.len
 refine ⟨by rw [List.length_take];omega,by have := h.cap;omega,fun W ho => ?_⟩
 have h1 := h.rd W ho
 have h2 : n = (toI l).length := by rw [toI_length];exact hl
 rw [h2] at h1
 have h3 := Kd.C_take (m := j) h1 (by rw [toI_length];omega)
 rw [SpA.toI_take,toI_length,List.length_take,Nat.min_eq_left (by omega)] at h3
 exact h3
theorem VW.drop (h : VW S w A n c l) (j : Nat) (hj : j ≤ n) : VW S w (if c = j then A else A.map (·.add (j * 1))) (n - j) (c - j) (l.drop j) := by
 have hl := h.len
 have hc := h.cap
 refine ⟨by rw [List.length_drop];omega,by omega,fun W ho => ?_⟩
 have h1 := h.rd W ho
 have h2 : n = (toI l).length := by rw [toI_length];exact hl
 rw [h2] at h1
 have h3 := Kd.C_drop (m := j) (c := c) h1 (by rw [toI_length];omega) (by rw [toI_length];omega)
 rw [SpA.toI_drop,toI_length,List.length_drop,← hl] at h3
 exact h3
theorem VW.of_BR {g : Nat} (h : BR w g 5 l) (hS : ¬ S g) (hc : l.length ≤ c) (hl : l.length ≤ 4611686018427387904) : VW S w (some ⟨g,0,none⟩) l.length c l := ⟨rfl,hc,fun W ho => Ob.BR.C (h.heap (ho.block g h.lt hS)) hl⟩
theorem VW.nil : VW S w none 0 0 [] := ⟨rfl,Nat.le_refl _,fun W _ => (BV.nil W).C⟩
theorem cutTo_run {P : Program} {t e : TypeId} {i : TypeInfo} (ht : P.underlying t = some (.slice e)) (hi : P.info? e = some i) (A : Option Addr) (n c j : Nat) (x : Int) (hx : x = (j : Int)) (hm : j ≤ n) (hc : n ≤ c) :
  ∀ W : World,(Instr.slice t (.slice A n c) none (some (.int .i64 x)) none).run P W = .ok (.slice A j c) W := by
 intro W
 have := cut_to (P := P) t e .i64 ht hi A n c x (by omega) (by omega) hc W
 rwa [show x.toNat = j by omega] at this
theorem cutFrom_run {P : Program} {t e : TypeId} {i : TypeInfo} (ht : P.underlying t = some (.slice e)) (hi : P.info? e = some i) (hs : i.size = 1) (A : Option Addr) (n c j : Nat) (x : Int) (hx : x = (j : Int)) (hm : j ≤ n) (B : Option Addr) (m d : Nat) (hB : B = if c = j then A else A.map (·.add (j * 1))) (h1 : m = n - j) (h2 : d = c - j) :
  ∀ W : World,(Instr.slice t (.slice A n c) (some (.int .i64 x)) none none).run P W = .ok (.slice B m d) W := by
 intro W
 have := cut_from (P := P) t e .i64 ht hi 1 hs A n c x (by omega) (by omega) W
 rw [show x.toNat = j by omega] at this
 rw [hB,h1,h2]
 exact this
theorem cutMid_run {P : Program} {t e : TypeId} {i : TypeInfo} (ht : P.underlying t = some (.slice e)) (hi : P.info? e = some i) (hs : i.size = 1) (A : Option Addr) (n c j k : Nat) (x y : Int) (hx : x = (j : Int)) (hy : y = (k : Int)) (hm : k ≤ n) (hjk : j ≤ k) (hc : n ≤ c) (B : Option Addr) (m d : Nat) (hB : B = if c = j then A else A.map (·.add (j * 1))) (h1 : m = k - j) (h2 : d = c - j) :
  ∀ W : World,(Instr.slice t (.slice A n c) (some (.int .i64 x)) (some (.int .i64 y)) none).run P W = .ok (.slice B m d) W := by
 intro W
 have := cut_mid (P := P) t e .i64 .i64 ht hi 1 hs A n c x y (by omega) (by omega) (by omega) hc W
 rw [show x.toNat = j by omega,show y.toNat = k by omega] at this
 rw [hB,h1,h2]
 exact this
theorem VW.cutFrom {P : Program} {t : TypeId} {i : TypeInfo} (ht : P.underlying t = some (.slice 5)) (hi : P.info? 5 = some i) (hs : i.size = 1) (h : VW S w A n c l) (j : Nat) (x : Int) (hx : x = (j : Int)) (hm : j ≤ n) :
  ∃ B m d,(∀ W : World,(Instr.slice t (.slice A n c) (some (.int .i64 x)) none none).run P W = .ok (.slice B m d) W) ∧ VW S w B m d (l.drop j) :=
 ⟨_,_,_,cutFrom_run ht hi hs A n c j x hx hm _ _ _ rfl rfl rfl,h.drop j hm⟩
theorem VW.cutTo {P : Program} {t : TypeId} {i : TypeInfo} (ht : P.underlying t = some (.slice 5)) (hi : P.info? 5 = some i) (h : VW S w A n c l) (j : Nat) (x : Int) (hx : x = (j : Int)) (hm : j ≤ n) :
  (∀ W : World,(Instr.slice t (.slice A n c) none (some (.int .i64 x)) none).run P W = .ok (.slice A j c) W) ∧ VW S w A j c (l.take j) :=
 ⟨cutTo_run ht hi A n c j x hx hm h.cap,h.take j hm⟩
theorem zz_VW {T : Nat → Prop} {B : Option Addr} {m d : Nat} {sub : List UInt8} (h : VW S w A n c l) (k : VW T w B m d sub) (hn : sub ≠ []) (hl : l.length ≤ 4611686018427387) (hm : sub.length ≤ 4611686018427387) (r : Int) (hr : ix sub l 0 = r) :
  Calls Try.prog 83 #[.slice A n c,.slice B m d] w fun e w' => e = .returned (.int .i64 r) ∧ Drawn0 w w' := by
 subst hr
 obtain ⟨q,hq⟩ := SpA.zzIndex l sub hn (by omega) hm
 have h1 := h.C
 have k1 := k.C
 have e1 : n = (toI l).length := by rw [toI_length];exact h.len
 have e2 : m = (toI sub).length := by rw [toI_length];exact k.len
 have c1 := h.cap
 have c2 := k.cap
 rw [e1] at h1 c1 ⊢
 rw [e2] at k1 c2 ⊢
 exact hertzproto_zzIndex.calls q A c (toI l) B d (toI sub) _ w h1 c1 k1 c2 (hq q (Nat.le_refl _))
theorem zc_VW {T : Nat → Prop} {B : Option Addr} {m d : Nat} {sub : List UInt8} (h : VW S w A n c l) (k : VW T w B m d sub) (hn : sub ≠ []) (hl : l.length ≤ 4611686018427387) (hm : sub.length ≤ 4611686018427387) (r : Bool) (hr : decide (0 ≤ ix sub l 0) = r) :
  Calls Try.prog 79 #[.slice A n c,.slice B m d] w fun e w' => e = .returned (.bool r) ∧ Drawn0 w w' := by
 subst hr
 obtain ⟨q,hq⟩ := SpA.zzIndex l sub hn (by omega) hm
 have h1 := h.C
 have k1 := k.C
 have e1 : n = (toI l).length := by rw [toI_length];exact h.len
 have e2 : m = (toI sub).length := by rw [toI_length];exact k.len
 have c1 := h.cap
 have c2 := k.cap
 rw [e1] at h1 c1 ⊢
 rw [e2] at k1 c2 ⊢
 refine hertzproto_zzContains.calls q A c (toI l) B d (toI sub) _ w h1 c1 k1 c2 ?_
 unfold hertzproto_zzContains.f
 rw [show hertzproto_zzIndex.f q (toI l) (toI sub) = some (ix sub l 0) from hq q (Nat.le_refl _)]
 simp
theorem bytesOf_toI2 (l : List UInt8) : Lib.bytesOf (toI l) = l := SpA.bytesOf_toI' l
theorem ib_VW (h : VW S w A n c l) (b : UInt8) (x : Int) (hx : x = (b.toNat : Int)) (r : Int) (hr : Lib.indexByte l b = r) :
  Calls Try.prog 86 #[.slice A n c,.int .u8 x] w fun e w' => e = .returned (.int .i64 r) ∧ Drawn0 w w' := by
 subst hr
 have h1 := h.C
 have e1 : n = (toI l).length := by rw [toI_length];exact h.len
 have c1 := h.cap
 rw [e1] at h1 c1 ⊢
 refine bytes_IndexByte.calls A c (toI l) x _ w h1 c1 ?_
 unfold bytes_IndexByte.f
 rw [bytesOf_toI2,hx]
 simp
end
end Go.Proofs.Ytbkeakeldegkeaa.Q
end
section
namespace Go.Proofs.Ytbkeakeldegkeaa.Q
open Go.RowKit Go.Proofs.YtbkeakeldegkeaaW.PrintWords Go.Proofs.YtbkeakeldegkeaaW.PrintLast Go.Proofs.YtbkeakeldegkeaaW.PrintMore
open Go.Proofs.Ytbkeakeldegkeaa.SpA (toI toI_length toI_append ix)
open Go.Proofs.Ytbkeakeldegkeaa.Cl (cleanK Free)
def NormPost (w : World) (l : List UInt8) (e : Ending) (w' : World) : Prop := ∃ g c,e = .returned (.slice (some ⟨g,0,none⟩) l.length c) ∧ BR w' g 5 l ∧ Below w.heap.size w w' ∧ w.heap.size ≤ g ∧ l.length ≤ c
set_option maxHeartbeats 16000000 in
set_option maxRecDepth 100000 in
theorem norm_calls (k : Nat) (A1 : Option Addr) (c1 : Nat) (s a0 l0 : List UInt8) (w : World) (hsrc : Kd.C (Kd.int .u8) w A1 (toI s).length (toI s)) (hc1 : (toI s).length ≤ c1) (hA : hertzproto_addLeadingSlash.f [] (toI s) = some (toI a0)) (hD : hertzproto_decodeArgAppendNoPlus.f k (toI a0) (toI s) = some (toI l0)) (hs : ∃ t,l0 = 47 :: t) (hl : l0.length ≤ 4611686018427387) :
  Calls Try.prog 74 #[.slice none 0 0,.slice A1 (toI s).length c1] w (NormPost w (cleanK l0)) := by
 obtain ⟨i0,hi0,_,hsz0,_⟩ := info_parts info5
 have HI := Aside0.mk hi0
 have HSZ := Aside0.mk hsz0
 have HSRC := Aside0.mk hsrc
 have HC1 := Aside0.mk hc1
 have HA := Aside0.mk hA
 have HD := Aside0.mk hD
 have HS0 := Aside0.mk hs
 have HL := Aside0.mk hl
 have HNE : Aside0 (l0 ≠ []) := ⟨by obtain ⟨t,rfl⟩ := hs;simp⟩
 have HB := Aside0.mk (Below.refl w.heap.size w)
 clear hsrc hc1 hA hD hs hl hi0 hsz0
 go_enter Try.func74,Try.ntmps74
 go_wp2_with (first|((with_reducible refine gate_callee (f := 92) rfl ?_);refine goesL_ (some 18) rfl rfl Try.func92 (by kernel_rfl) rfl #[.slice none 0 0,.slice A1 (toI s).length c1] rfl (by (try simp only [List.map_toArray,List.map_cons,List.map_nil]);first|done|rfl) ?_;(refine (hertzproto_addLeadingSlash.calls (fun _ => False) (.slice none 0 0) ([] : List Int) A1 c1 (toI s) (toI a0) w _ HB.out (Kd.R_nil _ _ _ _ _) (Kd.C_kept_came (Kd.heap_int _) HSRC.out HB.out (fun _ h => h.elim)) HC1.out HA.out).mono ?_);rintro e w6 ⟨v6,rfl,ho,hb,_⟩;refine ⟨_,rfl,?_⟩;have HO := Aside0.mk (Kd.R_mono (ok' := fun k_ => w.heap.size ≤ k_) ho (fun k_ hk_ => hk_.elim (fun h => h.elim) id));clear HB;have HB := Aside0.mk hb;clear hb ho)|((with_reducible refine gate_callee (f := 93) rfl ?_);refine goesL_ (some 21) rfl rfl Try.func93 (by kernel_rfl) rfl #[v6,.slice A1 (toI s).length c1] rfl (by (try simp only [List.map_toArray,List.map_cons,List.map_nil]);first|done|rfl) ?_;(refine (hertzproto_decodeArgAppendNoPlus.calls k (fun k_ => w.heap.size ≤ k_) v6 (toI a0) A1 c1 (toI s) (toI l0) w _ HB.out HO.out (Kd.C_kept_came (Kd.heap_int _) HSRC.out HB.out (fun _ h => h)) HC1.out HD.out).mono ?_);rintro e w7 ⟨v7,rfl,ho,hb,_⟩;refine ⟨_,rfl,?_⟩;clear HO HB;obtain ⟨g,c,rfl,hg,hc,hcm,hbr⟩ := BR.of_R ho HNE.out;have HG := Aside0.mk hg;have HC := Aside0.mk hc;have HR := Aside0.mk hbr;have HB := Aside0.mk hb;clear ho hb hg hc hcm hbr))
 go_loopw [5,6] (fun s5 s6 wr => ∃ (p q : List UInt8) (c5 : Nat),s5 = .slice (some ⟨g,p.length,none⟩) q.length c5 ∧ s6 = .int .i64 ((p.length + q.length : Nat) : Int) ∧ Aside0 (BR wr g 5 (p ++ q)) ∧ Aside0 (q.length ≤ c5) ∧ Aside0 (∀ a' b',p ++ q = a' ++ [47,47] ++ b' → p.length ≤ a'.length) ∧ Aside0 (cleanK (p ++ q) = cleanK l0) ∧ Aside0 (∃ t,p ++ q = 47 :: t) ∧ Aside0 ((p ++ q).length ≤ l0.length) ∧ Aside0 (Below w.heap.size w wr)) (fun _ s6 _ => (intOf s6).toNat)
 case atStart => exact ⟨[],l0,c,rfl,by simp,⟨HR.out.heap rfl⟩,HC,⟨fun _ _ _ => Nat.zero_le _⟩,⟨rfl⟩,HS0,⟨Nat.le_refl _⟩,⟨(bl_ HB.out)⟩⟩
 case round =>
  have HC0 := HC
  clear HR HB HC HSRC HC1 HA HD
  obtain ⟨p,q,c5,rfl,rfl,HR,HC,HINV,HCL,HSL,HLEN,HB⟩ := hrel
  obtain ⟨r1,hr1⟩ : ∃ r1,ix [47,47] q 0 = r1 := ⟨_,rfl⟩
  have HR1 := Aside0.mk hr1
  obtain ⟨z6,hz6⟩ : ∃ z6 : Int,z6 = ((p.length + q.length : Nat) : Int) := ⟨_,rfl⟩
  rw [← hz6]
  have HZ6 := Aside0.mk hz6
  clear hz6
  have HPL : Aside0 ((p ++ q).length ≤ 4611686018427387) := ⟨Nat.le_trans HLEN.out HL.out⟩
  rcases SpA.ix_cases [47,47] (by decide) q with ⟨hix,hno⟩|⟨a,b,hq,hix,hmin⟩
  ·
   have b1 : decide (r1 < 0) = true := decide_eq_true (by omega)
   have HF := Aside0.mk (SpA.dup_none p q hno HINV.out)
   obtain ⟨L1,hL1⟩ : ∃ L1,L1 = p ++ q := ⟨_,rfl⟩
   have HCUT := cutTo (P := Try.prog) Try.underlying49 HI.out (some ⟨g,0,none⟩) l0.length c L1.length z6 (by rw [HZ6.out,hL1];simp) (by rw [hL1];exact HLEN.out) HC0.out
   have HL1 := Aside0.mk hL1
   clear hix hno hr1 hL1
   go_wp2_with (first|((with_reducible refine gate_callee (f := 94) rfl ?_);refine goesL_ (some 26) rfl rfl Try.func94 (by kernel_rfl) rfl #[] rfl (by (try simp only [List.map_toArray,List.map_cons,List.map_nil]);first|done|rfl) ?_;refine (strSS_calls _).mono ?_;rintro e wq ⟨gSS,cSS,rfl,hcSS,hbS,hbel⟩;refine ⟨_,rfl,?_⟩;have HSS := Aside0.mk hbS;have n0_ := Aside0.mk (BR.below2 HR.out hbel rfl);have n1_ := Aside0.mk (below_step (bl_ HB.out) hbel);clear HR HB;have HR := n0_;have HB := n1_;clear n0_ n1_ hbS hbel)|((with_reducible refine gate_callee (f := 83) rfl ?_);refine goesL_ (some 27) rfl rfl Try.func83 (by kernel_rfl) rfl #[.slice (some ⟨g,p.length,none⟩) q.length c5,.slice (some ⟨gSS,0,none⟩) 2 cSS] rfl (by (try simp only [List.map_toArray,List.map_cons,List.map_nil]);first|done|rfl) ?_;refine (zz_calls (p := p) (q := q) (sub := [47,47]) r1 HR1.out (HR.out.heap rfl) HC.out (HSS.out.heap rfl) hcSS (by decide) HPL.out (by decide)).mono ?_;rintro e wq ⟨rfl,⟨nd,rfl⟩⟩;refine ⟨_,rfl,?_⟩))
   rw [← HL1.out] at HR HF HCL HSL HLEN HPL
   have HC : Aside0 (L1.length ≤ c) := ⟨Nat.le_trans HLEN.out HC0.out⟩
   clear HCUT HL1 HINV HR1 HZ6 HSS hcSS
   go_loopw [5] (fun s5 wr => ∃ (L : List UInt8) (c5 : Nat),s5 = .slice (some ⟨g,0,none⟩) L.length c5 ∧ Aside0 (BR wr g 5 L) ∧ Aside0 (L.length ≤ c5) ∧ Aside0 (∀ a b,L ≠ a ++ 47 :: 47 :: b) ∧ Aside0 (cleanK L = cleanK l0) ∧ Aside0 (∃ t,L = 47 :: t) ∧ Aside0 (L.length ≤ l0.length) ∧ Aside0 (Below w.heap.size w wr)) (fun s5 _ => lenV s5)
   case atStart => exact ⟨L1,c,rfl,⟨HR.out.heap rfl⟩,HC,HF,HCL,HSL,HLEN,⟨(bl_ HB.out)⟩⟩
   case round =>
    clear HR HB HC HF HCL HSL HLEN HPL
    obtain ⟨L,c5,rfl,HR,HC,HF,HCL,HSL,HLEN,HB⟩ := hrel
    obtain ⟨r2,hr2⟩ : ∃ r2,ix [47,46,47] L 0 = r2 := ⟨_,rfl⟩
    have HR2 := Aside0.mk hr2
    have HPL : Aside0 (L.length ≤ 4611686018427387) := ⟨Nat.le_trans HLEN.out HL.out⟩
    rcases SpA.ix_cases [47,46,47] (by decide) L with ⟨hix,hno⟩|⟨a,b,hq,hix,hmin⟩
    ·
     have b2 : decide (r2 < 0) = true := decide_eq_true (by omega)
     have HF2 : Aside0 (∀ a b,L ≠ a ++ 47 :: 46 :: 47 :: b) := ⟨fun a b e => hno a b (by rw [e];simp)⟩
     clear hix hno hr2
     go_wp2_with (first|((with_reducible refine gate_callee (f := 95) rfl ?_);refine goesL_ (some 49) rfl rfl Try.func95 (by kernel_rfl) rfl #[] rfl (by (try simp only [List.map_toArray,List.map_cons,List.map_nil]);first|done|rfl) ?_;refine (strSDS_calls _).mono ?_;rintro e wq ⟨gST,cST,rfl,hcST,hbS,hbel⟩;refine ⟨_,rfl,?_⟩;have HST := Aside0.mk hbS;have n0_ := Aside0.mk (BR.below2 HR.out hbel rfl);have n1_ := Aside0.mk (below_step (bl_ HB.out) hbel);clear HR HB;have HR := n0_;have HB := n1_;clear n0_ n1_ hbS hbel)|((with_reducible refine gate_callee (f := 83) rfl ?_);refine goesL_ (some 50) rfl rfl Try.func83 (by kernel_rfl) rfl #[.slice (some ⟨g,0,none⟩) L.length c5,.slice (some ⟨gST,0,none⟩) 3 cST] rfl (by (try simp only [List.map_toArray,List.map_cons,List.map_nil]);first|done|rfl) ?_;refine (zz0_calls (q := L) (sub := [47,46,47]) r2 HR2.out (HR.out.heap rfl) HC.out (HST.out.heap rfl) hcST (by decide) HPL.out (by decide)).mono ?_;rintro e wq ⟨rfl,⟨nd,rfl⟩⟩;refine ⟨_,rfl,?_⟩))
     clear HR2 HST hcST
     go_loopw [5] (fun s5 wr => ∃ (L : List UInt8) (c5 : Nat),s5 = .slice (some ⟨g,0,none⟩) L.length c5 ∧ Aside0 (BR wr g 5 L) ∧ Aside0 (L.length ≤ c5) ∧ Aside0 (∀ a b,L ≠ a ++ 47 :: 47 :: b) ∧ Aside0 (∀ a b,L ≠ a ++ 47 :: 46 :: 47 :: b) ∧ Aside0 (cleanK L = cleanK l0) ∧ Aside0 (∃ t,L = 47 :: t) ∧ Aside0 (L.length ≤ l0.length) ∧ Aside0 (Below w.heap.size w wr)) (fun s5 _ => lenV s5)
     case atStart => exact ⟨L,c5,rfl,⟨HR.out.heap rfl⟩,HC,HF,HF2,HCL,HSL,HLEN,⟨(bl_ HB.out)⟩⟩
     case round =>
      clear HR HB HC HF HF2 HCL HSL HLEN HPL
      obtain ⟨L,c5,rfl,HR,HC,HF,HF2,HCL,HSL,HLEN,HB⟩ := hrel
      obtain ⟨r3,hr3⟩ : ∃ r3,ix [47,46,46,47] L 0 = r3 := ⟨_,rfl⟩
      have HR3 := Aside0.mk hr3
      have HPL : Aside0 (L.length ≤ 4611686018427387) := ⟨Nat.le_trans HLEN.out HL.out⟩
      rcases SpA.ix_cases [47,46,46,47] (by decide) L with ⟨hix,hno⟩|⟨a,b,hq,hix,hmin⟩
      ·
       have b3 : decide (r3 < 0) = true := decide_eq_true (by omega)
       have HF3 : Aside0 (Free L) := ⟨⟨HF.out,HF2.out,fun a b e => hno a b (by rw [e];simp)⟩⟩
       clear hix hno hr3
       obtain ⟨r5,hev5,hsuf,hnsuf,hb5⟩ := SpA.lastIdx L HPL.out
       have HEV5 := Aside0.mk hev5
       by_cases hx : ∃ x,L = x ++ [47,46,46]
       ·
        obtain ⟨x,hx⟩ := hx
        have HX := Aside0.mk hx
        have hr5 := hsuf x hx
        have hxl : L.length = x.length + 3 := by rw [hx];simp
        have hcq := HC.out
        have hpl := HPL.out
        have HPC : Aside0 (x.length ≤ c5) := ⟨by omega⟩
        have HPB : Aside0 (x.length ≤ 4611686018427387) := ⟨by omega⟩
        have b5 : decide (r5 ≥ 0) = true := decide_eq_true (by omega)
        have b5' : decide (0 ≤ r5) = true := decide_eq_true (by omega)
        have b6 : (wrap64 (r5 + 3) == (L.length : Int)) = true := beq_iff_eq.2 (by unfold wrap64;omega)
        have b7 : wrap64 (r5 + 3) = (L.length : Int) := beq_iff_eq.1 b6
        have HCUT5 := cutTo (P := Try.prog) Try.underlying49 HI.out (some ⟨g,0,none⟩) L.length c5 x.length r5 hr5 (by omega) hcq
        rcases SpA.lastIB x 47 (by omega) with ⟨p',y,ha,hy,hev⟩|⟨ha,hev⟩
        ·
         have hal : x.length = p'.length + (y.length + 1) := by rw [ha];simp
         obtain ⟨r6,hr6⟩ : ∃ r6 : Int,r6 = (p'.length : Int) := ⟨_,rfl⟩
         rw [← hr6] at hev
         have HEV6 := Aside0.mk hev
         have b8 : decide (r6 < 0) = false := decide_eq_false (by omega)
         obtain ⟨n7,hn7⟩ : ∃ n7,n7 = p'.length + 1 := ⟨_,rfl⟩
         obtain ⟨x7,hx7⟩ : ∃ x7 : Int,x7 = (n7 : Int) := ⟨_,rfl⟩
         have hw7 : wrap64 (r6 + 1) = x7 := by unfold wrap64;omega
         have HCUT6 := cutTo (P := Try.prog) Try.underlying49 HI.out (some ⟨g,0,none⟩) L.length c5 n7 x7 hx7 (by omega) hcq
         have hrow : L = p' ++ 47 :: y ++ [47,46,46] := by rw [hx,ha]
         have HCLN : Aside0 (cleanK l0 = p' ++ [47]) := ⟨by
          rw [← HCL.out,hrow]
          refine Cl.clean_end p' y (by rw [← hrow];exact HF3.out) hy ?_
          obtain ⟨t,ht⟩ := HSL.out
          cases p' with
          | nil => exact .inl rfl
          | cons z p' => rw [hrow] at ht;exact .inr ⟨p',by rw [(List.cons.inj ht).1]⟩⟩
         have HN7 : Aside0 (n7 = (cleanK l0).length) := ⟨by rw [HCLN.out];simp;exact hn7⟩
         have HROW : Aside0 (L = cleanK l0 ++ (y ++ [47,46,46])) := ⟨by rw [HCLN.out,hrow];simp⟩
         clear hev5 hsuf hnsuf hb5 hx hr5 hxl hcq hpl ha hy hev hal hr6 hn7 hx7 hrow
         go_wp2_with (first|((with_reducible refine gate_callee (f := 96) rfl ?_);refine goesL_ (some 74) rfl rfl Try.func96 (by kernel_rfl) rfl #[] rfl (by (try simp only [List.map_toArray,List.map_cons,List.map_nil]);first|done|rfl) ?_;refine (strSDDS_calls _).mono ?_;rintro e wq ⟨gSV,cSV,rfl,hcSV,hbS,hbel⟩;refine ⟨_,rfl,?_⟩;have HSV := Aside0.mk hbS;have n0_ := Aside0.mk (BR.below2 HR.out hbel rfl);have n1_ := Aside0.mk (below_step (bl_ HB.out) hbel);clear HR HB;have HR := n0_;have HB := n1_;clear n0_ n1_ hbS hbel)|((with_reducible refine gate_callee (f := 83) rfl ?_);refine goesL_ (some 75) rfl rfl Try.func83 (by kernel_rfl) rfl #[.slice (some ⟨g,0,none⟩) L.length c5,.slice (some ⟨gSV,0,none⟩) 4 cSV] rfl (by (try simp only [List.map_toArray,List.map_cons,List.map_nil]);first|done|rfl) ?_;refine (zz0_calls (q := L) (sub := [47,46,46,47]) r3 HR3.out (HR.out.heap rfl) HC.out (HSV.out.heap rfl) hcSV (by decide) HPL.out (by decide)).mono ?_;rintro e wq ⟨rfl,⟨nd,rfl⟩⟩;refine ⟨_,rfl,?_⟩)|((with_reducible refine gate_callee (f := 98) rfl ?_);refine goesL_ (some 105) rfl rfl Try.func98 (by kernel_rfl) rfl #[] rfl (by (try simp only [List.map_toArray,List.map_cons,List.map_nil]);first|done|rfl) ?_;refine (strSDD_calls _).mono ?_;rintro e wq ⟨gSY,cSY,rfl,hcSY,hbS,hbel⟩;refine ⟨_,rfl,?_⟩;have HSY := Aside0.mk hbS;have n0_ := Aside0.mk (BR.below2 HR.out hbel rfl);have n1_ := Aside0.mk (below_step (bl_ HB.out) hbel);clear HR HB;have HR := n0_;have HB := n1_;clear n0_ n1_ hbS hbel)|((with_reducible refine gate_callee (f := 97) rfl ?_);refine goesL_ (some 106) rfl rfl Try.func97 (by kernel_rfl) rfl #[.slice (some ⟨g,0,none⟩) L.length c5,.slice (some ⟨gSY,0,none⟩) 3 cSY] rfl (by (try simp only [List.map_toArray,List.map_cons,List.map_nil]);first|done|rfl) ?_;refine (lix_calls (p := L) r5 HEV5.out (HR.out.heap rfl) HC.out (HSY.out.heap rfl) hcSY HPL.out).mono ?_;rintro e wq ⟨rfl,⟨nd,rfl⟩⟩;refine ⟨_,rfl,?_⟩)|((with_reducible refine gate_callee (f := 98) rfl ?_);(refine gate_guard (by kernel_rfl) ?_);refine goesL_ (some 111) rfl rfl Try.func98 (by kernel_rfl) rfl #[] rfl (by (try simp only [List.map_toArray,List.map_cons,List.map_nil]);first|done|rfl) ?_;refine (strSDD_calls _).mono ?_;rintro e wq ⟨gSZ,cSZ,rfl,hcSZ,hbS,hbel⟩;refine ⟨_,rfl,?_⟩;have HSZ := Aside0.mk hbS;have n0_ := Aside0.mk (BR.below2 HR.out hbel rfl);have n1_ := Aside0.mk (below_step (bl_ HB.out) hbel);clear HR HB;have HR := n0_;have HB := n1_;clear n0_ n1_ hbS hbel)|((with_reducible refine gate_callee (f := 71) rfl ?_);refine goesL_ (some 121) rfl rfl Try.func71 (by kernel_rfl) rfl #[.slice (some ⟨g,0,none⟩) x.length c5,.int .u8 47] rfl (by (try simp only [List.map_toArray,List.map_cons,List.map_nil]);first|done|rfl) ?_;refine (lib_calls (p := x) r6 HEV6.out (BR.pre (q := [47,46,46]) (by rw [← HX.out];exact HR.out.heap rfl)) HPC.out HPB.out).mono ?_;rintro e wq ⟨rfl,⟨nd,rfl⟩⟩;refine ⟨_,rfl,?_⟩))
         go_ret
         exact ⟨g,c5,congrArg Ending.returned (congrArg (fun n => Value.slice (some ⟨g,0,none⟩) n c5) HN7.out),BR.pre (q := y ++ [47,46,46]) (by rw [← HROW.out];exact HR.out.heap rfl),(bl_ HB.out),HG.out,(by have h1 := HC.out;have h2 := congrArg List.length HROW.out;simp only [List.length_append] at h2;omega)⟩
        obtain ⟨t0,ht0⟩ := HSL.out
        have ha0 : x = [] := no_slash_first x t0 L [47,46,46] hx ht0 ha
        obtain ⟨r6,hr6⟩ : ∃ r6 : Int,r6 = -1 := ⟨_,rfl⟩
        rw [← hr6] at hev
        have HEV6 := Aside0.mk hev
        have b8 : decide (r6 < 0) = true := decide_eq_true (by omega)
        have HCLN : Aside0 (cleanK l0 = [47]) := ⟨by rw [← HCL.out,hx,ha0];exact Cl.clean_end0⟩
        clear hev5 hsuf hnsuf hb5 hx hr5 hxl hcq hpl ha hev hr6 ht0 ha0
        go_wp2_with (first|((with_reducible refine gate_callee (f := 96) rfl ?_);refine goesL_ (some 74) rfl rfl Try.func96 (by kernel_rfl) rfl #[] rfl (by (try simp only [List.map_toArray,List.map_cons,List.map_nil]);first|done|rfl) ?_;refine (strSDDS_calls _).mono ?_;rintro e wq ⟨gSV,cSV,rfl,hcSV,hbS,hbel⟩;refine ⟨_,rfl,?_⟩;have HSV := Aside0.mk hbS;have n0_ := Aside0.mk (BR.below2 HR.out hbel rfl);have n1_ := Aside0.mk (below_step (bl_ HB.out) hbel);clear HR HB;have HR := n0_;have HB := n1_;clear n0_ n1_ hbS hbel)|((with_reducible refine gate_callee (f := 83) rfl ?_);refine goesL_ (some 75) rfl rfl Try.func83 (by kernel_rfl) rfl #[.slice (some ⟨g,0,none⟩) L.length c5,.slice (some ⟨gSV,0,none⟩) 4 cSV] rfl (by (try simp only [List.map_toArray,List.map_cons,List.map_nil]);first|done|rfl) ?_;refine (zz0_calls (q := L) (sub := [47,46,46,47]) r3 HR3.out (HR.out.heap rfl) HC.out (HSV.out.heap rfl) hcSV (by decide) HPL.out (by decide)).mono ?_;rintro e wq ⟨rfl,⟨nd,rfl⟩⟩;refine ⟨_,rfl,?_⟩)|((with_reducible refine gate_callee (f := 98) rfl ?_);refine goesL_ (some 105) rfl rfl Try.func98 (by kernel_rfl) rfl #[] rfl (by (try simp only [List.map_toArray,List.map_cons,List.map_nil]);first|done|rfl) ?_;refine (strSDD_calls _).mono ?_;rintro e wq ⟨gSY,cSY,rfl,hcSY,hbS,hbel⟩;refine ⟨_,rfl,?_⟩;have HSY := Aside0.mk hbS;have n0_ := Aside0.mk (BR.below2 HR.out hbel rfl);have n1_ := Aside0.mk (below_step (bl_ HB.out) hbel);clear HR HB;have HR := n0_;have HB := n1_;clear n0_ n1_ hbS hbel)|((with_reducible refine gate_callee (f := 97) rfl ?_);refine goesL_ (some 106) rfl rfl Try.func97 (by kernel_rfl) rfl #[.slice (some ⟨g,0,none⟩) L.length c5,.slice (some ⟨gSY,0,none⟩) 3 cSY] rfl (by (try simp only [List.map_toArray,List.map_cons,List.map_nil]);first|done|rfl) ?_;refine (lix_calls (p := L) r5 HEV5.out (HR.out.heap rfl) HC.out (HSY.out.heap rfl) hcSY HPL.out).mono ?_;rintro e wq ⟨rfl,⟨nd,rfl⟩⟩;refine ⟨_,rfl,?_⟩)|((with_reducible refine gate_callee (f := 98) rfl ?_);(refine gate_guard (by kernel_rfl) ?_);refine goesL_ (some 111) rfl rfl Try.func98 (by kernel_rfl) rfl #[] rfl (by (try simp only [List.map_toArray,List.map_cons,List.map_nil]);first|done|rfl) ?_;refine (strSDD_calls _).mono ?_;rintro e wq ⟨gSZ,cSZ,rfl,hcSZ,hbS,hbel⟩;refine ⟨_,rfl,?_⟩;have HSZ := Aside0.mk hbS;have n0_ := Aside0.mk (BR.below2 HR.out hbel rfl);have n1_ := Aside0.mk (below_step (bl_ HB.out) hbel);clear HR HB;have HR := n0_;have HB := n1_;clear n0_ n1_ hbS hbel)|((with_reducible refine gate_callee (f := 71) rfl ?_);refine goesL_ (some 121) rfl rfl Try.func71 (by kernel_rfl) rfl #[.slice (some ⟨g,0,none⟩) x.length c5,.int .u8 47] rfl (by (try simp only [List.map_toArray,List.map_cons,List.map_nil]);first|done|rfl) ?_;refine (lib_calls (p := x) r6 HEV6.out (BR.pre (q := [47,46,46]) (by rw [← HX.out];exact HR.out.heap rfl)) HPC.out HPB.out).mono ?_;rintro e wq ⟨rfl,⟨nd,rfl⟩⟩;refine ⟨_,rfl,?_⟩)|((with_reducible refine gate_callee (f := 88) rfl ?_);refine goesL_ (some 124) rfl rfl Try.func88 (by kernel_rfl) rfl #[] rfl (by (try simp only [List.map_toArray,List.map_cons,List.map_nil]);first|done|rfl) ?_;refine (strSlash_calls _).mono ?_;rintro e wq ⟨gSO,cSO,rfl,hcSO,hbS,hgSO,hbel⟩;refine ⟨_,rfl,?_⟩;have HGSO : Aside0 (w.heap.size ≤ gSO) := ⟨(by have h1 := HB.out.size;have h2 : _ ≤ gSO := hgSO;exact Nat.le_trans h1 h2)⟩;clear hgSO;have HSO := Aside0.mk hbS;have n0_ := Aside0.mk (BR.below2 HR.out hbel rfl);have n1_ := Aside0.mk (below_step (bl_ HB.out) hbel);clear HR HB;have HR := n0_;have HB := n1_;clear n0_ n1_ hbS hbel))
        go_ret
        rw [HCLN.out]
        exact ⟨gSO,cSO,rfl,HSO.out.heap rfl,(bl_ HB.out),HGSO.out,hcSO⟩
       have hno : ∀ x,L ≠ x ++ [47,46,46] := fun x e => hx ⟨x,e⟩
       have HCLN : Aside0 (cleanK l0 = L) := ⟨by
        obtain ⟨t,ht⟩ := HSL.out
        rw [← HCL.out,ht]
        exact Cl.clean_stays t (by rw [← ht];exact HF3.out) (by rw [← ht];exact hno)⟩
       have hpl := HPL.out
       by_cases h5 : 0 ≤ r5
       ·
        have b5 : decide (r5 ≥ 0) = true := decide_eq_true h5
        have b5' : decide (0 ≤ r5) = true := decide_eq_true h5
        have hle5 : r5 ≤ 4611686018427387904 := by have := HPL.out;omega
        have b7 : ¬ wrap64 (r5 + 3) = (L.length : Int) := by have := hnsuf hno;unfold wrap64;omega
        have b6 : (wrap64 (r5 + 3) == (L.length : Int)) = false := beq_eq_false_iff_ne.2 b7
        have b9 : (r5 + 3 == (L.length : Int)) = false := beq_eq_false_iff_ne.2 (by have := hnsuf hno;omega)
        clear hle5 hev5 hsuf hnsuf hb5 hx hno hpl
        go_wp2_with (first|((with_reducible refine gate_callee (f := 96) rfl ?_);refine goesL_ (some 74) rfl rfl Try.func96 (by kernel_rfl) rfl #[] rfl (by (try simp only [List.map_toArray,List.map_cons,List.map_nil]);first|done|rfl) ?_;refine (strSDDS_calls _).mono ?_;rintro e wq ⟨gSV,cSV,rfl,hcSV,hbS,hbel⟩;refine ⟨_,rfl,?_⟩;have HSV := Aside0.mk hbS;have n0_ := Aside0.mk (BR.below2 HR.out hbel rfl);have n1_ := Aside0.mk (below_step (bl_ HB.out) hbel);clear HR HB;have HR := n0_;have HB := n1_;clear n0_ n1_ hbS hbel)|((with_reducible refine gate_callee (f := 83) rfl ?_);refine goesL_ (some 75) rfl rfl Try.func83 (by kernel_rfl) rfl #[.slice (some ⟨g,0,none⟩) L.length c5,.slice (some ⟨gSV,0,none⟩) 4 cSV] rfl (by (try simp only [List.map_toArray,List.map_cons,List.map_nil]);first|done|rfl) ?_;refine (zz0_calls (q := L) (sub := [47,46,46,47]) r3 HR3.out (HR.out.heap rfl) HC.out (HSV.out.heap rfl) hcSV (by decide) HPL.out (by decide)).mono ?_;rintro e wq ⟨rfl,⟨nd,rfl⟩⟩;refine ⟨_,rfl,?_⟩)|((with_reducible refine gate_callee (f := 98) rfl ?_);refine goesL_ (some 105) rfl rfl Try.func98 (by kernel_rfl) rfl #[] rfl (by (try simp only [List.map_toArray,List.map_cons,List.map_nil]);first|done|rfl) ?_;refine (strSDD_calls _).mono ?_;rintro e wq ⟨gSY,cSY,rfl,hcSY,hbS,hbel⟩;refine ⟨_,rfl,?_⟩;have HSY := Aside0.mk hbS;have n0_ := Aside0.mk (BR.below2 HR.out hbel rfl);have n1_ := Aside0.mk (below_step (bl_ HB.out) hbel);clear HR HB;have HR := n0_;have HB := n1_;clear n0_ n1_ hbS hbel)|((with_reducible refine gate_callee (f := 97) rfl ?_);refine goesL_ (some 106) rfl rfl Try.func97 (by kernel_rfl) rfl #[.slice (some ⟨g,0,none⟩) L.length c5,.slice (some ⟨gSY,0,none⟩) 3 cSY] rfl (by (try simp only [List.map_toArray,List.map_cons,List.map_nil]);first|done|rfl) ?_;refine (lix_calls (p := L) r5 HEV5.out (HR.out.heap rfl) HC.out (HSY.out.heap rfl) hcSY HPL.out).mono ?_;rintro e wq ⟨rfl,⟨nd,rfl⟩⟩;refine ⟨_,rfl,?_⟩)|((with_reducible refine gate_callee (f := 98) rfl ?_);(refine gate_guard (by kernel_rfl) ?_);refine goesL_ (some 111) rfl rfl Try.func98 (by kernel_rfl) rfl #[] rfl (by (try simp only [List.map_toArray,List.map_cons,List.map_nil]);first|done|rfl) ?_;refine (strSDD_calls _).mono ?_;rintro e wq ⟨gSZ,cSZ,rfl,hcSZ,hbS,hbel⟩;refine ⟨_,rfl,?_⟩;have HSZ := Aside0.mk hbS;have n0_ := Aside0.mk (BR.below2 HR.out hbel rfl);have n1_ := Aside0.mk (below_step (bl_ HB.out) hbel);clear HR HB;have HR := n0_;have HB := n1_;clear n0_ n1_ hbS hbel))
        go_ret
        rw [HCLN.out]
        exact ⟨g,c5,rfl,HR.out.heap rfl,(bl_ HB.out),HG.out,HC.out⟩
       have b5 : decide (r5 ≥ 0) = false := decide_eq_false h5
       have b5' : decide (0 ≤ r5) = false := decide_eq_false h5
       clear hev5 hsuf hnsuf hb5 hx hno hpl
       go_wp2_with (first|((with_reducible refine gate_callee (f := 96) rfl ?_);refine goesL_ (some 74) rfl rfl Try.func96 (by kernel_rfl) rfl #[] rfl (by (try simp only [List.map_toArray,List.map_cons,List.map_nil]);first|done|rfl) ?_;refine (strSDDS_calls _).mono ?_;rintro e wq ⟨gSV,cSV,rfl,hcSV,hbS,hbel⟩;refine ⟨_,rfl,?_⟩;have HSV := Aside0.mk hbS;have n0_ := Aside0.mk (BR.below2 HR.out hbel rfl);have n1_ := Aside0.mk (below_step (bl_ HB.out) hbel);clear HR HB;have HR := n0_;have HB := n1_;clear n0_ n1_ hbS hbel)|((with_reducible refine gate_callee (f := 83) rfl ?_);refine goesL_ (some 75) rfl rfl Try.func83 (by kernel_rfl) rfl #[.slice (some ⟨g,0,none⟩) L.length c5,.slice (some ⟨gSV,0,none⟩) 4 cSV] rfl (by (try simp only [List.map_toArray,List.map_cons,List.map_nil]);first|done|rfl) ?_;refine (zz0_calls (q := L) (sub := [47,46,46,47]) r3 HR3.out (HR.out.heap rfl) HC.out (HSV.out.heap rfl) hcSV (by decide) HPL.out (by decide)).mono ?_;rintro e wq ⟨rfl,⟨nd,rfl⟩⟩;refine ⟨_,rfl,?_⟩)|((with_reducible refine gate_callee (f := 98) rfl ?_);refine goesL_ (some 105) rfl rfl Try.func98 (by kernel_rfl) rfl #[] rfl (by (try simp only [List.map_toArray,List.map_cons,List.map_nil]);first|done|rfl) ?_;refine (strSDD_calls _).mono ?_;rintro e wq ⟨gSY,cSY,rfl,hcSY,hbS,hbel⟩;refine ⟨_,rfl,?_⟩;have HSY := Aside0.mk hbS;have n0_ := Aside0.mk (BR.below2 HR.out hbel rfl);have n1_ := Aside0.mk (below_step (bl_ HB.out) hbel);clear HR HB;have HR := n0_;have HB := n1_;clear n0_ n1_ hbS hbel)|((with_reducible refine gate_callee (f := 97) rfl ?_);refine goesL_ (some 106) rfl rfl Try.func97 (by kernel_rfl) rfl #[.slice (some ⟨g,0,none⟩) L.length c5,.slice (some ⟨gSY,0,none⟩) 3 cSY] rfl (by (try simp only [List.map_toArray,List.map_cons,List.map_nil]);first|done|rfl) ?_;refine (lix_calls (p := L) r5 HEV5.out (HR.out.heap rfl) HC.out (HSY.out.heap rfl) hcSY HPL.out).mono ?_;rintro e wq ⟨rfl,⟨nd,rfl⟩⟩;refine ⟨_,rfl,?_⟩))
       go_ret
       rw [HCLN.out]
       exact ⟨g,c5,rfl,HR.out.heap rfl,(bl_ HB.out),HG.out,HC.out⟩
      have b3 : decide (r3 < 0) = false := decide_eq_false (by omega)
      rcases SpA.lastIB a 47 (by rw [hq] at HPL;have := HPL.out;simp at this;omega) with ⟨p',y,ha,hy,hev⟩|⟨ha,hev⟩
      ·
       have hra : r3 = (a.length : Int) := by rw [← hr3,hix]
       have hql : L.length = a.length + (b.length + 4) := by rw [hq];simp <;> omega
       have hcq := HC.out
       have hpl := HPL.out
       have HPC : Aside0 (a.length ≤ c5) := ⟨by omega⟩
       have HPB : Aside0 (a.length ≤ 4611686018427387) := ⟨by omega⟩
       have HCUT0 := cutTo (P := Try.prog) Try.underlying49 HI.out (some ⟨g,0,none⟩) L.length c5 a.length r3 hra (by omega) hcq
       have hal : a.length = p'.length + (y.length + 1) := by rw [ha];simp
       obtain ⟨r4,hr4⟩ : ∃ r4 : Int,r4 = (p'.length : Int) := ⟨_,rfl⟩
       rw [← hr4] at hev
       have HEV := Aside0.mk hev
       have b4 : decide (r4 < 0) = false := decide_eq_false (by omega)
       have hgood : Cl.good y := good_part L p' y b HF.out HF2.out (by rw [hq,ha]) (by rw [← ha];exact hmin)
       have hrow : L = p' ++ (47 :: y ++ [47,46,46]) ++ (47 :: b) := by rw [hq,ha];simp
       have HCL2 : Aside0 (cleanK (p' ++ 47 :: b) = cleanK l0) := ⟨by rw [← HCL.out,hrow];have := Cl.clean_up p' y b hy hgood;simpa using this.symm⟩
       have HSL2 : Aside0 (∃ t,p' ++ 47 :: b = 47 :: t) := ⟨by obtain ⟨t,ht⟩ := HSL.out;exact slash_first p' b (y ++ [47,46,46] ++ 47 :: b) t (by rw [← ht,hrow];simp)⟩
       have HF3 : Aside0 (∀ a' c',p' ++ 47 :: b ≠ a' ++ 47 :: 47 :: c') := ⟨Cl.shift_free2 p' (y ++ [47,46,46]) b (fun a' c' e => HF.out a' c' (by rw [← e,hrow] <;> simp))⟩
       have HF4 : Aside0 (∀ a' c',p' ++ 47 :: b ≠ a' ++ 47 :: 46 :: 47 :: c') := ⟨Cl.shift_free3 p' (y ++ [47,46,46]) b (fun a' c' e => HF2.out a' c' (by rw [← e,hrow] <;> simp))⟩
       obtain ⟨n9,hn9⟩ : ∃ n9 : Int,n9 = ((a.length + 3 : Nat) : Int) := ⟨_,rfl⟩
       have hw9 : wrap64 (r3 + 3) = n9 := by unfold wrap64;omega
       have hw43 : wrap64 3 = 3 := by unfold wrap64;omega
       obtain ⟨nd6,hnd6⟩ : ∃ n,n = L.length - p'.length := ⟨_,rfl⟩
       obtain ⟨ns6,hns6⟩ : ∃ n,n = b.length + 1 := ⟨_,rfl⟩
       obtain ⟨c6,hc6⟩ : ∃ c6,c6 = c5 - p'.length := ⟨_,rfl⟩
       obtain ⟨c7,hc7⟩ : ∃ c7,c7 = c5 - (a.length + 3) := ⟨_,rfl⟩
       obtain ⟨o7,ho7⟩ : ∃ o7,o7 = a.length + 3 := ⟨_,rfl⟩
       obtain ⟨n8,hn8⟩ : ∃ n8,n8 = p'.length + (b.length + 1) := ⟨_,rfl⟩
       have HCUT1 := cutFrom (P := Try.prog) Try.underlying49 HI.out HSZ.out g 0 L.length c5 p'.length p'.length nd6 c6 r4 hr4 (by omega) (by omega) (by omega) (by omega) hc6
       have HCUT2 := cutFrom (P := Try.prog) Try.underlying49 HI.out HSZ.out g 0 L.length c5 (a.length + 3) o7 ns6 c7 n9 hn9 (by omega) (by omega) (by omega) (by omega) hc7
       obtain ⟨x8,hx8⟩ : ∃ x8 : Int,x8 = (n8 : Int) := ⟨_,rfl⟩
       have hw8 : wrap64 (wrap64 ((L.length : Int) - n9) + r4) = x8 := by unfold wrap64;omega
       have HCUT3 := cutTo (P := Try.prog) Try.underlying49 HI.out (some ⟨g,0,none⟩) L.length c5 n8 x8 hx8 (by omega) hcq
       have HROW := Aside0.mk hrow
       have HND : Aside0 (nd6 = (47 :: y ++ [47,46,46]).length + (47 :: b).length) := ⟨by simp;omega⟩
       have HNS := Aside0.mk hns6
       have HO7 : Aside0 (o7 = p'.length + (47 :: y ++ [47,46,46]).length) := ⟨by simp;omega⟩
       have HN8 := Aside0.mk hn8
       have HC8 : Aside0 (n8 ≤ c5 ∧ n8 < L.length ∧ n8 ≤ l0.length) := ⟨by have := HLEN.out;omega⟩
       have HQA := Aside0.mk hq
       clear hix hmin hr3 hql hcq hpl hc6 hc7 hx8 hrow hnd6 hns6 ho7 hn8 hq hra hn9 hal hr4 hev ha hy hgood
       go_wp2_with (first|((with_reducible refine gate_callee (f := 96) rfl ?_);refine goesL_ (some 74) rfl rfl Try.func96 (by kernel_rfl) rfl #[] rfl (by (try simp only [List.map_toArray,List.map_cons,List.map_nil]);first|done|rfl) ?_;refine (strSDDS_calls _).mono ?_;rintro e wq ⟨gSV,cSV,rfl,hcSV,hbS,hbel⟩;refine ⟨_,rfl,?_⟩;have HSV := Aside0.mk hbS;have n0_ := Aside0.mk (BR.below2 HR.out hbel rfl);have n1_ := Aside0.mk (below_step (bl_ HB.out) hbel);clear HR HB;have HR := n0_;have HB := n1_;clear n0_ n1_ hbS hbel)|((with_reducible refine gate_callee (f := 83) rfl ?_);refine goesL_ (some 75) rfl rfl Try.func83 (by kernel_rfl) rfl #[.slice (some ⟨g,0,none⟩) L.length c5,.slice (some ⟨gSV,0,none⟩) 4 cSV] rfl (by (try simp only [List.map_toArray,List.map_cons,List.map_nil]);first|done|rfl) ?_;refine (zz0_calls (q := L) (sub := [47,46,46,47]) r3 HR3.out (HR.out.heap rfl) HC.out (HSV.out.heap rfl) hcSV (by decide) HPL.out (by decide)).mono ?_;rintro e wq ⟨rfl,⟨nd,rfl⟩⟩;refine ⟨_,rfl,?_⟩)|((with_reducible refine gate_callee (f := 71) rfl ?_);refine goesL_ (some 81) rfl rfl Try.func71 (by kernel_rfl) rfl #[.slice (some ⟨g,0,none⟩) a.length c5,.int .u8 47] rfl (by (try simp only [List.map_toArray,List.map_cons,List.map_nil]);first|done|rfl) ?_;refine (lib_calls (p := a) r4 HEV.out (BR.pre (q := [47,46,46,47] ++ b) (by rw [← List.append_assoc,← HQA.out];exact HR.out.heap rfl)) HPC.out HPB.out).mono ?_;rintro e wq ⟨rfl,⟨nd,rfl⟩⟩;refine ⟨_,rfl,?_⟩)|((with_reducible refine gate_callee (f := 96) rfl ?_);refine goesL_ (some 85) rfl rfl Try.func96 (by kernel_rfl) rfl #[] rfl (by (try simp only [List.map_toArray,List.map_cons,List.map_nil]);first|done|rfl) ?_;refine (strSDDS_calls _).mono ?_;rintro e wq ⟨gSX,cSX,rfl,hcSX,hbS,hbel⟩;refine ⟨_,rfl,?_⟩;have HSX := Aside0.mk hbS;have n0_ := Aside0.mk (BR.below2 HR.out hbel rfl);have n1_ := Aside0.mk (below_step (bl_ HB.out) hbel);clear HR HB;have HR := n0_;have HB := n1_;clear n0_ n1_ hbS hbel))
       go_still_tail 6,(by kernel_rfl)
       change wpList _ _ _ _ _ _
       ((with_reducible refine gate_builtin (b := .copy) (xs := #[.tmp 91,.tmp 94]) rfl ?_);refine shift_BR rfl (.tmp 91) (.tmp 94) 49 49 5 rfl Try.underlying49 (by rw [HI.out];exact congrArg some HSZ.out) g c6 c7 (p') (47 :: y ++ [47,46,46]) (47 :: b) nd6 ns6 o7 HND.out (by rw [HNS.out];simp) HO7.out rfl rfl (by rw [← HROW.out];exact HR.out.heap rfl) w.heap.size HG.out ?_;intro w7 hbr hb;have n0_ := Aside0.mk (show Below w.heap.size w w7 from Below.trans (Below.drew HB.out) hb);clear HB HR;have HR := Aside0.mk hbr;have HB := n0_;clear n0_ hbr hb)
       go_wp2
       go_roundw
       case measure => exact HC8.out.2.1
       case rel => exact ⟨p' ++ 47 :: b,c5,by rw [HN8.out];simp,HR,⟨by have := HC8.out.1;rw [HN8.out] at this;simpa using this⟩,HF3,HF4,HCL2,HSL2,⟨by have := HC8.out.2.2;rw [HN8.out] at this;simpa using this⟩,⟨(bl_ HB.out)⟩⟩
      have hra : r3 = (a.length : Int) := by rw [← hr3,hix]
      have hql : L.length = a.length + (b.length + 4) := by rw [hq];simp <;> omega
      have hcq := HC.out
      have hpl := HPL.out
      have HPC : Aside0 (a.length ≤ c5) := ⟨by omega⟩
      have HPB : Aside0 (a.length ≤ 4611686018427387) := ⟨by omega⟩
      have HCUT0 := cutTo (P := Try.prog) Try.underlying49 HI.out (some ⟨g,0,none⟩) L.length c5 a.length r3 hra (by omega) hcq
      obtain ⟨t0,ht0⟩ := HSL.out
      have ha0 : a = [] := no_slash_first a t0 L ([47,46,46,47] ++ b) (by rw [hq];simp) ht0 ha
      have hal : a.length = 0 := by rw [ha0];rfl
      obtain ⟨r4,hr4⟩ : ∃ r4 : Int,r4 = -1 := ⟨_,rfl⟩
      rw [← hr4] at hev
      have HEV := Aside0.mk hev
      have b4 : decide (r4 < 0) = true := decide_eq_true (by omega)
      have hrow : L = [] ++ [47,46,46] ++ (47 :: b) := by rw [hq,ha0];simp
      have HCL2 : Aside0 (cleanK ([] ++ 47 :: b) = cleanK l0) := ⟨by rw [← HCL.out,hrow];have := Cl.clean_up0 b;simpa using this.symm⟩
      have HSL2 : Aside0 (∃ t,[] ++ 47 :: b = 47 :: t) := ⟨b,rfl⟩
      have HF3 : Aside0 (∀ a' c',[] ++ 47 :: b ≠ a' ++ 47 :: 47 :: c') := ⟨Cl.shift_free2 [] [46,46] b (fun a' c' e => HF.out a' c' (by rw [← e,hrow] <;> simp))⟩
      have HF4 : Aside0 (∀ a' c',[] ++ 47 :: b ≠ a' ++ 47 :: 46 :: 47 :: c') := ⟨Cl.shift_free3 [] [46,46] b (fun a' c' e => HF2.out a' c' (by rw [← e,hrow] <;> simp))⟩
      obtain ⟨n9,hn9⟩ : ∃ n9 : Int,n9 = ((a.length + 3 : Nat) : Int) := ⟨_,rfl⟩
      have hw9 : wrap64 (r3 + 3) = n9 := by unfold wrap64;omega
      have hw43 : wrap64 3 = 3 := by unfold wrap64;omega
      obtain ⟨nd6,hnd6⟩ : ∃ n,n = L.length - 0 := ⟨_,rfl⟩
      obtain ⟨ns6,hns6⟩ : ∃ n,n = b.length + 1 := ⟨_,rfl⟩
      obtain ⟨c6,hc6⟩ : ∃ c6,c6 = c5 - 0 := ⟨_,rfl⟩
      obtain ⟨c7,hc7⟩ : ∃ c7,c7 = c5 - (a.length + 3) := ⟨_,rfl⟩
      obtain ⟨o7,ho7⟩ : ∃ o7,o7 = a.length + 3 := ⟨_,rfl⟩
      obtain ⟨n8,hn8⟩ : ∃ n8,n8 = 0 + (b.length + 1) := ⟨_,rfl⟩
      have HCUT1 := cutFrom (P := Try.prog) Try.underlying49 HI.out HSZ.out g 0 L.length c5 0 0 nd6 c6 (0 : Int) rfl (by omega) (by omega) (by omega) (by omega) hc6
      have HCUT2 := cutFrom (P := Try.prog) Try.underlying49 HI.out HSZ.out g 0 L.length c5 (a.length + 3) o7 ns6 c7 n9 hn9 (by omega) (by omega) (by omega) (by omega) hc7
      obtain ⟨x8,hx8⟩ : ∃ x8 : Int,x8 = (n8 : Int) := ⟨_,rfl⟩
      have hw8 : wrap64 ((L.length : Int) - n9) = x8 := by unfold wrap64;omega
      have hw8a : wrap64 (x8 + 0) = x8 := by unfold wrap64;omega
      have hw8b : wrap64 x8 = x8 := by unfold wrap64;omega
      have HCUT3 := cutTo (P := Try.prog) Try.underlying49 HI.out (some ⟨g,0,none⟩) L.length c5 n8 x8 hx8 (by omega) hcq
      have HROW := Aside0.mk hrow
      have HND : Aside0 (nd6 = ([47,46,46]).length + (47 :: b).length) := ⟨by simp;omega⟩
      have HNS := Aside0.mk hns6
      have HO7 : Aside0 (o7 = 0 + ([47,46,46]).length) := ⟨by simp;omega⟩
      have HN8 := Aside0.mk hn8
      have HC8 : Aside0 (n8 ≤ c5 ∧ n8 < L.length ∧ n8 ≤ l0.length) := ⟨by have := HLEN.out;omega⟩
      have HQA := Aside0.mk hq
      clear hix hmin hr3 hql hcq hpl hc6 hc7 hx8 hrow hnd6 hns6 ho7 hn8 hq hra hn9 hal hr4 hev ha ha0 ht0
      go_wp2_with (first|((with_reducible refine gate_callee (f := 96) rfl ?_);refine goesL_ (some 74) rfl rfl Try.func96 (by kernel_rfl) rfl #[] rfl (by (try simp only [List.map_toArray,List.map_cons,List.map_nil]);first|done|rfl) ?_;refine (strSDDS_calls _).mono ?_;rintro e wq ⟨gSV,cSV,rfl,hcSV,hbS,hbel⟩;refine ⟨_,rfl,?_⟩;have HSV := Aside0.mk hbS;have n0_ := Aside0.mk (BR.below2 HR.out hbel rfl);have n1_ := Aside0.mk (below_step (bl_ HB.out) hbel);clear HR HB;have HR := n0_;have HB := n1_;clear n0_ n1_ hbS hbel)|((with_reducible refine gate_callee (f := 83) rfl ?_);refine goesL_ (some 75) rfl rfl Try.func83 (by kernel_rfl) rfl #[.slice (some ⟨g,0,none⟩) L.length c5,.slice (some ⟨gSV,0,none⟩) 4 cSV] rfl (by (try simp only [List.map_toArray,List.map_cons,List.map_nil]);first|done|rfl) ?_;refine (zz0_calls (q := L) (sub := [47,46,46,47]) r3 HR3.out (HR.out.heap rfl) HC.out (HSV.out.heap rfl) hcSV (by decide) HPL.out (by decide)).mono ?_;rintro e wq ⟨rfl,⟨nd,rfl⟩⟩;refine ⟨_,rfl,?_⟩)|((with_reducible refine gate_callee (f := 71) rfl ?_);refine goesL_ (some 81) rfl rfl Try.func71 (by kernel_rfl) rfl #[.slice (some ⟨g,0,none⟩) a.length c5,.int .u8 47] rfl (by (try simp only [List.map_toArray,List.map_cons,List.map_nil]);first|done|rfl) ?_;refine (lib_calls (p := a) r4 HEV.out (BR.pre (q := [47,46,46,47] ++ b) (by rw [← List.append_assoc,← HQA.out];exact HR.out.heap rfl)) HPC.out HPB.out).mono ?_;rintro e wq ⟨rfl,⟨nd,rfl⟩⟩;refine ⟨_,rfl,?_⟩)|((with_reducible refine gate_callee (f := 96) rfl ?_);refine goesL_ (some 85) rfl rfl Try.func96 (by kernel_rfl) rfl #[] rfl (by (try simp only [List.map_toArray,List.map_cons,List.map_nil]);first|done|rfl) ?_;refine (strSDDS_calls _).mono ?_;rintro e wq ⟨gSX,cSX,rfl,hcSX,hbS,hbel⟩;refine ⟨_,rfl,?_⟩;have HSX := Aside0.mk hbS;have n0_ := Aside0.mk (BR.below2 HR.out hbel rfl);have n1_ := Aside0.mk (below_step (bl_ HB.out) hbel);clear HR HB;have HR := n0_;have HB := n1_;clear n0_ n1_ hbS hbel))
      go_still_tail 6,(by kernel_rfl)
      change wpList _ _ _ _ _ _
      ((with_reducible refine gate_builtin (b := .copy) (xs := #[.tmp 91,.tmp 94]) rfl ?_);refine shift_BR rfl (.tmp 91) (.tmp 94) 49 49 5 rfl Try.underlying49 (by rw [HI.out];exact congrArg some HSZ.out) g c6 c7 (([] : List UInt8)) ([47,46,46]) (47 :: b) nd6 ns6 o7 HND.out (by rw [HNS.out];simp) HO7.out rfl rfl (by rw [← HROW.out];exact HR.out.heap rfl) w.heap.size HG.out ?_;intro w7 hbr hb;have n0_ := Aside0.mk (show Below w.heap.size w w7 from Below.trans (Below.drew HB.out) hb);clear HB HR;have HR := Aside0.mk hbr;have HB := n0_;clear n0_ hbr hb)
      go_wp2
      go_roundw
      case measure => exact HC8.out.2.1
      case rel => exact ⟨([] : List UInt8) ++ 47 :: b,c5,by rw [HN8.out];simp,HR,⟨by have := HC8.out.1;rw [HN8.out] at this;simpa using this⟩,HF3,HF4,HCL2,HSL2,⟨by have := HC8.out.2.2;rw [HN8.out] at this;simpa using this⟩,⟨(bl_ HB.out)⟩⟩
    have b2 : decide (r2 < 0) = false := decide_eq_false (by omega)
    have hra : r2 = (a.length : Int) := by rw [← hr2,hix]
    have hql : L.length = a.length + (b.length + 3) := by rw [hq];simp <;> omega
    have hcq := HC.out
    have hpl := HPL.out
    obtain ⟨n9,hn9⟩ : ∃ n9 : Int,n9 = ((a.length + 2 : Nat) : Int) := ⟨_,rfl⟩
    have hw9 : wrap64 (wrap64 (r2 + 3) - 1) = n9 := by unfold wrap64;omega
    obtain ⟨nd6,hnd6⟩ : ∃ n,n = b.length + 3 := ⟨_,rfl⟩
    obtain ⟨ns6,hns6⟩ : ∃ n,n = b.length + 1 := ⟨_,rfl⟩
    obtain ⟨c6,hc6⟩ : ∃ c6,c6 = c5 - a.length := ⟨_,rfl⟩
    obtain ⟨c7,hc7⟩ : ∃ c7,c7 = c5 - (a.length + 2) := ⟨_,rfl⟩
    obtain ⟨o7,ho7⟩ : ∃ o7,o7 = a.length + 2 := ⟨_,rfl⟩
    obtain ⟨n8,hn8⟩ : ∃ n8,n8 = a.length + (b.length + 1) := ⟨_,rfl⟩
    have HCUT1 := cutFrom (P := Try.prog) Try.underlying49 HI.out HSZ.out g 0 L.length c5 a.length a.length nd6 c6 r2 hra (by omega) (by omega) (by omega) (by omega) hc6
    have HCUT2 := cutFrom (P := Try.prog) Try.underlying49 HI.out HSZ.out g 0 L.length c5 (a.length + 2) o7 ns6 c7 n9 hn9 (by omega) (by omega) (by omega) (by omega) hc7
    obtain ⟨x8,hx8⟩ : ∃ x8 : Int,x8 = (n8 : Int) := ⟨_,rfl⟩
    have hw8 : wrap64 (wrap64 ((L.length : Int) - n9) + r2) = x8 := by unfold wrap64;omega
    have HCUT3 := cutTo (P := Try.prog) Try.underlying49 HI.out (some ⟨g,0,none⟩) L.length c5 n8 x8 hx8 (by omega) hcq
    have hrow : L = a ++ [47,46] ++ (47 :: b) := by rw [hq];simp
    have HROW := Aside0.mk hrow
    have HND := Aside0.mk hnd6
    have HNS := Aside0.mk hns6
    have HO7 := Aside0.mk ho7
    have HN8 := Aside0.mk hn8
    have HC8 : Aside0 (n8 ≤ c5 ∧ n8 < L.length ∧ n8 ≤ l0.length) := ⟨by have := HLEN.out;omega⟩
    have HF3 : Aside0 (∀ a' c',a ++ 47 :: b ≠ a' ++ 47 :: 47 :: c') := ⟨Cl.shift_free2 a [46] b (fun a' c' e => HF.out a' c' (by rw [← e,hrow] <;> simp))⟩
    have HSL2 : Aside0 (∃ t,a ++ 47 :: b = 47 :: t) := ⟨by obtain ⟨t,ht⟩ := HSL.out;exact slash_first a b (46 :: 47 :: b) t (by rw [← ht,hrow];simp)⟩
    have HCL2 : Aside0 (cleanK (a ++ 47 :: b) = cleanK l0) := ⟨by rw [← HCL.out,hrow];have := Cl.clean_dot a b;simpa using this.symm⟩
    clear hix hmin hr2 hql hcq hpl hc6 hc7 hx8 hrow hnd6 hns6 ho7 hn8 hq hra hn9
    go_wp2_with (first|((with_reducible refine gate_callee (f := 95) rfl ?_);refine goesL_ (some 49) rfl rfl Try.func95 (by kernel_rfl) rfl #[] rfl (by (try simp only [List.map_toArray,List.map_cons,List.map_nil]);first|done|rfl) ?_;refine (strSDS_calls _).mono ?_;rintro e wq ⟨gST,cST,rfl,hcST,hbS,hbel⟩;refine ⟨_,rfl,?_⟩;have HST := Aside0.mk hbS;have n0_ := Aside0.mk (BR.below2 HR.out hbel rfl);have n1_ := Aside0.mk (below_step (bl_ HB.out) hbel);clear HR HB;have HR := n0_;have HB := n1_;clear n0_ n1_ hbS hbel)|((with_reducible refine gate_callee (f := 83) rfl ?_);refine goesL_ (some 50) rfl rfl Try.func83 (by kernel_rfl) rfl #[.slice (some ⟨g,0,none⟩) L.length c5,.slice (some ⟨gST,0,none⟩) 3 cST] rfl (by (try simp only [List.map_toArray,List.map_cons,List.map_nil]);first|done|rfl) ?_;refine (zz0_calls (q := L) (sub := [47,46,47]) r2 HR2.out (HR.out.heap rfl) HC.out (HST.out.heap rfl) hcST (by decide) HPL.out (by decide)).mono ?_;rintro e wq ⟨rfl,⟨nd,rfl⟩⟩;refine ⟨_,rfl,?_⟩)|((with_reducible refine gate_callee (f := 95) rfl ?_);refine goesL_ (some 54) rfl rfl Try.func95 (by kernel_rfl) rfl #[] rfl (by (try simp only [List.map_toArray,List.map_cons,List.map_nil]);first|done|rfl) ?_;refine (strSDS_calls _).mono ?_;rintro e wq ⟨gSU,cSU,rfl,hcSU,hbS,hbel⟩;refine ⟨_,rfl,?_⟩;have HSU := Aside0.mk hbS;have n0_ := Aside0.mk (BR.below2 HR.out hbel rfl);have n1_ := Aside0.mk (below_step (bl_ HB.out) hbel);clear HR HB;have HR := n0_;have HB := n1_;clear n0_ n1_ hbS hbel))
    go_still_tail 6,(by kernel_rfl)
    change wpList _ _ _ _ _ _
    ((with_reducible refine gate_builtin (b := .copy) (xs := #[.tmp 60,.tmp 63]) rfl ?_);refine shift_BR rfl (.tmp 60) (.tmp 63) 49 49 5 rfl Try.underlying49 (by rw [HI.out];exact congrArg some HSZ.out) g c6 c7 (a) ([47,46]) (47 :: b) nd6 ns6 o7 (by rw [HND.out];simp;omega) (by rw [HNS.out];simp) (by rw [HO7.out];simp) rfl rfl (by rw [← HROW.out];exact HR.out.heap rfl) w.heap.size HG.out ?_;intro w7 hbr hb;have n0_ := Aside0.mk (show Below w.heap.size w w7 from Below.trans (Below.drew HB.out) hb);clear HB HR;have HR := Aside0.mk hbr;have HB := n0_;clear n0_ hbr hb)
    go_wp2
    go_roundw
    case measure => exact HC8.out.2.1
    case rel => exact ⟨a ++ 47 :: b,c5,by rw [HN8.out];simp,HR,⟨by have := HC8.out.1;rw [HN8.out] at this;simpa using this⟩,HF3,HCL2,HSL2,⟨by have := HC8.out.2.2;rw [HN8.out] at this;simpa using this⟩,⟨(bl_ HB.out)⟩⟩
  have b1 : decide (r1 < 0) = false := decide_eq_false (by omega)
  have hra : r1 = (a.length : Int) := by rw [← hr1,hix]
  have hql : q.length = a.length + (b.length + 2) := by rw [hq];simp <;> omega
  obtain ⟨c6,hc6⟩ : ∃ c6,c6 = c5 - a.length := ⟨_,rfl⟩
  obtain ⟨c7,hc7⟩ : ∃ c7,c7 = c6 - 1 := ⟨_,rfl⟩
  have hcq := HC.out
  obtain ⟨o6,ho6⟩ : ∃ o6,o6 = (p ++ a).length := ⟨_,rfl⟩
  obtain ⟨n6,hn6⟩ : ∃ n6,n6 = b.length + 2 := ⟨_,rfl⟩
  obtain ⟨n7,hn7⟩ : ∃ n7,n7 = b.length + 1 := ⟨_,rfl⟩
  have HCUT1 := cutFrom (P := Try.prog) Try.underlying49 HI.out HSZ.out g p.length q.length c5 a.length o6 n6 c6 r1 hra (by omega) (by omega) (by rw [ho6];simp) (by omega) hc6
  have HCUT2 := cutFrom (P := Try.prog) Try.underlying49 HI.out HSZ.out g o6 n6 c6 1 (o6 + 1) n7 c7 1 rfl (by omega) (by omega) rfl (by omega) hc7
  have hw7 : wrap64 ((n6 : Int) - 1) = ((n7 : Nat) : Int) := by unfold wrap64;simp at HPL;have := HPL.out;omega
  obtain ⟨x7,hx7⟩ : ∃ x7 : Int,x7 = (n7 : Int) := ⟨_,rfl⟩
  rw [← hx7] at hw7
  have HCUT3 := cutTo (P := Try.prog) Try.underlying49 HI.out (some ⟨g,o6,none⟩) n6 c6 n7 x7 hx7 (by omega) (by omega)
  have HZW : Aside0 (wrap64 (z6 - 1) = (((p ++ a).length + (47 :: b).length : Nat) : Int)) := ⟨by have h1 := HZ6.out;have h2 := HPL.out;simp at h2 ⊢;unfold wrap64;omega⟩
  have HZM : Aside0 ((wrap64 (z6 - 1)).toNat < z6.toNat) := ⟨by have h1 := HZ6.out;rw [HZW.out];simp;omega⟩
  have hrow : p ++ q = (p ++ a) ++ [47] ++ (47 :: b) := by rw [hq];simp
  have HROW := Aside0.mk hrow
  have HO6 := Aside0.mk ho6
  have HN7 := Aside0.mk hn7
  have HN6 := Aside0.mk hn6
  have HQ := Aside0.mk hq
  have HC7 : Aside0 (n7 ≤ c6) := ⟨by omega⟩
  have HINV2 := Aside0.mk (SpA.dup_next p q a b hq hmin HINV.out)
  clear hix hmin hr1 hql hc6 hc7 hcq hx7 hrow ho6 hn6 hn7 hq hra
  go_wp2_with (first|((with_reducible refine gate_callee (f := 94) rfl ?_);refine goesL_ (some 26) rfl rfl Try.func94 (by kernel_rfl) rfl #[] rfl (by (try simp only [List.map_toArray,List.map_cons,List.map_nil]);first|done|rfl) ?_;refine (strSS_calls _).mono ?_;rintro e wq ⟨gSS,cSS,rfl,hcSS,hbS,hbel⟩;refine ⟨_,rfl,?_⟩;have HSS := Aside0.mk hbS;have n0_ := Aside0.mk (BR.below2 HR.out hbel rfl);have n1_ := Aside0.mk (below_step (bl_ HB.out) hbel);clear HR HB;have HR := n0_;have HB := n1_;clear n0_ n1_ hbS hbel)|((with_reducible refine gate_callee (f := 83) rfl ?_);refine goesL_ (some 27) rfl rfl Try.func83 (by kernel_rfl) rfl #[.slice (some ⟨g,p.length,none⟩) q.length c5,.slice (some ⟨gSS,0,none⟩) 2 cSS] rfl (by (try simp only [List.map_toArray,List.map_cons,List.map_nil]);first|done|rfl) ?_;refine (zz_calls (p := p) (q := q) (sub := [47,47]) r1 HR1.out (HR.out.heap rfl) HC.out (HSS.out.heap rfl) hcSS (by decide) HPL.out (by decide)).mono ?_;rintro e wq ⟨rfl,⟨nd,rfl⟩⟩;refine ⟨_,rfl,?_⟩)|((with_reducible refine gate_builtin (b := .copy) (xs := #[.tmp 33,.tmp 35]) rfl ?_);refine shift_BR rfl (.tmp 33) (.tmp 35) 49 49 5 rfl Try.underlying49 (by rw [HI.out];exact congrArg some HSZ.out) g c6 c7 (p ++ a) [47] (47 :: b) n6 n7 (o6 + 1) (by rw [HN6.out];simp;omega) (by rw [HN7.out];simp) (by rw [HO6.out];simp) (by rw [← HO6.out];rfl) rfl (by rw [← HROW.out];exact HR.out.heap rfl) w.heap.size HG.out ?_;intro w7 hbr hb;have n0_ := Aside0.mk (Below.trans (bl_ HB.out) hb);clear HB HR;have HR := Aside0.mk hbr;have HB := n0_;clear n0_ hbr hb))
  go_roundw
  case measure => exact HZM.out
  case rel => exact ⟨p ++ a,47 :: b,c6,by rw [HO6.out,HN7.out];rfl,congrArg (Value.int .i64) HZW.out,HR,⟨by have := HC7.out;have := HN7.out;simp;omega⟩,HINV2,⟨by rw [← HCL.out,HROW.out];simp only [List.append_assoc,List.singleton_append];rw [← List.append_assoc,← List.append_assoc];exact (Cl.clean_dup (p ++ a) b).symm⟩,⟨by obtain ⟨t,ht⟩ := HSL.out;rw [HROW.out] at ht;cases hpa : p ++ a with|nil => exact ⟨b,by simp⟩|cons x y => rw [hpa] at ht;simp at ht;exact ⟨y ++ 47 :: b,by rw [ht.1];simp⟩⟩,⟨by have h1 := HLEN.out;rw [HROW.out] at h1;simp at h1 ⊢;omega⟩,⟨(bl_ HB.out)⟩⟩
end Go.Proofs.Ytbkeakeldegkeaa.Q
end
section
namespace Go.Proofs.Ytbkeakeldegkeaa.Cl
theorem join_len_drop (k : List (List UInt8)) : (joinS k.dropLast).length ≤ (joinS k).length := by
 rcases List.eq_nil_or_concat k with rfl|⟨a,b,rfl⟩
 ·
  simp
 rw [List.concat_eq_append,List.dropLast_concat,joinS_app,List.length_append]
 omega
theorem step_len (k : List (List UInt8)) (q : List UInt8) : (joinS (stepK k q)).length ≤ (joinS k).length + (joinS [q]).length := by
 unfold stepK
 split
 ·
  omega
 split
 ·
  have := join_len_drop k
  omega
 rw [joinS_app,List.length_append]
 omega
theorem fold_len : ∀ (S k : List (List UInt8)),(joinS (S.foldl stepK k)).length ≤ (joinS k).length + (joinS S).length
 | [],k => by simp
 | q :: S,k => by
  have h1 := fold_len S (stepK k q)
  have h2 := step_len k q
  have h3 : (joinS (q :: S)).length = (joinS [q]).length + (joinS S).length := by rw [show q :: S = [q] ++ S from rfl,joinS_app,List.length_append]
  rw [List.foldl_cons]
  omega
theorem fin_len (k : List (List UInt8)) (last : List UInt8) : (finK k last).length ≤ (joinS k).length + (joinS [last]).length := by
 unfold finK
 split
 ·
  rename_i h
  have h1 := join_len_drop k
  rw [joinS_app,List.length_append]
  have h2 : (joinS [[]]).length = 1 := by decide
  have h3 : (joinS [last]).length = last.length + 1 := by simp [joinS]
  omega
 rw [joinS_app,List.length_append]
 omega
theorem clean_len (l : List UInt8) : (cleanK l).length ≤ l.length + 1 := by
 have h0 := congrArg List.length (join_split l)
 have hne := splitS_ne l
 have h1 := fin_len ((splitS l).dropLast.foldl stepK []) ((splitS l).getLastD [])
 have h2 := fold_len (splitS l).dropLast []
 have h3 : splitS l = (splitS l).dropLast ++ [(splitS l).getLastD []] := by
  rw [List.getLastD_eq_getLast?,List.getLast?_eq_some_getLast hne]
  exact (List.dropLast_concat_getLast hne).symm
 have h4 : (joinS (splitS l)).length = (joinS (splitS l).dropLast).length + (joinS [(splitS l).getLastD []]).length := by
  conv => lhs;rw [h3]
  rw [joinS_app,List.length_append]
 unfold cleanK
 simp only [List.length_cons] at h0
 have h5 : (joinS ([] : List (List UInt8))).length = 0 := rfl
 omega
end Go.Proofs.Ytbkeakeldegkeaa.Cl
end
