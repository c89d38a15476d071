/- FnUriSays: the law's function, called with any arguments, returns true and leaves its arguments as they were: every input, no condition. Part 15 of 16. -/
import Derived.Test.YtbkeakeldegkeaaZFnUriSays1
import Derived.Test.YtbkeakeldegkeaaZFnUriSays6
import Derived.Test.YtbkeakeldegkeaaZFnUriSays7
import Derived.Test.YtbkeakeldegkeaaZFnUriSays8
import Derived.Test.YtbkeakeldegkeaaZFnUriSays13
import Derived.Test.YtbkeakeldegkeaaZFnUriSays2
import Derived.Test.YtbkeakeldegkeaaZFnUriSays3
import Derived.Test.YtbkeakeldegkeaaZFnUriSays4
import Derived.Test.YtbkeakeldegkeaaZFnUriSays10
import Derived.Test.YtbkeakeldegkeaaZFnUriSays11
import Derived.Test.YtbkeakeldegkeaaZFnUriSays12
set_option linter.unusedVariables false
set_option linter.unusedSimpArgs false
section
namespace Go.Proofs.Ytbkeakeldegkeaa.Q
open Go.RowKit Go.Proofs.YtbkeakeldegkeaaW.PrintWords Go.Proofs.YtbkeakeldegkeaaW.PrintLast Go.Proofs.YtbkeakeldegkeaaW.PrintMore
attribute [local go_sem] max2_int min2_int max_two min_two max_three min_three max_four min_four
def spec_LastPart.f (k : Nat) (a0 : ByteArray) : Option (ByteArray) := (spec_split.f k a0 47).bind fun t430 => (if 0 ≤ (wrap64 ((t430.length : Int) - 1)) then (if (wrap64 ((t430.length : Int) - 1)) < (t430.length : Int) then (some (rdOf ByteArray.empty t430 (wrap64 ((t430.length : Int) - 1)))) else (none)) else (none))
set_option maxHeartbeats 8000000 in
set_option maxRecDepth 100000 in
theorem spec_LastPart.calls (k : Nat) (a0 : ByteArray) (r : ByteArray) (w : World) (h : spec_LastPart.f k a0 = some r) :
 Calls Try.prog 25 #[.string a0] w fun e w' => e = .returned (.string r) ∧ Below w.heap.size w w' := by
 have HB := Aside0.mk (Below.refl w.heap.size w)
 have H : ((spec_split.f k a0 47).bind fun t430 => (if 0 ≤ (wrap64 ((t430.length : Int) - 1)) then (if (wrap64 ((t430.length : Int) - 1)) < (t430.length : Int) then (some (rdOf ByteArray.empty t430 (wrap64 ((t430.length : Int) - 1)))) else (none)) else (none))) = some r := h
 clear h
 replace H := Option.bind_eq_some_iff.mp H
 obtain ⟨t430,A20,H⟩ := H
 replace H : (if 0 ≤ (wrap64 ((t430.length : Int) - 1)) then (if (wrap64 ((t430.length : Int) - 1)) < (t430.length : Int) then (some (rdOf ByteArray.empty t430 (wrap64 ((t430.length : Int) - 1)))) else (none)) else (none)) = some r := H
 have A2 := Aside0.mk A20
 clear A20
 obtain ⟨ji3,hji3⟩ : ∃ j_ : Int,(wrap64 ((t430.length : Int) - 1)) = j_ := ⟨_,rfl⟩
 replace H : (if 0 ≤ (ji3) then (if (ji3) < (t430.length : Int) then (some (rdOf ByteArray.empty t430 (ji3))) else (none)) else (none)) = some r := by first|(rw [hji3] at H;exact H)|(simp only [hji3] at H ⊢;exact H)
 (try rw [hji3] at A2)
 have hji3w : (IntKind.i64.wrap ((t430.length : Int) - 1)) = ji3 := (i64_w _).trans hji3
 by_cases c4 : 0 ≤ (ji3)
 ·
  rw [if_pos c4] at H
  have c4b0 : decide (0 ≤ (ji3)) = true := decide_eq_true c4
  clear c4
  by_cases c5 : (ji3) < (t430.length : Int)
  ·
   rw [if_pos c5] at H
   have c5b0 : decide ((ji3) < (t430.length : Int)) = true := decide_eq_true c5
   clear c5
   obtain rfl := Option.some.inj H
   go_enter Try.func25,Try.ntmps25
   go_wp2_with (first|((with_reducible refine gate_callee (f := 44) rfl ?_);refine goesL_ (some 5) rfl rfl Try.func44 (by kernel_rfl) rfl #[.string a0,.int .u8 47] rfl (by (try simp only [List.map_toArray,List.map_cons,List.map_nil]);first|done|rfl|(simp only [List.length_drop,List.length_take];rfl)) ?_;(with_reducible refine (spec_split.calls k a0 47 t430 _ A2.out).mono ?_);rintro e w6 ⟨v431,rfl,ho0,hb⟩;refine ⟨_,rfl,?_⟩;have n0_ := Aside0.mk (Kd.R_lower ho0 (below_size (bl_ HB.out)));have n1_ := Aside0.mk (below_step (bl_ HB.out) hb);clear HB;have HO432 := n0_;have HB := n1_;clear n0_ n1_;(try clear hb);(try clear hb2);(try clear hk);(try clear hi);(try clear ho0);obtain ⟨Ao7,co7,eo7⟩ := Kd.R_slice HO432.out;subst eo7;have p433 : 0 ≤ ((ji3) : Int) := odt_;have q433 : (ji3) < (t430.length : Int) := odt_;obtain ⟨ad433,e433,hx433_0⟩ := Kd.at_string (Kd.R_reads' HO432.out).2.2 (ji3) p433 q433;cases e433;replace p433 := eq_true p433;replace q433 := eq_true q433))
   go_ret
   exact ⟨by first|rfl|(simp [errW_none,errW_some] <;> rfl)|(simp only [← hji3];first|rfl|(simp [errW_none,errW_some] <;> rfl))|(simp [*,errW_none,errW_some] <;> rfl),bl_ HB.out⟩
  rw [if_neg c5] at H
  exact absurd H (by simp)
 rw [if_neg c4] at H
 exact absurd H (by simp)
end Go.Proofs.Ytbkeakeldegkeaa.Q
namespace Go.Proofs.Ytbkeakeldegkeaa.Q
open Go.RowKit Go.Proofs.YtbkeakeldegkeaaW.PrintWords Go.Proofs.YtbkeakeldegkeaaW.PrintLast Go.Proofs.YtbkeakeldegkeaaW.PrintMore
attribute [local go_sem] max2_int min2_int max_two min_two max_three min_three max_four min_four
attribute [local go_sem high] eqA27
theorem eqA37 (d : Nat) (w : World) (x0 y0 : ByteArray) (x1 y1 : ByteArray) (x2 y2 : ByteArray) (x3 y3 : ByteArray) (x4 y4 : ByteArray) (x5 y5 : ByteArray) (x6 y6 : ByteArray) (x7 y7 : ByteArray) :
 (Op.equalIn (d + 2) 37 (.agg #[.string x0,.string x1,.string x2,.string x3,.string x4,.string x5,.string x6,.string x7]) (.agg #[.string y0,.string y1,.string y2,.string y3,.string y4,.string y5,.string y6,.string y7])).run Try.prog w = .ok (x0.toList == y0.toList && (x1.toList == y1.toList && (x2.toList == y2.toList && (x3.toList == y3.toList && (x4.toList == y4.toList && (x5.toList == y5.toList && (x6.toList == y6.toList && (x7.toList == y7.toList)))))))) w := by
 refine eqA_of Try.underlying37 (by kernel_rfl) ?_
 refine eqf_cons (by rfl) (by go_simp;rfl) (by go_simp;rfl) (by go_simp) ?_
 refine eqf_cons (by rfl) (by go_simp;rfl) (by go_simp;rfl) (by go_simp) ?_
 refine eqf_cons (by rfl) (by go_simp;rfl) (by go_simp;rfl) (by go_simp) ?_
 refine eqf_cons (by rfl) (by go_simp;rfl) (by go_simp;rfl) (by go_simp) ?_
 refine eqf_cons (by rfl) (by go_simp;rfl) (by go_simp;rfl) (by go_simp) ?_
 refine eqf_cons (by rfl) (by go_simp;rfl) (by go_simp;rfl) (by go_simp) ?_
 refine eqf_cons (by rfl) (by go_simp;rfl) (by go_simp;rfl) (by go_simp) ?_
 exact eqf_last (by rfl) (by go_simp;rfl) (by go_simp;rfl) (by go_simp)
attribute [local go_sem high] eqA37
mutual
def laws_FnUriSays.j0 : Nat → ByteArray → ByteArray → Bool → Option (Bool)
 | 0,_,_,_ => none
 | k + 1,x0,x1,x20 => if x20 = true then (some true) else ((laws_parses.f).bind fun t434 => (if t434 = true then ((laws_short.f k (([x0,x1] : List ByteArray))).bind fun t438 => (if t438 = true then ((laws_calm.f k (([x0,x1] : List ByteArray))).bind fun t442 => (laws_FnUriSays.j1 k x0 x1 (!t442))) else (laws_FnUriSays.j1 k x0 x1 true))) else (none)))
def laws_FnUriSays.j1 : Nat → ByteArray → ByteArray → Bool → Option (Bool)
 | 0,_,_,_ => none
 | k + 1,x0,x1,x34 => if x34 = true then (some true) else ((spec_UriOf.f k x0 x1).bind fun bt443 => (if bt443.2.2.2.2.2.2.2.2 = 1 then ((impl_UriOf.f x0 x1).bind fun bt453 => ((impl_UriText.f x0 x1 false).bind fun bt463 => (if bt453.2.2.2.2.2.2.2.2 = true then (if bt463.2.2.2 = true then (if (bt453.1.toList == bt443.1.toList && (bt453.2.1.toList == bt443.2.1.toList && (bt453.2.2.1.toList == bt443.2.2.1.toList && (bt453.2.2.2.1.toList == bt443.2.2.2.1.toList && (bt453.2.2.2.2.1.toList == bt443.2.2.2.2.1.toList && (bt453.2.2.2.2.2.1.toList == bt443.2.2.2.2.2.1.toList && (bt453.2.2.2.2.2.2.1.toList == bt443.2.2.2.2.2.2.1.toList && (bt453.2.2.2.2.2.2.2.1.toList == bt443.2.2.2.2.2.2.2.1.toList)))))))) = true then ((spec_LastPart.f k bt443.2.2.1).bind fun t467 => (some (bt463.2.2.1.toList == t467.toList))) else (none)) else (none)) else (none)))) else (some true)))
end
def laws_FnUriSays.f (k : Nat) (a0 : ByteArray) (a1 : ByteArray) : Option (Bool) := if (a0.size : Int) > 2147483647 then (laws_FnUriSays.j0 k a0 a1 true) else (laws_FnUriSays.j0 k a0 a1 (decide ((a1.size : Int) > 2147483647)))
set_option maxHeartbeats 8000000 in
set_option maxRecDepth 100000 in
theorem laws_FnUriSays.calls (k : Nat) (a0 : ByteArray) (a1 : ByteArray) (r : Bool) (w : World) (h : laws_FnUriSays.f k a0 a1 = some r) :
 Calls Try.prog 7 #[.string a0,.string a1] w fun e w' => e = .returned (.bool r) ∧ Below w.heap.size w w' := by
 have hu37 := Try.underlying37
 have hu27 := Try.underlying27
 have HB := Aside0.mk (Below.refl w.heap.size w)
 have H : (if (a0.size : Int) > 2147483647 then (laws_FnUriSays.j0 k a0 a1 true) else (laws_FnUriSays.j0 k a0 a1 (decide ((a1.size : Int) > 2147483647)))) = some r := h
 clear h
 have HC3 := Aside0.mk H
 clear H
 go_enter Try.func7,Try.ntmps7
 go_upto_region 1 with (fail)
 go_cut [20] (fun v20 wc => ∃ (kq : Nat) (x20_2 : Bool),v20 = .bool x20_2 ∧ Aside0 (laws_FnUriSays.j0 kq a0 a1 x20_2 = some r) ∧ Aside0 (kq ≤ k) ∧ Aside0 (Below w.heap.size w wc))
 case first =>
  have H := HC3.out
  clear HC3
  by_cases c4 : (a0.size : Int) > 2147483647
  ·
   rw [if_pos c4] at H
   have c4b0 : decide (2147483647 < (a0.size : Int)) = true := decide_eq_true c4
   have c4b1 : decide (2147483647 < a0.size) = true := decide_eq_true (by omega)
   clear c4
   (first|rw [c4b0]|(simp only [i64_w,i32_w];rw [c4b0])|(rw [YtbkeakeldegkeaaX.isEmpty_eq];rw [c4b0])|skip)
   have H' := Aside0.mk H
   clear H
   go_wp2
   go_meet
   case rel => exact ⟨_,(true),(rs_),H',⟨by first|omega|exact Nat.le_refl _⟩,⟨bl_ HB.out⟩⟩
  rw [if_neg c4] at H
  have c4b0 : decide (2147483647 < (a0.size : Int)) = false := decide_eq_false c4
  have c4b1 : decide (2147483647 < a0.size) = false := decide_eq_false (by omega)
  clear c4
  (first|rw [c4b0]|(simp only [i64_w,i32_w];rw [c4b0])|(rw [YtbkeakeldegkeaaX.isEmpty_eq];rw [c4b0])|skip)
  have H' := Aside0.mk H
  clear H
  go_wp2
  go_meet
  case rel => exact ⟨_,(decide ((a1.size : Int) > 2147483647)),(rs_),H',⟨by first|omega|exact Nat.le_refl _⟩,⟨bl_ HB.out⟩⟩
 case rest =>
  clear HC3
  try clear p2
  try clear c4
  try clear c4b0
  try clear c4b1
  obtain ⟨kq,x20_2,rfl,HA,HJ2,HB⟩ := hcut
  cases kq with
  | zero => exact absurd HA.out (by simp [laws_FnUriSays.j0])
  | succ kj2 =>
   have H := HA.out
   clear HA
   simp only [laws_FnUriSays.j0] at H
   by_cases c5 : x20_2 = true
   ·
    subst c5
    have H1 : (some true) = some r := by rw [if_pos rfl] at H;exact H
    clear H
    have H := H1
    clear H1
    obtain rfl := Option.some.inj H
    go_wp2
    go_ret
    exact ⟨by first|rfl|(simp [errW_none,errW_some] <;> rfl)|(simp [*,errW_none,errW_some] <;> rfl),bl_ HB.out⟩
   replace c5 := Bool.eq_false_iff.mpr c5
   subst c5
   have H1 : ((laws_parses.f).bind fun t434 => (if t434 = true then ((laws_short.f kj2 (([a0,a1] : List ByteArray))).bind fun t438 => (if t438 = true then ((laws_calm.f kj2 (([a0,a1] : List ByteArray))).bind fun t442 => (laws_FnUriSays.j1 kj2 a0 a1 (!t442))) else (laws_FnUriSays.j1 kj2 a0 a1 true))) else (none))) = some r := by rw [if_neg (show ¬ (false = true) by decide)] at H;exact H
   clear H
   have H := H1
   clear H1
   replace H := Option.bind_eq_some_iff.mp H
   obtain ⟨t434,A60,H⟩ := H
   replace H : (if t434 = true then ((laws_short.f kj2 (([a0,a1] : List ByteArray))).bind fun t438 => (if t438 = true then ((laws_calm.f kj2 (([a0,a1] : List ByteArray))).bind fun t442 => (laws_FnUriSays.j1 kj2 a0 a1 (!t442))) else (laws_FnUriSays.j1 kj2 a0 a1 true))) else (none)) = some r := H
   have A6 := Aside0.mk A60
   clear A60
   by_cases c7 : t434 = true
   ·
    subst c7
    have H1 : ((laws_short.f kj2 (([a0,a1] : List ByteArray))).bind fun t438 => (if t438 = true then ((laws_calm.f kj2 (([a0,a1] : List ByteArray))).bind fun t442 => (laws_FnUriSays.j1 kj2 a0 a1 (!t442))) else (laws_FnUriSays.j1 kj2 a0 a1 true))) = some r := by rw [if_pos rfl] at H;exact H
    clear H
    have H := H1
    clear H1
    have HC8 := Aside0.mk H
    clear H
    go_upto_region 5 with (first|((with_reducible refine gate_callee (f := 12) rfl ?_);refine goesL_ (some 21) rfl rfl Try.func12 (by kernel_rfl) rfl #[] rfl (by (try simp only [List.map_toArray,List.map_cons,List.map_nil]);first|done|rfl|(simp only [List.length_drop,List.length_take];rfl)) ?_;(with_reducible refine (laws_parses.calls  true _ A6.out).mono ?_);rintro e w9 ⟨rfl,hb⟩;refine ⟨_,rfl,?_⟩;have n0_ := Aside0.mk (below_step (bl_ HB.out) hb);clear HB;have HB := n0_;clear n0_;(try clear hb);(try clear hb2);(try clear hk);(try clear hi)))
    (try simp only [Act.put,List.setIfInBounds_toArray,List.set_cons_zero,List.set_cons_succ])
    go_cut [34] (fun v34 wc => ∃ (kq : Nat) (x34_7 : Bool),v34 = .bool x34_7 ∧ Aside0 (laws_FnUriSays.j1 kq a0 a1 x34_7 = some r) ∧ Aside0 (kq ≤ kj2) ∧ Aside0 (Below w.heap.size w wc))
    case first =>
     have H := HC8.out
     clear HC8
     obtain ⟨y435,hy435⟩ : ∃ y_ : List ByteArray,y_ = (([a0,a1] : List ByteArray)) := ⟨_,rfl⟩
     replace H : ((laws_short.f kj2 y435).bind fun t438 => (if t438 = true then ((laws_calm.f kj2 (([a0,a1] : List ByteArray))).bind fun t442 => (laws_FnUriSays.j1 kj2 a0 a1 (!t442))) else (laws_FnUriSays.j1 kj2 a0 a1 true))) = some r := by first|(rw [hy435];with_reducible exact H)|(have H2_ := (Option.bind_some _ _).symm.trans H;rw [hy435];with_reducible exact H2_)|(have H2_ := (Option.bind_some _ _).symm.trans H;with_reducible exact H2_)|with_reducible exact H|(rw [hy435];exact H)|exact H
     have Ny435 := Aside0.mk hy435
     clear hy435
     replace H := Option.bind_eq_some_iff.mp H
     obtain ⟨t438,A100,H⟩ := H
     replace H : (if t438 = true then ((laws_calm.f kj2 (([a0,a1] : List ByteArray))).bind fun t442 => (laws_FnUriSays.j1 kj2 a0 a1 (!t442))) else (laws_FnUriSays.j1 kj2 a0 a1 true)) = some r := H
     have A10 := Aside0.mk A100
     clear A100
     by_cases c11 : t438 = true
     ·
      subst c11
      have H1 : ((laws_calm.f kj2 (([a0,a1] : List ByteArray))).bind fun t442 => (laws_FnUriSays.j1 kj2 a0 a1 (!t442))) = some r := by rw [if_pos rfl] at H;exact H
      clear H
      have H := H1
      clear H1
      obtain ⟨y439,hy439⟩ : ∃ y_ : List ByteArray,y_ = (([a0,a1] : List ByteArray)) := ⟨_,rfl⟩
      replace H : ((laws_calm.f kj2 y439).bind fun t442 => (laws_FnUriSays.j1 kj2 a0 a1 (!t442))) = some r := by first|(rw [hy439];with_reducible exact H)|(have H2_ := (Option.bind_some _ _).symm.trans H;rw [hy439];with_reducible exact H2_)|(have H2_ := (Option.bind_some _ _).symm.trans H;with_reducible exact H2_)|with_reducible exact H|(rw [hy439];exact H)|exact H
      have Ny439 := Aside0.mk hy439
      clear hy439
      replace H := Option.bind_eq_some_iff.mp H
      obtain ⟨t442,A120,H⟩ := H
      replace H : (laws_FnUriSays.j1 kj2 a0 a1 (!t442)) = some r := H
      have A12 := Aside0.mk A120
      clear A120
      have H' := Aside0.mk H
      clear H
      go_wp2_with (first|((with_reducible refine gate_dst (N := 25) rfl ?_);(try (refine gate_guard (by rfl) ?_;dsimp only));refine Kd.R_lit Kd.string _ 9 ?hg (N := 25) ?hd (xs := ([a0,a1] : List ByteArray)) (inner := [.string a0,.string a1]) (ok := fun _ => True) (okp := fun _ => True) ?hr ?hp (fun _ hk => hk) trivial (Below.refl _ _) (Nat.le_refl _) (by simp) ?_;(case hd => rfl);(case hg => rfl);(case hr => first|(go_simp;done)|(go_simp;rfl));(case hp => exact (Reps.one (show Kd.M Kd.string _ _ _ a0 [.string a0] from rfl) (Reps.one (show Kd.M Kd.string _ _ _ a1 [.string a1] from rfl) (Reps.none _ _))));intro v436 w13 ho14 hb hg_ hnew_;clear hg_ hnew_;(first|rw [← Ny435.out] at ho14|(simp only [Int.reduceToNat] at ho14;rw [← Ny435.out] at ho14));have n0_ := Aside0.mk (Kd.R_lower ho14 (below_size (bl_ HB.out)));have n1_ := Aside0.mk (below_step (bl_ HB.out) hb);clear HB;have HO437 := n0_;have HB := n1_;clear n0_ n1_;clear hb ho14;obtain ⟨Ao15,co15,eo15⟩ := Kd.R_slice HO437.out;subst eo15)|((with_reducible refine gate_callee (f := 14) rfl ?_);refine goesL_ (some 26) rfl rfl Try.func14 (by kernel_rfl) rfl #[.slice Ao15 y435.length co15] rfl (by (try simp only [List.map_toArray,List.map_cons,List.map_nil]);first|done|rfl|(simp only [List.length_drop,List.length_take];rfl)) ?_;(with_reducible refine (laws_short.calls kj2 _ _ y435 true _ ?side1 ?side2 A10.out).mono ?_);(case side1 => repeat (first|exact (Kd.R_reads' HO437.out).2.2|(with_reducible refine Kd.C_alloc ?_ _)|(with_reducible refine Kd.C_drewN ?_ _)|(with_reducible refine Kd.C_drew ?_)));(case side2 => exact (Kd.R_reads' HO437.out).2.1);rintro e w' ⟨rfl,⟨nd,rfl⟩⟩;refine ⟨_,rfl,?_⟩)|((with_reducible refine gate_dst (N := 31) rfl ?_);(try (refine gate_guard (by rfl) ?_;dsimp only));refine Kd.R_lit Kd.string _ 9 ?hg (N := 31) ?hd (xs := ([a0,a1] : List ByteArray)) (inner := [.string a0,.string a1]) (ok := fun _ => True) (okp := fun _ => True) ?hr ?hp (fun _ hk => hk) trivial (Below.refl _ _) (Nat.le_refl _) (by simp) ?_;(case hd => rfl);(case hg => rfl);(case hr => first|(go_simp;done)|(go_simp;rfl));(case hp => exact (Reps.one (show Kd.M Kd.string _ _ _ a0 [.string a0] from rfl) (Reps.one (show Kd.M Kd.string _ _ _ a1 [.string a1] from rfl) (Reps.none _ _))));intro v440 w16 ho17 hb hg_ hnew_;clear hg_ hnew_;(first|rw [← Ny439.out] at ho17|(simp only [Int.reduceToNat] at ho17;rw [← Ny439.out] at ho17));have n0_ := Aside0.mk (Kd.R_elder' (by (with_reducible repeat (first|apply Kd.R_alloc|apply Kd.R_drewN|apply Kd.R_drew));exact HO437.out) (Kd.R_base ho17) hb);have n1_ := Aside0.mk (Kd.R_lower (Kd.R_new' ho17 (Kd.R_lt (by (with_reducible repeat (first|apply Kd.R_alloc|apply Kd.R_drewN|apply Kd.R_drew));exact HO437.out))) (below_size (bl_ HB.out)));have n2_ := Aside0.mk (below_step (bl_ HB.out) hb);clear HO437;clear HB;have HO437 := n0_;have HO441 := n1_;have HB := n2_;clear n0_ n1_ n2_;clear hb ho17;obtain ⟨Ao18,co18,eo18⟩ := Kd.R_slice HO441.out;subst eo18)|(go_at_call 15;(with_reducible refine (laws_calm.calls kj2 _ _ y439 t442 _ ?side1 ?side2 A12.out).mono ?_);(case side1 => repeat (first|exact (Kd.R_reads' HO441.out).2.2|(with_reducible refine Kd.C_alloc ?_ _)|(with_reducible refine Kd.C_drewN ?_ _)|(with_reducible refine Kd.C_drew ?_)));(case side2 => exact (Kd.R_reads' HO441.out).2.1);rintro e w' ⟨rfl,⟨nd,rfl⟩⟩))
      go_meet
      case rel => exact ⟨_,(!t442),(rs_),H',⟨by have := HJ2.out;first|omega|exact Nat.le_refl _⟩,⟨bl_ HB.out⟩⟩
     replace c11 := Bool.eq_false_iff.mpr c11
     subst c11
     have H1 : (laws_FnUriSays.j1 kj2 a0 a1 true) = some r := by rw [if_neg (show ¬ (false = true) by decide)] at H;exact H
     clear H
     have H := H1
     clear H1
     have H' := Aside0.mk H
     clear H
     go_wp2_with (first|((with_reducible refine gate_dst (N := 25) rfl ?_);(try (refine gate_guard (by rfl) ?_;dsimp only));refine Kd.R_lit Kd.string _ 9 ?hg (N := 25) ?hd (xs := ([a0,a1] : List ByteArray)) (inner := [.string a0,.string a1]) (ok := fun _ => True) (okp := fun _ => True) ?hr ?hp (fun _ hk => hk) trivial (Below.refl _ _) (Nat.le_refl _) (by simp) ?_;(case hd => rfl);(case hg => rfl);(case hr => first|(go_simp;done)|(go_simp;rfl));(case hp => exact (Reps.one (show Kd.M Kd.string _ _ _ a0 [.string a0] from rfl) (Reps.one (show Kd.M Kd.string _ _ _ a1 [.string a1] from rfl) (Reps.none _ _))));intro v436 w19 ho20 hb hg_ hnew_;clear hg_ hnew_;(first|rw [← Ny435.out] at ho20|(simp only [Int.reduceToNat] at ho20;rw [← Ny435.out] at ho20));have n0_ := Aside0.mk (Kd.R_lower ho20 (below_size (bl_ HB.out)));have n1_ := Aside0.mk (below_step (bl_ HB.out) hb);clear HB;have HO437 := n0_;have HB := n1_;clear n0_ n1_;clear hb ho20;obtain ⟨Ao21,co21,eo21⟩ := Kd.R_slice HO437.out;subst eo21)|((with_reducible refine gate_callee (f := 14) rfl ?_);refine goesL_ (some 26) rfl rfl Try.func14 (by kernel_rfl) rfl #[.slice Ao21 y435.length co21] rfl (by (try simp only [List.map_toArray,List.map_cons,List.map_nil]);first|done|rfl|(simp only [List.length_drop,List.length_take];rfl)) ?_;(with_reducible refine (laws_short.calls kj2 _ _ y435 false _ ?side1 ?side2 A10.out).mono ?_);(case side1 => repeat (first|exact (Kd.R_reads' HO437.out).2.2|(with_reducible refine Kd.C_alloc ?_ _)|(with_reducible refine Kd.C_drewN ?_ _)|(with_reducible refine Kd.C_drew ?_)));(case side2 => exact (Kd.R_reads' HO437.out).2.1);rintro e w' ⟨rfl,⟨nd,rfl⟩⟩;refine ⟨_,rfl,?_⟩))
     go_meet
     case rel => exact ⟨_,(true),(rs_),H',⟨by have := HJ2.out;first|omega|exact Nat.le_refl _⟩,⟨bl_ HB.out⟩⟩
    case rest =>
     clear HC8
     try clear c1
     try clear p2
     try clear c4
     try clear c4b0
     try clear c4b1
     try clear c5
     try clear c7
     try clear c11
     try clear c12
     try clear c14
     try clear p2
     obtain ⟨kq,x34_7,rfl,HA,HJ7,HB⟩ := hcut
     cases kq with
     | zero => exact absurd HA.out (by simp [laws_FnUriSays.j1])
     | succ kj7 =>
      have H := HA.out
      clear HA
      simp only [laws_FnUriSays.j1] at H
      by_cases c22 : x34_7 = true
      ·
       subst c22
       have H1 : (some true) = some r := by rw [if_pos rfl] at H;exact H
       clear H
       have H := H1
       clear H1
       obtain rfl := Option.some.inj H
       go_wp2
       go_ret
       exact ⟨by first|rfl|(simp [errW_none,errW_some] <;> rfl)|(simp [*,errW_none,errW_some] <;> rfl),bl_ HB.out⟩
      replace c22 := Bool.eq_false_iff.mpr c22
      subst c22
      have H1 : ((spec_UriOf.f kj7 a0 a1).bind fun bt443 => (if bt443.2.2.2.2.2.2.2.2 = 1 then ((impl_UriOf.f a0 a1).bind fun bt453 => ((impl_UriText.f a0 a1 false).bind fun bt463 => (if bt453.2.2.2.2.2.2.2.2 = true then (if bt463.2.2.2 = true then (if (bt453.1.toList == bt443.1.toList && (bt453.2.1.toList == bt443.2.1.toList && (bt453.2.2.1.toList == bt443.2.2.1.toList && (bt453.2.2.2.1.toList == bt443.2.2.2.1.toList && (bt453.2.2.2.2.1.toList == bt443.2.2.2.2.1.toList && (bt453.2.2.2.2.2.1.toList == bt443.2.2.2.2.2.1.toList && (bt453.2.2.2.2.2.2.1.toList == bt443.2.2.2.2.2.2.1.toList && (bt453.2.2.2.2.2.2.2.1.toList == bt443.2.2.2.2.2.2.2.1.toList)))))))) = true then ((spec_LastPart.f kj7 bt443.2.2.1).bind fun t467 => (some (bt463.2.2.1.toList == t467.toList))) else (none)) else (none)) else (none)))) else (some true))) = some r := by rw [if_neg (show ¬ (false = true) by decide)] at H;exact H
      clear H
      have H := H1
      clear H1
      replace H := Option.bind_eq_some_iff.mp H
      obtain ⟨⟨t443,t444,t445,t446,t447,t448,t449,t450,t451⟩,A230,H⟩ := H
      replace H : (if t451 = 1 then ((impl_UriOf.f a0 a1).bind fun bt453 => ((impl_UriText.f a0 a1 false).bind fun bt463 => (if bt453.2.2.2.2.2.2.2.2 = true then (if bt463.2.2.2 = true then (if (bt453.1.toList == t443.toList && (bt453.2.1.toList == t444.toList && (bt453.2.2.1.toList == t445.toList && (bt453.2.2.2.1.toList == t446.toList && (bt453.2.2.2.2.1.toList == t447.toList && (bt453.2.2.2.2.2.1.toList == t448.toList && (bt453.2.2.2.2.2.2.1.toList == t449.toList && (bt453.2.2.2.2.2.2.2.1.toList == t450.toList)))))))) = true then ((spec_LastPart.f kj7 t445).bind fun t467 => (some (bt463.2.2.1.toList == t467.toList))) else (none)) else (none)) else (none)))) else (some true)) = some r := H
      have A23 := Aside0.mk A230
      clear A230
      by_cases c24 : t451 = 1
      ·
       rw [if_pos c24] at H
       have c24b0 : (t451 == 1) = true := beq_iff_eq.mpr c24
       have c24b1 : (t451 != 1) = false := bne_eq_false_iff_eq.mpr c24
       clear c24
       replace H := Option.bind_eq_some_iff.mp H
       obtain ⟨⟨t453,t454,t455,t456,t457,t458,t459,t460,t461⟩,A250,H⟩ := H
       replace H : ((impl_UriText.f a0 a1 false).bind fun bt463 => (if t461 = true then (if bt463.2.2.2 = true then (if (t453.toList == t443.toList && (t454.toList == t444.toList && (t455.toList == t445.toList && (t456.toList == t446.toList && (t457.toList == t447.toList && (t458.toList == t448.toList && (t459.toList == t449.toList && (t460.toList == t450.toList)))))))) = true then ((spec_LastPart.f kj7 t445).bind fun t467 => (some (bt463.2.2.1.toList == t467.toList))) else (none)) else (none)) else (none))) = some r := H
       have A25 := Aside0.mk A250
       clear A250
       replace H := Option.bind_eq_some_iff.mp H
       obtain ⟨⟨t463,t464,t465,t466⟩,A260,H⟩ := H
       replace H : (if t461 = true then (if t466 = true then (if (t453.toList == t443.toList && (t454.toList == t444.toList && (t455.toList == t445.toList && (t456.toList == t446.toList && (t457.toList == t447.toList && (t458.toList == t448.toList && (t459.toList == t449.toList && (t460.toList == t450.toList)))))))) = true then ((spec_LastPart.f kj7 t445).bind fun t467 => (some (t465.toList == t467.toList))) else (none)) else (none)) else (none)) = some r := H
       have A26 := Aside0.mk A260
       clear A260
       by_cases c27 : t461 = true
       ·
        subst c27
        have H1 : (if t466 = true then (if (t453.toList == t443.toList && (t454.toList == t444.toList && (t455.toList == t445.toList && (t456.toList == t446.toList && (t457.toList == t447.toList && (t458.toList == t448.toList && (t459.toList == t449.toList && (t460.toList == t450.toList)))))))) = true then ((spec_LastPart.f kj7 t445).bind fun t467 => (some (t465.toList == t467.toList))) else (none)) else (none)) = some r := by rw [if_pos rfl] at H;exact H
        clear H
        have H := H1
        clear H1
        by_cases c28 : t466 = true
        ·
         subst c28
         have H1 : (if (t453.toList == t443.toList && (t454.toList == t444.toList && (t455.toList == t445.toList && (t456.toList == t446.toList && (t457.toList == t447.toList && (t458.toList == t448.toList && (t459.toList == t449.toList && (t460.toList == t450.toList)))))))) = true then ((spec_LastPart.f kj7 t445).bind fun t467 => (some (t465.toList == t467.toList))) else (none)) = some r := by rw [if_pos rfl] at H;exact H
         clear H
         have H := H1
         clear H1
         by_cases c29 : (t453.toList == t443.toList && (t454.toList == t444.toList && (t455.toList == t445.toList && (t456.toList == t446.toList && (t457.toList == t447.toList && (t458.toList == t448.toList && (t459.toList == t449.toList && (t460.toList == t450.toList)))))))) = true
         ·
          rw [if_pos c29] at H
          have c29b0 : (t453.toList == t443.toList && (t454.toList == t444.toList && (t455.toList == t445.toList && (t456.toList == t446.toList && (t457.toList == t447.toList && (t458.toList == t448.toList && (t459.toList == t449.toList && (t460.toList == t450.toList)))))))) = true := c29
          (try (have c29b1 : decide (t453.toList = t443.toList && (t454.toList == t444.toList && (t455.toList == t445.toList && (t456.toList == t446.toList && (t457.toList == t447.toList && (t458.toList == t448.toList && (t459.toList == t449.toList && (t460.toList == t450.toList)))))))) = true := by simpa using c29))
          (try (have c29b2 : (t453.toList == t443.toList && (t454.toList == t444.toList && (t455.toList == t445.toList && (t456.toList == t446.toList && (t457.toList == t447.toList && (t458.toList == t448.toList && (t459.toList == t449.toList && (t460.toList == t450.toList)))))))) = true := by simpa using c29))
          clear c29
          replace H := Option.bind_eq_some_iff.mp H
          obtain ⟨t467,A300,H⟩ := H
          replace H : (some (t465.toList == t467.toList)) = some r := H
          have A30 := Aside0.mk A300
          clear A300
          obtain rfl := Option.some.inj H
          go_wp2_with (first|((with_reducible refine gate_callee (f := 24) rfl ?_);refine goesL_ (some 38) rfl rfl Try.func24 (by kernel_rfl) rfl #[.string a0,.string a1] rfl (by (try simp only [List.map_toArray,List.map_cons,List.map_nil]);first|done|rfl|(simp only [List.length_drop,List.length_take];rfl)) ?_;(with_reducible refine (spec_UriOf.calls kj7 a0 a1 t443 t444 t445 t446 t447 t448 t449 t450 t451 _ A23.out).mono ?_);rintro e w31 ⟨rfl,hb⟩;refine ⟨_,rfl,?_⟩;have n0_ := Aside0.mk (below_step (bl_ HB.out) hb);clear HB;have HB := n0_;clear n0_;(try clear hb);(try clear hb2);(try clear hk);(try clear hi))|((with_reducible refine gate_dst (N := 5) rfl ?_);(try (refine gate_guard (by rfl) ?_;dsimp only));refine box_event ?hg (N := 5) ?hd (cs := #[.string ⟨#[]⟩,.string ⟨#[]⟩,.string ⟨#[]⟩,.string ⟨#[]⟩,.string ⟨#[]⟩,.string ⟨#[]⟩,.string ⟨#[]⟩,.string ⟨#[]⟩]) (t := 37) ?hr ?_;(case hd => rfl);(case hg => rfl);(case hr => first|(go_simp;done)|(go_simp;rfl));intro gb452 hg w32 hbox hb;have n0_ := Aside0.mk (below_step (bl_ HB.out) hb);have n1_ := Aside0.mk (hbox);have n2_ := Aside0.mk ((by rw [hg];exact (below_size (bl_ HB.out)) : w.heap.size ≤ gb452));have n3_ := Aside0.mk ((by rw [hg];exact (below_size (bl_ HB.out)) : w.heap.size ≤ gb452));clear HB;have HB := n0_;have BK452 := n1_;have GW452 := n2_;have GE452 := n3_;clear n0_ n1_ n2_ n3_;clear hb hbox hg;have hcz33_0 : w32.cell? ⟨gb452,0,none⟩ = some (.string ⟨#[]⟩) := (blk_cell BK452.out 0).trans rfl;have hcz33_1 : w32.cell? ⟨gb452,1,none⟩ = some (.string ⟨#[]⟩) := (blk_cell BK452.out 1).trans rfl;have hcz33_2 : w32.cell? ⟨gb452,2,none⟩ = some (.string ⟨#[]⟩) := (blk_cell BK452.out 2).trans rfl;have hcz33_3 : w32.cell? ⟨gb452,3,none⟩ = some (.string ⟨#[]⟩) := (blk_cell BK452.out 3).trans rfl;have hcz33_4 : w32.cell? ⟨gb452,4,none⟩ = some (.string ⟨#[]⟩) := (blk_cell BK452.out 4).trans rfl;have hcz33_5 : w32.cell? ⟨gb452,5,none⟩ = some (.string ⟨#[]⟩) := (blk_cell BK452.out 5).trans rfl;have hcz33_6 : w32.cell? ⟨gb452,6,none⟩ = some (.string ⟨#[]⟩) := (blk_cell BK452.out 6).trans rfl;have hcz33_7 : w32.cell? ⟨gb452,7,none⟩ = some (.string ⟨#[]⟩) := (blk_cell BK452.out 7).trans rfl;have hfz33_0 := blk_frozen BK452.out 0;have hfz33_1 := blk_frozen BK452.out 1;have hfz33_2 := blk_frozen BK452.out 2;have hfz33_3 := blk_frozen BK452.out 3;have hfz33_4 := blk_frozen BK452.out 4;have hfz33_5 := blk_frozen BK452.out 5;have hfz33_6 := blk_frozen BK452.out 6;have hfz33_7 := blk_frozen BK452.out 7)|((with_reducible refine gate_callee (f := 18) rfl ?_);refine goesL_ (some 46) rfl rfl Try.func18 (by kernel_rfl) rfl #[.string a0,.string a1] rfl (by (try simp only [List.map_toArray,List.map_cons,List.map_nil]);first|done|rfl|(simp only [List.length_drop,List.length_take];rfl)) ?_;(with_reducible refine (impl_UriOf.calls a0 a1 t453 t454 t455 t456 t457 t458 t459 t460 true _ A25.out).mono ?_);rintro e w34 ⟨rfl,hb⟩;refine ⟨_,rfl,?_⟩;have n0_ := Aside0.mk (blk_below (g := gb452) (o := .cells #[.string t443,.string t444,.string t445,.string t446,.string t447,.string t448,.string t449,.string t450] 37 (0,0)) (by (with_reducible repeat (first|apply q1|apply q2|apply q3));refine blk_put (cs := #[.string t443,.string t444,.string t445,.string t446,.string t447,.string t448,.string t449,.string ⟨#[]⟩]) ?_ 7 _ rfl;(with_reducible repeat (first|apply q1|apply q2|apply q3));refine blk_put (cs := #[.string t443,.string t444,.string t445,.string t446,.string t447,.string t448,.string ⟨#[]⟩,.string ⟨#[]⟩]) ?_ 6 _ rfl;(with_reducible repeat (first|apply q1|apply q2|apply q3));refine blk_put (cs := #[.string t443,.string t444,.string t445,.string t446,.string t447,.string ⟨#[]⟩,.string ⟨#[]⟩,.string ⟨#[]⟩]) ?_ 5 _ rfl;(with_reducible repeat (first|apply q1|apply q2|apply q3));refine blk_put (cs := #[.string t443,.string t444,.string t445,.string t446,.string ⟨#[]⟩,.string ⟨#[]⟩,.string ⟨#[]⟩,.string ⟨#[]⟩]) ?_ 4 _ rfl;(with_reducible repeat (first|apply q1|apply q2|apply q3));refine blk_put (cs := #[.string t443,.string t444,.string t445,.string ⟨#[]⟩,.string ⟨#[]⟩,.string ⟨#[]⟩,.string ⟨#[]⟩,.string ⟨#[]⟩]) ?_ 3 _ rfl;(with_reducible repeat (first|apply q1|apply q2|apply q3));refine blk_put (cs := #[.string t443,.string t444,.string ⟨#[]⟩,.string ⟨#[]⟩,.string ⟨#[]⟩,.string ⟨#[]⟩,.string ⟨#[]⟩,.string ⟨#[]⟩]) ?_ 2 _ rfl;(with_reducible repeat (first|apply q1|apply q2|apply q3));refine blk_put (cs := #[.string t443,.string ⟨#[]⟩,.string ⟨#[]⟩,.string ⟨#[]⟩,.string ⟨#[]⟩,.string ⟨#[]⟩,.string ⟨#[]⟩,.string ⟨#[]⟩]) ?_ 1 _ rfl;(with_reducible repeat (first|apply q1|apply q2|apply q3));refine blk_put (cs := #[.string ⟨#[]⟩,.string ⟨#[]⟩,.string ⟨#[]⟩,.string ⟨#[]⟩,.string ⟨#[]⟩,.string ⟨#[]⟩,.string ⟨#[]⟩,.string ⟨#[]⟩]) ?_ 0 _ rfl;(with_reducible repeat (first|apply q1|apply q2|apply q3));exact BK452.out) hb);have n1_ := Aside0.mk (below_step (bl1_ HB.out GE452.out) hb);clear BK452;clear HB;have BK452 := n0_;have HB := n1_;clear n0_ n1_;(try clear hb);(try clear hb2);(try clear hk);(try clear hi))|((with_reducible refine gate_dst (N := 7) rfl ?_);(try (refine gate_guard (by rfl) ?_;dsimp only));refine box_event ?hg (N := 7) ?hd (cs := #[.string ⟨#[]⟩,.string ⟨#[]⟩,.string ⟨#[]⟩,.string ⟨#[]⟩,.string ⟨#[]⟩,.string ⟨#[]⟩,.string ⟨#[]⟩,.string ⟨#[]⟩]) (t := 27) ?hr ?_;(case hd => rfl);(case hg => rfl);(case hr => first|(go_simp;done)|(go_simp;rfl));intro gb462 hg w35 hbox hb;have n0_ := Aside0.mk (blk_below (g := gb452) (bk_ BK452.out) hb);have n1_ := Aside0.mk (below_step (bl1_ HB.out GE452.out) hb);have n2_ := Aside0.mk (hbox);have n3_ := Aside0.mk ((by rw [hg];exact (below_size (bl1_ HB.out GE452.out)) : w.heap.size ≤ gb462));have n4_ := Aside0.mk ((by rw [hg];exact (below_size (bl1_ HB.out GE452.out)) : w.heap.size ≤ gb462));have n5_ := Aside0.mk ((by rw [hg];exact Nat.ne_of_lt (blk_lt (g := gb452) (bk_ BK452.out)) : gb452 ≠ gb462));have n6_ := Aside0.mk ((by rw [hg];exact Nat.ne_of_gt (blk_lt (g := gb452) (bk_ BK452.out)) : gb462 ≠ gb452));clear BK452;clear HB;have BK452 := n0_;have HB := n1_;have BK462 := n2_;have GW462 := n3_;have GE462 := n4_;have NB452_462 := n5_;have NB462_452 := n6_;clear n0_ n1_ n2_ n3_ n4_ n5_ n6_;clear hb hbox hg;have hnb36 := NB462_452.out;have hnc36 := NB452_462.out;have hcz37_0 : w35.cell? ⟨gb462,0,none⟩ = some (.string ⟨#[]⟩) := (blk_cell BK462.out 0).trans rfl;have hcz37_1 : w35.cell? ⟨gb462,1,none⟩ = some (.string ⟨#[]⟩) := (blk_cell BK462.out 1).trans rfl;have hcz37_2 : w35.cell? ⟨gb462,2,none⟩ = some (.string ⟨#[]⟩) := (blk_cell BK462.out 2).trans rfl;have hcz37_3 : w35.cell? ⟨gb462,3,none⟩ = some (.string ⟨#[]⟩) := (blk_cell BK462.out 3).trans rfl;have hcz37_4 : w35.cell? ⟨gb462,4,none⟩ = some (.string ⟨#[]⟩) := (blk_cell BK462.out 4).trans rfl;have hcz37_5 : w35.cell? ⟨gb462,5,none⟩ = some (.string ⟨#[]⟩) := (blk_cell BK462.out 5).trans rfl;have hcz37_6 : w35.cell? ⟨gb462,6,none⟩ = some (.string ⟨#[]⟩) := (blk_cell BK462.out 6).trans rfl;have hcz37_7 : w35.cell? ⟨gb462,7,none⟩ = some (.string ⟨#[]⟩) := (blk_cell BK462.out 7).trans rfl;have hfz37_0 := blk_frozen BK462.out 0;have hfz37_1 := blk_frozen BK462.out 1;have hfz37_2 := blk_frozen BK462.out 2;have hfz37_3 := blk_frozen BK462.out 3;have hfz37_4 := blk_frozen BK462.out 4;have hfz37_5 := blk_frozen BK462.out 5;have hfz37_6 := blk_frozen BK462.out 6;have hfz37_7 := blk_frozen BK462.out 7)|((with_reducible refine gate_callee (f := 23) rfl ?_);refine goesL_ (some 52) rfl rfl Try.func23 (by kernel_rfl) rfl #[.string a0,.string a1,.bool false] rfl (by (try simp only [List.map_toArray,List.map_cons,List.map_nil]);first|done|rfl|(simp only [List.length_drop,List.length_take];rfl)) ?_;(with_reducible refine (impl_UriText.calls a0 a1 false t463 t464 t465 true _ A26.out).mono ?_);rintro e w38 ⟨rfl,hb⟩;refine ⟨_,rfl,?_⟩;have n0_ := Aside0.mk (blk_below (g := gb452) (o := .cells #[.string t443,.string t444,.string t445,.string t446,.string t447,.string t448,.string t449,.string t450] 37 (0,0)) (by (with_reducible repeat (first|apply q1|apply q2|apply q3));refine blk_far ?_ NB452_462.out _;(with_reducible repeat (first|apply q1|apply q2|apply q3));refine blk_far ?_ NB452_462.out _;(with_reducible repeat (first|apply q1|apply q2|apply q3));refine blk_far ?_ NB452_462.out _;(with_reducible repeat (first|apply q1|apply q2|apply q3));refine blk_far ?_ NB452_462.out _;(with_reducible repeat (first|apply q1|apply q2|apply q3));refine blk_far ?_ NB452_462.out _;(with_reducible repeat (first|apply q1|apply q2|apply q3));refine blk_far ?_ NB452_462.out _;(with_reducible repeat (first|apply q1|apply q2|apply q3));refine blk_far ?_ NB452_462.out _;(with_reducible repeat (first|apply q1|apply q2|apply q3));refine blk_far ?_ NB452_462.out _;(with_reducible repeat (first|apply q1|apply q2|apply q3));exact BK452.out) hb);have n1_ := Aside0.mk (blk_below (g := gb462) (o := .cells #[.string t453,.string t454,.string t455,.string t456,.string t457,.string t458,.string t459,.string t460] 27 (0,0)) (by (with_reducible repeat (first|apply q1|apply q2|apply q3));refine blk_put (cs := #[.string t453,.string t454,.string t455,.string t456,.string t457,.string t458,.string t459,.string ⟨#[]⟩]) ?_ 7 _ rfl;(with_reducible repeat (first|apply q1|apply q2|apply q3));refine blk_put (cs := #[.string t453,.string t454,.string t455,.string t456,.string t457,.string t458,.string ⟨#[]⟩,.string ⟨#[]⟩]) ?_ 6 _ rfl;(with_reducible repeat (first|apply q1|apply q2|apply q3));refine blk_put (cs := #[.string t453,.string t454,.string t455,.string t456,.string t457,.string ⟨#[]⟩,.string ⟨#[]⟩,.string ⟨#[]⟩]) ?_ 5 _ rfl;(with_reducible repeat (first|apply q1|apply q2|apply q3));refine blk_put (cs := #[.string t453,.string t454,.string t455,.string t456,.string ⟨#[]⟩,.string ⟨#[]⟩,.string ⟨#[]⟩,.string ⟨#[]⟩]) ?_ 4 _ rfl;(with_reducible repeat (first|apply q1|apply q2|apply q3));refine blk_put (cs := #[.string t453,.string t454,.string t455,.string ⟨#[]⟩,.string ⟨#[]⟩,.string ⟨#[]⟩,.string ⟨#[]⟩,.string ⟨#[]⟩]) ?_ 3 _ rfl;(with_reducible repeat (first|apply q1|apply q2|apply q3));refine blk_put (cs := #[.string t453,.string t454,.string ⟨#[]⟩,.string ⟨#[]⟩,.string ⟨#[]⟩,.string ⟨#[]⟩,.string ⟨#[]⟩,.string ⟨#[]⟩]) ?_ 2 _ rfl;(with_reducible repeat (first|apply q1|apply q2|apply q3));refine blk_put (cs := #[.string t453,.string ⟨#[]⟩,.string ⟨#[]⟩,.string ⟨#[]⟩,.string ⟨#[]⟩,.string ⟨#[]⟩,.string ⟨#[]⟩,.string ⟨#[]⟩]) ?_ 1 _ rfl;(with_reducible repeat (first|apply q1|apply q2|apply q3));refine blk_put (cs := #[.string ⟨#[]⟩,.string ⟨#[]⟩,.string ⟨#[]⟩,.string ⟨#[]⟩,.string ⟨#[]⟩,.string ⟨#[]⟩,.string ⟨#[]⟩,.string ⟨#[]⟩]) ?_ 0 _ rfl;(with_reducible repeat (first|apply q1|apply q2|apply q3));exact BK462.out) hb);have n2_ := Aside0.mk (below_step (bl2_ HB.out GE452.out GE462.out) hb);clear BK452;clear BK462;clear HB;have BK452 := n0_;have BK462 := n1_;have HB := n2_;clear n0_ n1_ n2_;(try clear hb);(try clear hb2);(try clear hk);(try clear hi);have hcz39_0 : w38.cell? ⟨gb462,0,none⟩ = some (.string t453) := (blk_cell BK462.out 0).trans rfl;have hcz39_1 : w38.cell? ⟨gb462,1,none⟩ = some (.string t454) := (blk_cell BK462.out 1).trans rfl;have hcz39_2 : w38.cell? ⟨gb462,2,none⟩ = some (.string t455) := (blk_cell BK462.out 2).trans rfl;have hcz39_3 : w38.cell? ⟨gb462,3,none⟩ = some (.string t456) := (blk_cell BK462.out 3).trans rfl;have hcz39_4 : w38.cell? ⟨gb462,4,none⟩ = some (.string t457) := (blk_cell BK462.out 4).trans rfl;have hcz39_5 : w38.cell? ⟨gb462,5,none⟩ = some (.string t458) := (blk_cell BK462.out 5).trans rfl;have hcz39_6 : w38.cell? ⟨gb462,6,none⟩ = some (.string t459) := (blk_cell BK462.out 6).trans rfl;have hcz39_7 : w38.cell? ⟨gb462,7,none⟩ = some (.string t460) := (blk_cell BK462.out 7).trans rfl;have hfz39_0 := blk_frozen BK462.out 0;have hfz39_1 := blk_frozen BK462.out 1;have hfz39_2 := blk_frozen BK462.out 2;have hfz39_3 := blk_frozen BK462.out 3;have hfz39_4 := blk_frozen BK462.out 4;have hfz39_5 := blk_frozen BK462.out 5;have hfz39_6 := blk_frozen BK462.out 6;have hfz39_7 := blk_frozen BK462.out 7;have hcz40_0 : w38.cell? ⟨gb452,0,none⟩ = some (.string t443) := (blk_cell BK452.out 0).trans rfl;have hcz40_1 : w38.cell? ⟨gb452,1,none⟩ = some (.string t444) := (blk_cell BK452.out 1).trans rfl;have hcz40_2 : w38.cell? ⟨gb452,2,none⟩ = some (.string t445) := (blk_cell BK452.out 2).trans rfl;have hcz40_3 : w38.cell? ⟨gb452,3,none⟩ = some (.string t446) := (blk_cell BK452.out 3).trans rfl;have hcz40_4 : w38.cell? ⟨gb452,4,none⟩ = some (.string t447) := (blk_cell BK452.out 4).trans rfl;have hcz40_5 : w38.cell? ⟨gb452,5,none⟩ = some (.string t448) := (blk_cell BK452.out 5).trans rfl;have hcz40_6 : w38.cell? ⟨gb452,6,none⟩ = some (.string t449) := (blk_cell BK452.out 6).trans rfl;have hcz40_7 : w38.cell? ⟨gb452,7,none⟩ = some (.string t450) := (blk_cell BK452.out 7).trans rfl;have hfz40_0 := blk_frozen BK452.out 0;have hfz40_1 := blk_frozen BK452.out 1;have hfz40_2 := blk_frozen BK452.out 2;have hfz40_3 := blk_frozen BK452.out 3;have hfz40_4 := blk_frozen BK452.out 4;have hfz40_5 := blk_frozen BK452.out 5;have hfz40_6 := blk_frozen BK452.out 6;have hfz40_7 := blk_frozen BK452.out 7)|(go_at_call 25;(with_reducible refine (spec_LastPart.calls kj7 t445 t467 _ A30.out).mono ?_);rintro e w41 ⟨rfl,hb⟩;have n0_ := Aside0.mk (blk_below (g := gb452) (bk_ BK452.out) hb);have n1_ := Aside0.mk (blk_below (g := gb462) (bk_ BK462.out) hb);have n2_ := Aside0.mk (below_step (bl2_ HB.out GE452.out GE462.out) hb);clear BK452;clear BK462;clear HB;have BK452 := n0_;have BK462 := n1_;have HB := n2_;clear n0_ n1_ n2_;(try clear hb);(try clear hb2);(try clear hk);(try clear hi)))
          go_ret
          exact ⟨by first|rfl|(simp [errW_none,errW_some] <;> rfl)|(simp [*,errW_none,errW_some] <;> rfl),bl2_ HB.out GE452.out GE462.out⟩
         rw [if_neg c29] at H
         cases H
        replace c28 := Bool.eq_false_iff.mpr c28
        subst c28
        have H1 : (none) = some r := by rw [if_neg (show ¬ (false = true) by decide)] at H;exact H
        cases H1
       replace c27 := Bool.eq_false_iff.mpr c27
       subst c27
       have H1 : (none) = some r := by rw [if_neg (show ¬ (false = true) by decide)] at H;exact H
       cases H1
      rw [if_neg c24] at H
      have c24b0 : (t451 == 1) = false := beq_eq_false_iff_ne.mpr c24
      have c24b1 : (t451 != 1) = true := bne_iff_ne.mpr c24
      obtain rfl := Option.some.inj H
      go_wp2_with (first|((with_reducible refine gate_callee (f := 24) rfl ?_);refine goesL_ (some 38) rfl rfl Try.func24 (by kernel_rfl) rfl #[.string a0,.string a1] rfl (by (try simp only [List.map_toArray,List.map_cons,List.map_nil]);first|done|rfl|(simp only [List.length_drop,List.length_take];rfl)) ?_;(with_reducible refine (spec_UriOf.calls kj7 a0 a1 t443 t444 t445 t446 t447 t448 t449 t450 t451 _ A23.out).mono ?_);rintro e w68 ⟨rfl,hb⟩;refine ⟨_,rfl,?_⟩;have n0_ := Aside0.mk (below_step (bl_ HB.out) hb);clear HB;have HB := n0_;clear n0_;(try clear hb);(try clear hb2);(try clear hk);(try clear hi))|((with_reducible refine gate_dst (N := 5) rfl ?_);(try (refine gate_guard (by rfl) ?_;dsimp only));refine box_event ?hg (N := 5) ?hd (cs := #[.string ⟨#[]⟩,.string ⟨#[]⟩,.string ⟨#[]⟩,.string ⟨#[]⟩,.string ⟨#[]⟩,.string ⟨#[]⟩,.string ⟨#[]⟩,.string ⟨#[]⟩]) (t := 37) ?hr ?_;(case hd => rfl);(case hg => rfl);(case hr => first|(go_simp;done)|(go_simp;rfl));intro gb452 hg w69 hbox hb;have n0_ := Aside0.mk (below_step (bl_ HB.out) hb);have n1_ := Aside0.mk (hbox);have n2_ := Aside0.mk ((by rw [hg];exact (below_size (bl_ HB.out)) : w.heap.size ≤ gb452));have n3_ := Aside0.mk ((by rw [hg];exact (below_size (bl_ HB.out)) : w.heap.size ≤ gb452));clear HB;have HB := n0_;have BK452 := n1_;have GW452 := n2_;have GE452 := n3_;clear n0_ n1_ n2_ n3_;clear hb hbox hg;have hcz70_0 : w69.cell? ⟨gb452,0,none⟩ = some (.string ⟨#[]⟩) := (blk_cell BK452.out 0).trans rfl;have hcz70_1 : w69.cell? ⟨gb452,1,none⟩ = some (.string ⟨#[]⟩) := (blk_cell BK452.out 1).trans rfl;have hcz70_2 : w69.cell? ⟨gb452,2,none⟩ = some (.string ⟨#[]⟩) := (blk_cell BK452.out 2).trans rfl;have hcz70_3 : w69.cell? ⟨gb452,3,none⟩ = some (.string ⟨#[]⟩) := (blk_cell BK452.out 3).trans rfl;have hcz70_4 : w69.cell? ⟨gb452,4,none⟩ = some (.string ⟨#[]⟩) := (blk_cell BK452.out 4).trans rfl;have hcz70_5 : w69.cell? ⟨gb452,5,none⟩ = some (.string ⟨#[]⟩) := (blk_cell BK452.out 5).trans rfl;have hcz70_6 : w69.cell? ⟨gb452,6,none⟩ = some (.string ⟨#[]⟩) := (blk_cell BK452.out 6).trans rfl;have hcz70_7 : w69.cell? ⟨gb452,7,none⟩ = some (.string ⟨#[]⟩) := (blk_cell BK452.out 7).trans rfl;have hfz70_0 := blk_frozen BK452.out 0;have hfz70_1 := blk_frozen BK452.out 1;have hfz70_2 := blk_frozen BK452.out 2;have hfz70_3 := blk_frozen BK452.out 3;have hfz70_4 := blk_frozen BK452.out 4;have hfz70_5 := blk_frozen BK452.out 5;have hfz70_6 := blk_frozen BK452.out 6;have hfz70_7 := blk_frozen BK452.out 7))
      go_ret
      exact ⟨by first|rfl|(simp [errW_none,errW_some] <;> rfl)|(simp [*,errW_none,errW_some] <;> rfl),bl1_ HB.out GE452.out⟩
   replace c7 := Bool.eq_false_iff.mpr c7
   subst c7
   have H1 : (none) = some r := by rw [if_neg (show ¬ (false = true) by decide)] at H;exact H
   cases H1
def laws_FnUriSays.Pure : Prop := ∀ (a0 : ByteArray) (a1 : ByteArray),a0.size ≤ 140737488351232 → a1.size ≤ 140737488351232 → ∃ k,laws_FnUriSays.f k a0 a1 = some true
theorem laws_FnUriSays.walk (P : laws_FnUriSays.Pure) (a0 : ByteArray) (a1 : ByteArray) (w : World) (w0 : a0.size ≤ 140737488351232) (w1 : a1.size ≤ 140737488351232) :
 Calls Try.prog 7 #[.string a0,.string a1] w fun e w' => e = .returned (.bool true) ∧ Below w.heap.size w w' := by
 obtain ⟨k,h⟩ := P a0 a1 w0 w1
 refine (laws_FnUriSays.calls k a0 a1 true w h).mono ?_
 rintro e w' ⟨rfl,hd⟩
 exact ⟨rfl,hd⟩
end Go.Proofs.Ytbkeakeldegkeaa.Q
end
section
namespace Go.Proofs.Ytbkeakeldegkeaa.Q
open Go.RowKit Go.Proofs.YtbkeakeldegkeaaW.PrintWords Go.Proofs.YtbkeakeldegkeaaW.PrintLast Go.Proofs.YtbkeakeldegkeaaW.PrintMore
attribute [local go_sem] max2_int min2_int max_two min_two max_three min_three max_four min_four
def laws_holds.l0 : Nat → ByteArray → Int → Int → Int → Option (Bool)
 | 0,_,_,_,_ => none
 | k + 1,x0,x1,x7,x8 => if x8 < x7 then (if 0 ≤ x8 then (if x8 < (x0.size : Int) then (if (bt x0 x8) = x1 then (some true) else (laws_holds.l0 k x0 x1 x7 (wrap64 (x8 + 1)))) else (none)) else (none)) else (some false)
def laws_holds.f (k : Nat) (a0 : ByteArray) (a1 : Int) : Option (Bool) := laws_holds.l0 k a0 a1 (a0.size : Int) 0
end Go.Proofs.Ytbkeakeldegkeaa.Q
end
section
namespace Go.Proofs.Ytbkeakeldegkeaa.SpA
open Go.RowKit Go.Proofs.Ytbkeakeldegkeaa.Q Go.Proofs.YtbkeakeldegkeaaW.PrintWords Go.Proofs.YtbkeakeldegkeaaW.PrintLast Go.Proofs.YtbkeakeldegkeaaKit
theorem short_l (ys xs : List ByteArray) (hx : xs.length ≤ 9223372036854775807) : ∀ (suf pre : List ByteArray),xs = pre ++ suf → Ev (fun k => laws_short.l0 k ys xs xs.length pre.length) (suf.all (fun s => decide (s.size ≤ 2000)) && decide (ys.length ≤ 60))
 | [],pre,h => by
  refine Ev.step (f := fun _ => some (decide ((ys.length : Int) ≤ 60))) (fun k => by simp only [laws_short.l0];rw [if_neg (ln_not h)]) (Ev.same (Ev.now _) ?_)
  rw [List.all_nil,Bool.true_and]
  exact decide_eq_decide.2 (by omega)
 | p :: t,pre,h => by
  have e : rdOf ByteArray.empty xs pre.length = p := get_mid h _
  rw [List.all_cons]
  by_cases c : p.size ≤ 2000
  ·
   rw [decide_eq_true c,Bool.true_and]
   refine Ev.step (fun k => ?_) (short_l ys xs hx t (pre ++ [p]) (lmid_next h))
   simp only [laws_short.l0]
   rw [if_pos (ln_mid h),if_pos (by omega),if_pos (ln_mid h),e,if_neg (by omega),wrap_lmid h hx]
  rw [decide_eq_false c,Bool.false_and,Bool.false_and]
  refine Ev.step (f := fun _ => some false) (fun k => ?_) (Ev.now _)
  simp only [laws_short.l0]
  rw [if_pos (ln_mid h),if_pos (by omega),if_pos (ln_mid h),e,if_pos (by omega)]
end Go.Proofs.Ytbkeakeldegkeaa.SpA
end
section
namespace Go.Proofs.Ytbkeakeldegkeaa.SpA
open Go.RowKit Go.Proofs.Ytbkeakeldegkeaa.Q Go.Proofs.YtbkeakeldegkeaaW.PrintWords Go.Proofs.YtbkeakeldegkeaaW.PrintLast Go.Proofs.YtbkeakeldegkeaaKit
theorem holds_l (s : ByteArray) (x : Int) (hs : s.size ≤ 140737488351232) : ∀ (suf pre : List UInt8),L s = pre ++ suf → Ev (fun k => laws_holds.l0 k s x s.size pre.length) (suf.any (fun c => decide ((c.toNat : Int) = x)))
 | [],pre,h => Ev.step (f := fun _ => some false) (fun k => by simp only [laws_holds.l0];rw [if_neg (sz_not h)]) (Ev.now _)
 | c :: t,pre,h => by
  rw [List.any_cons]
  by_cases c1 : (c.toNat : Int) = x
  ·
   rw [decide_eq_true c1,Bool.true_or]
   refine Ev.step (f := fun _ => some true) (fun k => ?_) (Ev.now _)
   simp only [laws_holds.l0]
   rw [if_pos (sz_mid h),if_pos (by omega),if_pos (sz_mid h),bt_mid h,if_pos c1]
  rw [decide_eq_false c1,Bool.false_or]
  refine Ev.step (fun k => ?_) (holds_l s x hs t (pre ++ [c]) (mid_next h))
  simp only [laws_holds.l0]
  rw [if_pos (sz_mid h),if_pos (by omega),if_pos (sz_mid h),bt_mid h,if_neg c1,wrap_mid h hs]
theorem holds (s : ByteArray) (x : Int) (hs : s.size ≤ 140737488351232) : Ev (fun k => laws_holds.f k s x) ((L s).any (fun c => decide ((c.toNat : Int) = x))) := holds_l s x hs (L s) [] rfl
end Go.Proofs.Ytbkeakeldegkeaa.SpA
end
section
namespace Go.Proofs.Ytbkeakeldegkeaa.SpA
open Go.RowKit Go.Proofs.Ytbkeakeldegkeaa.Q Go.Proofs.YtbkeakeldegkeaaW.PrintWords Go.Proofs.YtbkeakeldegkeaaW.PrintLast Go.Proofs.YtbkeakeldegkeaaKit
theorem norm_plain (l : List UInt8) (h : (37 : UInt8) ∉ l) : norm l = Cl.cleanK (lead l ++ l) := by rw [norm,dec_none l h]
theorem norm_slash (t : List UInt8) (h : (37 : UInt8) ∉ (47 :: t : List UInt8)) : norm (47 :: t) = Cl.cleanK (47 :: t) := by rw [norm_plain _ h,lead,if_pos rfl];rfl
theorem calm_l1 (s : ByteArray) (hs : s.size ≤ 140737488351232) (r : Bool) (xs : List ByteArray) (n j : Int) (hr : Ev (fun k => laws_calm.l0 k xs n (wrap64 (j + 1))) r) : ∀ (suf pre : List UInt8),L s = pre ++ suf → Ev (fun k => laws_calm.l1 k s xs n j (s.size : Int) pre.length) (!(suf.any isCtl) && r) := by
 intro suf
 induction suf with
 | nil =>
  intro pre h
  refine Ev.step (fun k => ?_) (Ev.same hr (by simp))
  simp only [laws_calm.l1]
  rw [if_neg (sz_not h)]
 | cons c t ih =>
  intro pre h
  have hany : (c :: t).any isCtl = (isCtl c || t.any isCtl) := rfl
  have hbt := bt_mid h
  have ih' := ih (pre ++ [c]) (mid_next h)
  rw [hany]
  by_cases h1 : c.toNat < 32
  ·
   rw [show isCtl c = true by simp [isCtl,h1]]
   refine Ev.step (f := fun _ => some false) (fun k => ?_) (Ev.now _)
   simp only [laws_calm.l1]
   rw [if_pos (sz_mid h),if_pos (by omega),if_pos (sz_mid h),hbt,if_pos (by omega)]
  by_cases h2 : c = 127
  ·
   subst h2
   refine Ev.step (f := fun _ => some false) (fun k => ?_) (Ev.now _)
   simp only [laws_calm.l1]
   rw [if_pos (sz_mid h),if_pos (by omega),if_pos (sz_mid h),hbt,if_neg (by omega),if_pos (by decide)]
  have hc : isCtl c = false := by simp [isCtl,h1,h2]
  have h3 : ¬ (c.toNat : Int) = 127 := fun e => h2 (UInt8.toNat_inj.1 (by show c.toNat = 127;omega))
  rw [hc,Bool.false_or]
  refine Ev.step (fun k => ?_) ih'
  simp only [laws_calm.l1]
  rw [if_pos (sz_mid h),if_pos (by omega),if_pos (sz_mid h),hbt,if_neg (by omega),if_neg h3,wrap_mid h hs]
theorem calm_l0 (xs : List ByteArray) (hx : xs.length ≤ 9223372036854775807) (hz : ∀ s ∈ xs,s.size ≤ 140737488351232) : ∀ (suf pre : List ByteArray),xs = pre ++ suf → Ev (fun k => laws_calm.l0 k xs xs.length pre.length) (suf.all fun s => !((L s).any isCtl))
 | [],pre,h => by
  refine Ev.step (f := fun _ => some true) (fun k => ?_) (Ev.now _)
  simp only [laws_calm.l0]
  rw [if_neg (ln_not h)]
 | p :: t,pre,h => by
  have e : rdOf ByteArray.empty xs pre.length = p := get_mid h _
  have ih := calm_l0 xs hx hz t (pre ++ [p]) (lmid_next h)
  rw [show ((pre ++ [p]).length : Int) = wrap64 ((pre.length : Int) + 1) from (wrap_lmid h hx).symm] at ih
  rw [List.all_cons]
  refine Ev.step (fun k => ?_) (calm_l1 p (hz p (by rw [h];simp)) _ xs xs.length pre.length ih (L p) [] rfl)
  simp only [laws_calm.l0]
  rw [if_pos (ln_mid h),if_pos (by omega),if_pos (ln_mid h),e]
  rfl
def H7 : List UInt8 := [104,116,116,112,58,47,47]
theorem upto_app {c : UInt8} : ∀ {p t : List UInt8},c ∉ p → upto c (p ++ c :: t) = p ∧ (p ++ c :: t).dropWhile (· != c) = c :: t
 | [],t,_ => by simp [upto]
 | x :: p,t,h => by
  have hx : (x != c) = true := bne_iff_ne.2 (fun e => h (by simp [e]))
  obtain ⟨h1,h2⟩ := upto_app (c := c) (p := p) (t := t) (fun e => h (by simp [e]))
  unfold upto at *
  simp [hx,h1,h2]
theorem part_http (host t : List UInt8) (hh : (47 : UInt8) ∉ host) : partU [] (H7 ++ host ++ 47 :: t) = some (HTTP,host,47 :: t) := by
 have e : H7 ++ host ++ 47 :: t = 104 :: 116 :: 116 :: 112 :: 58 :: 47 :: 47 :: (host ++ 47 :: t) := by simp [H7]
 rw [e]
 unfold partU
 have hs : schEnd 0 (104 :: 116 :: 116 :: 112 :: 58 :: 47 :: 47 :: (host ++ 47 :: t)) = some 4 := by simp [schEnd,isAl,isSg]
 rw [hs]
 simp only [List.drop_succ_cons,List.drop_zero,List.take_succ_cons,List.take_zero,List.length_cons]
 rw [if_neg (by omega),if_pos (by simp),(upto_app hh).1,(upto_app hh).2]
 rfl
theorem parse_http (host t : List UInt8) (hh : (47 : UInt8) ∉ host) (hc : (H7 ++ host ++ 47 :: t).any isCtl = false) : parseU [] (H7 ++ host ++ 47 :: t) = some (restU HTTP host (47 :: t)) := by
 unfold parseU
 rw [hc]
 simp only [Bool.false_eq_true,if_false]
 rw [if_pos (by simp),part_http host t hh]
 rfl
theorem parse_rel (host u : List UInt8) (hh : host ≠ []) (hs : ix SEP u 0 < 0) (hc : u.any isCtl = false) : parseU host u = some (restU [] host u) := by
 unfold parseU
 rw [hc]
 simp only [Bool.false_eq_true,if_false]
 rw [if_neg (by rintro (e|e);exact hh e;omega)]
theorem uriOf_eq (a0 a1 : ByteArray) (h0 : a0.size ≤ 3000000000) (h1 : a1.size ≤ 3000000000) (hc : (L a1).any isCtl = false) (u : UR) (hp : parseU (L a0) (L a1) = some u) (ho : u.orig.length ≤ 2147483647) :
 impl_UriOf.f a0 a1 = some (⟨u.sch.toArray⟩,⟨u.host.toArray⟩,⟨u.path.toArray⟩,⟨u.orig.toArray⟩,⟨u.query.toArray⟩,⟨u.hash.toArray⟩,⟨u.user.toArray⟩,⟨u.pass.toArray⟩,true) := by
 unfold impl_UriOf.f
 rw [if_pos ⟨⟨h0,h1⟩,hc⟩,hp]
 simp only
 rw [if_pos ho]
theorem upto_len (c : UInt8) (l : List UInt8) : (upto c l).length ≤ l.length := (List.takeWhile_sublist _).length_le
theorem past_len (c : UInt8) (l : List UInt8) : (past c l).length ≤ l.length := by
 unfold past
 have := (List.dropWhile_sublist (l := l) (· != c)).length_le
 simp
 omega
theorem restU_orig_len (s h u : List UInt8) : (restU s h u).orig.length ≤ u.length := by
 show (upto 63 (upto 35 u)).length ≤ _
 have h1 := upto_len 63 (upto 35 u)
 have h2 := upto_len 35 u
 omega
theorem parses : laws_parses.f = some true := by
 have hp : parseU (L ⟨#[]⟩) (L ⟨#[104,116,116,112,58,47,47,104,47,97,63,98,61,99,35,100]⟩) = some ⟨HTTP,[104],[47,97],[47,97],[98,61,99],[100],[],[]⟩ := by
  have := parse_http [104] [97,63,98,61,99,35,100] (by decide) (by decide)
  refine this.trans ?_
  congr 1
  unfold restU
  rw [show authU [104] = ([],[],[104]) by decide,show pathU (47 :: [97,63,98,61,99,35,100]) = ([47,97],[98,61,99],[100]) by decide]
  simp only
  rw [norm_slash _ (by decide),show Cl.cleanK [47,97] = [47,97] by decide]
  rfl
 unfold laws_parses.f
 rw [uriOf_eq _ _ (by decide) (by decide) (by decide) _ hp (by decide)]
 simp only [Option.bind_some,tl]
 rfl
end Go.Proofs.Ytbkeakeldegkeaa.SpA
end
section
namespace Go.Proofs.Ytbkeakeldegkeaa.SpA
open Go.RowKit Go.Proofs.Ytbkeakeldegkeaa.Q Go.Proofs.YtbkeakeldegkeaaW.PrintWords Go.Proofs.YtbkeakeldegkeaaW.PrintLast Go.Proofs.YtbkeakeldegkeaaKit
theorem uriText_eq (a0 a1 : ByteArray) (raw : Bool) (h0 : a0.size ≤ 3000000000) (h1 : a1.size ≤ 3000000000) (hc : (L a1).any isCtl = false) (u : UR) (hp : parseU (L a0) (L a1) = some u) (ho : u.orig.length ≤ 2147483647) :
 impl_UriText.f a0 a1 raw = some (⟨(u.full raw).toArray⟩,⟨(u.req raw).toArray⟩,⟨(lastU u.path).toArray⟩,true) := by
 unfold impl_UriText.f
 rw [if_pos ⟨⟨h0,h1⟩,hc⟩,hp]
 simp only
 rw [if_pos ho]
end Go.Proofs.Ytbkeakeldegkeaa.SpA
end
section
namespace Go.Proofs.Ytbkeakeldegkeaa.SpA
open Go.RowKit Go.Proofs.Ytbkeakeldegkeaa.Q Go.Proofs.YtbkeakeldegkeaaW.PrintWords Go.Proofs.YtbkeakeldegkeaaW.PrintLast Go.Proofs.YtbkeakeldegkeaaKit
abbrev bl (l : List UInt8) : ByteArray := ⟨l.toArray⟩
theorem L_bl (l : List UInt8) : L (bl l) = l := by simp [L,bl]
theorem bl_L (s : ByteArray) : bl (L s) = s := ext (L_bl _)
theorem ev_le' {α : Type} {f : Nat → Option α} {r : α} (h : ∀ k,LeO (f k) (f (k + 1))) (k0 : Nat) (e : f k0 = some r) : Ev f r :=
 ⟨k0,fun k hk => by
  obtain ⟨d,rfl⟩ := Nat.exists_eq_add_of_le hk
  clear hk
  induction d with
  | zero => exact e
  | succ d ih => exact h _ r ih⟩
def hv (c : UInt8) : Int := if hx c = 16 then -1 else hx c
theorem hex_all : ∀ c : Fin 256,spec_hexOf.f 4 ((c : Nat) : Int) = some (if bt tab1 ((c : Nat) : Int) = 16 then -1 else bt tab1 ((c : Nat) : Int)) := by decide +kernel
theorem hex_ev (c : UInt8) : Ev (fun k => spec_hexOf.f k (c.toNat : Int)) (hv c) := ev_le' (fun k => spec_hexOf.mono _ k) 4 (hex_all ⟨c.toNat,c.toNat_lt⟩)
theorem hv_neg (c : UInt8) : hv c < 0 ↔ hx c = 16 := by
 have := hx_range c
 unfold hv
 split <;> omega
theorem bt_two {s : ByteArray} {pre t : List UInt8} {c d : UInt8} (h : L s = pre ++ c :: d :: t) (x : Int) (hx : x = (pre.length : Int) + 1) : bt s x = (d.toNat : Int) := by
 have := bt_mid (s := s) (pre := pre ++ [c]) (c := d) (t := t) (by rw [h];simp)
 rw [← this]
 congr 1
 rw [hx];simp
theorem bt_three {s : ByteArray} {pre t : List UInt8} {c d e : UInt8} (h : L s = pre ++ c :: d :: e :: t) (x : Int) (hx : x = (pre.length : Int) + 2) : bt s x = (e.toNat : Int) := by
 have := bt_mid (s := s) (pre := pre ++ [c,d]) (c := e) (t := t) (by rw [h];simp)
 rw [← this]
 congr 1
 rw [hx];simp
theorem sound_l (s : ByteArray) (hs : s.size ≤ 2147483647) : ∀ (suf pre : List UInt8),L s = pre ++ suf → ∃ b,Ev (fun k => spec_Sound.l0 k s (pre.length : Int)) b
 | [],pre,h => ⟨true,Ev.step (f := fun _ => some true) (fun k => by simp only [spec_Sound.l0];rw [if_neg (sz_not h)]) (Ev.now _)⟩
 | c :: t,pre,h => by
  obtain ⟨b,ih⟩ := sound_l s hs t (pre ++ [c]) (mid_next h)
  have hsz : s.size = pre.length + (t.length + 1) := by rw [size_L,h];simp
  have w1 : wrap64 ((pre.length : Int) + 1) = ((pre ++ [c]).length : Int) := wrap_mid h (by omega)
  have hl1 : ((pre ++ [c]).length : Int) = (pre.length : Int) + 1 := by simp
  have w2 : wrap64 ((pre.length : Int) + 2) = (pre.length : Int) + 2 := wrap_id (by omega) (by omega)
  by_cases hc : (c.toNat : Int) = 37
  ·
   by_cases h2 : (pre.length : Int) + 2 ≥ (s.size : Int)
   ·
    refine ⟨false,Ev.step (f := fun _ => some false) (fun k => ?_) (Ev.now _)⟩
    simp only [spec_Sound.l0]
    rw [if_pos (sz_mid h),if_pos (by omega),bt_mid h,if_pos hc,w2,if_pos h2]
   match t,h,hsz,ih with
   | [],h,hsz,ih => simp at hsz;omega
   | [d],h,hsz,ih => simp at hsz;omega
   | x :: y :: r,h,hsz,ih =>
    have hbx : bt s ((pre ++ [c]).length : Int) = (x.toNat : Int) := bt_two h _ hl1
    have hby : bt s ((pre.length : Int) + 2) = (y.toNat : Int) := bt_three h _ rfl
    have base : ∀ k,spec_Sound.l0 (k + 1) s (pre.length : Int) = (spec_hexOf.f k (x.toNat : Int)).bind fun t173 => if t173 < 0 then some false else (spec_hexOf.f k (y.toNat : Int)).bind fun t174 => if t174 < 0 then some false else spec_Sound.l0 k s ((pre ++ [c]).length : Int) := fun k => by
     simp only [spec_Sound.l0]
     rw [if_pos (sz_mid h),if_pos (by omega),bt_mid h,if_pos hc,w2,if_neg h2,w1,if_pos (by omega),if_pos (by omega),hbx,hby]
     simp only [if_pos (show (0 : Int) ≤ (pre.length : Int) + 2 by omega),if_pos (show (pre.length : Int) + 2 < (s.size : Int) by omega)]
    by_cases a1 : hv x < 0
    ·
     exact ⟨false,Ev.step base (Ev.call (hex_ev x) (Ev.pos a1 (Ev.now _)))⟩
    by_cases a2 : hv y < 0
    ·
     exact ⟨false,Ev.step base (Ev.call (hex_ev x) (Ev.neg a1 (Ev.call (hex_ev y) (Ev.pos a2 (Ev.now _)))))⟩
    exact ⟨b,Ev.step base (Ev.call (hex_ev x) (Ev.neg a1 (Ev.call (hex_ev y) (Ev.neg a2 ih))))⟩
  refine ⟨b,Ev.step (fun k => ?_) ih⟩
  simp only [spec_Sound.l0]
  rw [if_pos (sz_mid h),if_pos (by omega),bt_mid h,if_neg hc,w1]
theorem sound (s : ByteArray) (hs : s.size ≤ 2147483647) : ∃ b,Ev (fun k => spec_Sound.f k s) b := sound_l s hs (L s) [] rfl
theorem two_all : ∀ a b : Fin 16,Go.bits .or .u8 (((a.val : Int) * 16) % 256) (b.val : Int) = (16 * (a.val : Int) + (b.val : Int)) % 256 := by decide +kernel
theorem two_eq (x y : UInt8) (hx1 : hx x ≠ 16) (hy1 : hx y ≠ 16) : (wrap64 ((wrap64 (16 * hv x)) + hv y)) % 256 = ((hx2 x y).toNat : Int) := by
 have r1 := hx_range x
 have r2 := hx_range y
 have e1 : hv x = hx x := if_neg hx1
 have e2 : hv y = hx y := if_neg hy1
 have w0 : wrap64 (16 * hx x) = 16 * hx x := wrap_id (by omega) (by omega)
 rw [e1,e2,hx2_toI,w0,wrap_id (by omega) (by omega)]
 have h := two_all ⟨(hx x).toNat,by omega⟩ ⟨(hx y).toNat,by omega⟩
 simp only [show (((hx x).toNat : Nat) : Int) = hx x by omega,show (((hx y).toNat : Nat) : Int) = hx y by omega] at h
 exact h.symm
theorem str_bl (l : List UInt8) : strOfNums (toI l) = bl l := ext (by rw [L_strOf,L_bl])
theorem decoded_l (s : ByteArray) (hs : s.size ≤ 2147483647) : ∀ (n : Nat) (suf pre acc : List UInt8),suf.length ≤ n → L s = pre ++ suf → acc.length ≤ pre.length → Ev (fun k => spec_Decoded.l0 k s false (toI acc) (pre.length : Int)) (bl (acc ++ dec suf)) := by
 intro n
 induction n with
 | zero =>
  intro suf pre acc hn h ha
  have : suf = [] := List.length_eq_zero_iff.1 (by omega)
  subst this
  refine Ev.step (f := fun _ => some (strOfNums (toI acc))) (fun k => by simp only [spec_Decoded.l0];rw [if_neg (sz_not h)]) (Ev.same (Ev.now _) (by rw [str_bl];simp [dec]))
 | succ n ih =>
  intro suf pre acc hn h ha
  cases suf with
  | nil => exact Ev.step (f := fun _ => some (strOfNums (toI acc))) (fun k => by simp only [spec_Decoded.l0];rw [if_neg (sz_not h)]) (Ev.same (Ev.now _) (by rw [str_bl];simp [dec]))
  | cons c t =>
   have hsz : s.size = pre.length + (t.length + 1) := by rw [size_L,h];simp
   simp only [List.length_cons] at hn
   have w1 : wrap64 ((pre.length : Int) + 1) = ((pre ++ [c]).length : Int) := wrap_mid h (by omega)
   have hl1 : ((pre ++ [c]).length : Int) = (pre.length : Int) + 1 := by simp
   have w2 : wrap64 ((pre.length : Int) + 2) = (pre.length : Int) + 2 := wrap_id (by omega) (by omega)
   have hal : (toI acc).length < 140737488355328 := by rw [toI_length];omega
   have push : ∀ r : List UInt8,dec (c :: t) = c :: r → r = dec t → Ev (fun k => spec_Decoded.j1 k s false (toI acc) (pre.length : Int) false) (bl (acc ++ dec (c :: t))) := fun r hr hr2 => by
    have i1 := ih t (pre ++ [c]) (acc ++ [c]) (by omega) (mid_next h) (by simp;omega)
    rw [hr,hr2,show acc ++ c :: dec t = acc ++ [c] ++ dec t by simp]
    refine Ev.step (fun k => ?_) i1
    simp only [spec_Decoded.j1]
    rw [if_neg (by decide),if_pos (by omega),if_pos (sz_mid h),bt_mid h,w1,toI_snoc]
    by_cases h43 : (c.toNat : Int) = 43
    ·
     rw [if_pos h43,if_neg (by decide),if_pos hal]
    rw [if_neg h43,if_pos hal]
   by_cases hc : (c.toNat : Int) = 37
   ·
    have hc' : c = 37 := UInt8.toNat_inj.1 (by have : (37 : UInt8).toNat = 37 := rfl;omega)
    by_cases h2 : (pre.length : Int) + 2 < (s.size : Int)
    ·
     match t,h,hsz,hn,push with
     | [],h,hsz,hn,push => simp at hsz;omega
     | [d],h,hsz,hn,push => simp at hsz;omega
     | x :: y :: r,h,hsz,hn,push =>
      simp only [List.length_cons] at hsz hn
      have hbx : bt s ((pre ++ [c]).length : Int) = (x.toNat : Int) := bt_two h _ hl1
      have hby : bt s ((pre.length : Int) + 2) = (y.toNat : Int) := bt_three h _ rfl
      have hd : dec (c :: x :: y :: r) = if hx x = 16 ∨ hx y = 16 then 37 :: dec (x :: y :: r) else hx2 x y :: dec r := by rw [dec,if_pos hc']
      have base : ∀ k,spec_Decoded.l0 (k + 1) s false (toI acc) (pre.length : Int) = (spec_hexOf.f k (x.toNat : Int)).bind fun t197 => if t197 ≥ 0 then (spec_hexOf.f k (y.toNat : Int)).bind fun t198 => spec_Decoded.j1 k s false (toI acc) (pre.length : Int) (decide (t198 ≥ 0)) else spec_Decoded.j1 k s false (toI acc) (pre.length : Int) false := fun k => by
       simp only [spec_Decoded.l0]
       rw [if_pos (sz_mid h),if_pos (by omega),bt_mid h,if_pos hc,w2,if_pos h2,w1,if_pos (by omega),if_pos (by omega),hbx,hby]
       simp only [if_pos (show (0 : Int) ≤ (pre.length : Int) + 2 by omega)]
      by_cases a1 : hx x = 16
      ·
       have n1 : hv x < 0 := (hv_neg x).2 a1
       exact Ev.step base (Ev.call (hex_ev x) (Ev.neg (by omega) (push _ (by rw [hd,if_pos (.inl a1),hc']) rfl)))
      have n1 : ¬ hv x < 0 := fun e => a1 ((hv_neg x).1 e)
      by_cases a2 : hx y = 16
      ·
       have n2 : hv y < 0 := (hv_neg y).2 a2
       refine Ev.step base (Ev.call (hex_ev x) (Ev.pos (by omega) (Ev.call (hex_ev y) ?_)))
       rw [decide_eq_false (by omega)]
       exact push _ (by rw [hd,if_pos (.inr a2),hc']) rfl
      have n2 : ¬ hv y < 0 := fun e => a2 ((hv_neg y).1 e)
      refine Ev.step base (Ev.call (hex_ev x) (Ev.pos (by omega) (Ev.call (hex_ev y) ?_)))
      rw [decide_eq_true (by omega)]
      have i2 := ih r (pre ++ [c,x,y]) (acc ++ [hx2 x y]) (by omega) (by rw [h];simp) (by simp;omega)
      have w3 : wrap64 ((pre.length : Int) + 2 + 1) = ((pre ++ [c,x,y]).length : Int) := by rw [wrap_id (by omega) (by omega)];simp;omega
      rw [hd,if_neg (by simp [a1,a2]),show acc ++ hx2 x y :: dec r = acc ++ [hx2 x y] ++ dec r by simp]
      have b2 : ∀ k,spec_Decoded.j1 (k + 1) s false (toI acc) (pre.length : Int) true = (spec_hexOf.f k (x.toNat : Int)).bind fun t199 => (spec_hexOf.f k (y.toNat : Int)).bind fun t200 => spec_Decoded.l0 k s false (toI acc ++ [(wrap64 ((wrap64 (16 * t199)) + t200)) % 256]) ((pre ++ [c,x,y]).length : Int) := fun k => by
       simp only [spec_Decoded.j1]
       rw [if_pos trivial,w1,if_pos (by omega),if_pos (by omega),hbx,w2,w3]
       simp only [if_pos (show (0 : Int) ≤ (pre.length : Int) + 2 by omega),if_pos (show (pre.length : Int) + 2 < (s.size : Int) by omega),hby,if_pos hal]
      refine Ev.step b2 (Ev.call (hex_ev x) (Ev.call (hex_ev y) ?_))
      rw [two_eq x y a1 a2,toI_snoc]
      exact i2
    have hshort : dec (c :: t) = c :: dec t := by
     rw [dec_short (c :: t) (by simp;omega),dec_short t (by omega)]
    refine Ev.step (fun k => ?_) (push _ hshort rfl)
    simp only [spec_Decoded.l0]
    rw [if_pos (sz_mid h),if_pos (by omega),bt_mid h,if_pos hc,w2,if_neg h2]
   have hc' : c ≠ 37 := fun e => hc (by rw [e];rfl)
   refine Ev.step (fun k => ?_) (push _ (dec_plain c hc' t) rfl)
   simp only [spec_Decoded.l0]
   rw [if_pos (sz_mid h),if_pos (by omega),bt_mid h,if_neg hc]
theorem decoded (s : ByteArray) (hs : s.size ≤ 2147483647) : Ev (fun k => spec_Decoded.f k s false) (bl (dec (L s))) := decoded_l s hs (L s).length (L s) [] [] (Nat.le_refl _) rfl (Nat.le_refl _)
end Go.Proofs.Ytbkeakeldegkeaa.SpA
end
section
namespace Go.Proofs.Ytbkeakeldegkeaa.SpA
open Go.RowKit Go.Proofs.Ytbkeakeldegkeaa.Q Go.Proofs.YtbkeakeldegkeaaW.PrintWords Go.Proofs.YtbkeakeldegkeaaW.PrintLast Go.Proofs.YtbkeakeldegkeaaKit
theorem clean_lead (d : List UInt8) : Cl.cleanK (47 :: d) = Cl.cleanK d := by
 have := Cl.clean_app [] d
 rw [List.nil_append] at this
 rw [this,Cl.cleanK,show Cl.keepK [] = [] from by simp [Cl.keepK,Cl.splitS,Cl.stepK]]
theorem norm_dec (l : List UInt8) : norm l = Cl.cleanK (dec l) := by
 unfold norm
 cases l with
 | nil => exact clean_lead _
 | cons c t =>
  by_cases hc : c = 47
  ·
   rw [lead,if_pos hc];rfl
  rw [lead,if_neg hc];exact clean_lead _
theorem split_l (s : ByteArray) (hs : s.size ≤ 2147483647) : ∀ (suf dn cur : List UInt8) (acc : List ByteArray),L s = (dn ++ cur) ++ suf → (47 : UInt8) ∉ cur → acc.length ≤ dn.length →
 Ev (fun k => spec_split.l0 k s 47 acc (dn.length : Int) ((dn ++ cur).length : Int)) (acc ++ (Cl.splitS (cur ++ suf)).map bl)
 | [],dn,cur,acc,h,hc,ha => by
  have hsz : s.size = dn.length + cur.length := by rw [size_L,h];simp
  have hlen : ((dn ++ cur).length : Int) = (dn.length : Int) + cur.length := by simp
  have hex : s.extract (dn.length : Int).toNat ((dn ++ cur).length : Int).toNat = bl cur := by
   refine ext ?_
   rw [L_extract,Int.toNat_natCast,Int.toNat_natCast,h,L_bl]
   simp
  have w1 : wrap64 (((dn ++ cur).length : Int) + 1) = ((dn ++ cur).length : Int) + 1 := wrap_id (by omega) (by omega)
  rw [List.append_nil,Cl.splitS_word cur hc]
  refine Ev.step (f := fun k => spec_split.l0 k s 47 (acc ++ [bl cur]) (((dn ++ cur).length : Int) + 1) (((dn ++ cur).length : Int) + 1)) (fun k => ?_) (Ev.step (f := fun _ => some (acc ++ [bl cur])) (fun k => ?_) (Ev.now _))
  ·
   simp only [spec_split.l0]
   rw [if_pos (by omega),if_pos (by omega),if_pos (by omega),if_pos (by omega),if_pos (by omega),hex,w1]
  simp only [spec_split.l0]
  rw [if_neg (by omega)]
 | c :: t,dn,cur,acc,h,hc,ha => by
  have hsz : s.size = dn.length + cur.length + (t.length + 1) := by rw [size_L,h];simp;omega
  have hlen : ((dn ++ cur).length : Int) = (dn.length : Int) + cur.length := by simp
  have hex : s.extract (dn.length : Int).toNat ((dn ++ cur).length : Int).toNat = bl cur := by
   refine ext ?_
   rw [L_extract,Int.toNat_natCast,Int.toNat_natCast,h,L_bl]
   simp
  by_cases h47 : c = 47
  ·
   have ih := split_l s hs t (dn ++ cur ++ [c]) [] (acc ++ [bl cur]) (by rw [h];simp) (by simp) (by simp;omega)
   rw [List.append_nil] at ih
   have w1 : wrap64 (((dn ++ cur).length : Int) + 1) = ((dn ++ cur ++ [c]).length : Int) := wrap_mid h (by omega)
   rw [h47,Cl.splitS_app,Cl.splitS_word cur hc]
   refine Ev.step (fun k => ?_) (Ev.same ih (by simp))
   simp only [spec_split.l0]
   rw [if_pos (by omega),if_neg (by omega),if_pos (by omega),if_pos (sz_mid h),bt_mid h,if_pos (by rw [h47];rfl),if_pos (by omega),if_pos (by omega),if_pos (by omega),hex,w1]
  have ih := split_l s hs t dn (cur ++ [c]) acc (by rw [h];simp) (by simp only [List.mem_append,List.mem_singleton,not_or];exact ⟨hc,fun e => h47 e.symm⟩) ha
  have w1 : wrap64 (((dn ++ cur).length : Int) + 1) = ((dn ++ (cur ++ [c])).length : Int) := by rw [wrap_mid h (by omega),List.append_assoc]
  rw [show cur ++ c :: t = (cur ++ [c]) ++ t by simp]
  refine Ev.step (fun k => ?_) ih
  simp only [spec_split.l0]
  rw [if_pos (by omega),if_neg (by omega),if_pos (by omega),if_pos (sz_mid h),bt_mid h,if_neg (fun e => h47 (UInt8.toNat_inj.1 (by have : (47 : UInt8).toNat = 47 := rfl;omega))),w1]
theorem split (s : ByteArray) (hs : s.size ≤ 2147483647) : Ev (fun k => spec_split.f k s 47) ((Cl.splitS (L s)).map bl) := split_l s hs (L s) [] [] [] rfl (by simp) (Nat.le_refl _)
theorem split_len : ∀ l,(Cl.splitS l).length ≤ l.length + 1
 | [] => by simp [Cl.splitS]
 | c :: t => by
  have := split_len t
  unfold Cl.splitS
  split
  ·
   simp;exact this
  split
  ·
   simp
  rename_i h;rw [h] at this;simp at this ⊢;omega
theorem step_len (k : List (List UInt8)) (p : List UInt8) : (Cl.stepK k p).length ≤ k.length + 1 := by
 unfold Cl.stepK
 split
 ·
  omega
 split <;> simp
 omega
theorem fold_len : ∀ (S k : List (List UInt8)),(S.foldl Cl.stepK k).length ≤ k.length + S.length
 | [],k => by simp
 | p :: S,k => by
  have := fold_len S (Cl.stepK k p)
  have := step_len k p
  simp only [List.foldl_cons,List.length_cons]
  omega
theorem join_l (last : ByteArray) (hl : last.size ≤ 100000) (K : List (List UInt8)) (hK : (K.map List.length).sum ≤ 100000) (hKl : K.length ≤ 100000) : ∀ (suf pre : List (List UInt8)) (x9 : ByteArray),K = pre ++ suf → x9.size + ((suf.map List.length).sum + suf.length) ≤ 400000 →
 Ev (fun k => spec_Cleaned.l1 k last x9 (K.map bl) ((K.map bl).length : Int) (pre.length : Int)) (⟨(L x9 ++ (suf.flatMap (fun q => q ++ [47]) ++ L last)).toArray⟩,1)
 | [],pre,x9,h,hz => by
  refine Ev.step (f := fun _ => some (x9 ++ last,1)) (fun k => ?_) (Ev.same (Ev.now _) ?_)
  ·
   simp only [spec_Cleaned.l1]
   rw [if_neg (by rw [h];simp),if_pos (by simp at hz;omega)]
  congr 1
 | p :: t,pre,x9,h,hz => by
  simp only [List.map_cons,List.sum_cons,List.length_cons] at hz
  have hm : K.map bl = pre.map bl ++ bl p :: t.map bl := by rw [h];simp
  have hln : ((pre.map bl).length : Int) = (pre.length : Int) := by simp
  have hrd : rdOf ByteArray.empty (K.map bl) (pre.length : Int) = bl p := by rw [← hln];exact get_mid hm _
  have hpl : (bl p).size = p.length := by rw [size_L,L_bl]
  have hlk : K.length = pre.length + (t.length + 1) := by rw [h];simp
  have w1 : wrap64 ((pre.length : Int) + 1) = ((pre ++ [p]).length : Int) := by rw [wrap_id (by omega) (by omega)];simp
  have hsz : (bl p ++ (⟨#[47]⟩ : ByteArray)).size = p.length + 1 := by rw [size_append,hpl];rfl
  have ih := join_l last hl K hK hKl t (pre ++ [p]) (x9 ++ (bl p ++ ⟨#[47]⟩)) (by rw [h];simp) (by rw [size_append,hsz];omega)
  refine Ev.step (fun k => ?_) (Ev.same ih ?_)
  ·
   simp only [spec_Cleaned.l1]
   rw [if_pos (by simp;omega),if_pos (by omega),if_pos (by simp;omega),hrd,if_pos (by omega),if_pos (by omega),w1]
  rw [L_append,L_append,L_bl]
  simp [L]
theorem join_eq (K : List (List UInt8)) (last : List UInt8) : 47 :: (K.flatMap (fun q => q ++ [47]) ++ last) = Cl.joinS (K ++ [last]) := by
 induction K with
 | nil => simp [Cl.joinS]
 | cons q K ih =>
  rw [List.cons_append,Cl.joinS_cons,← ih]
  simp
theorem drop_sum : ∀ k : List (List UInt8),(k.dropLast.map List.length).sum ≤ (k.map List.length).sum
 | [] => by simp
 | [x] => by simp
 | x :: y :: t => by
  have := drop_sum (y :: t)
  simp only [List.dropLast_cons_cons,List.map_cons,List.sum_cons] at this ⊢
  omega
theorem len_step (k : List (List UInt8)) (p : List UInt8) : ((Cl.stepK k p).map List.length).sum ≤ (k.map List.length).sum + p.length := by
 unfold Cl.stepK
 split
 ·
  omega
 split
 ·
  have : (k.dropLast.map List.length).sum ≤ (k.map List.length).sum := by
   exact drop_sum k
  omega
 simp
theorem len_fold : ∀ (S k : List (List UInt8)),((S.foldl Cl.stepK k).map List.length).sum ≤ (k.map List.length).sum + (S.map List.length).sum
 | [],k => by simp
 | p :: S,k => by
  have := len_fold S (Cl.stepK k p)
  have := len_step k p
  simp only [List.foldl_cons,List.map_cons,List.sum_cons]
  omega
theorem split_sum : ∀ l,((Cl.splitS l).map List.length).sum ≤ l.length
 | [] => by simp [Cl.splitS]
 | c :: t => by
  have := split_sum t
  unfold Cl.splitS
  split
  ·
   simp;omega
  split
  ·
   simp
  rename_i h;rw [h] at this;simp at this ⊢;omega
theorem keep_l (last : ByteArray) (hl : last.size ≤ 100000) (S : List (List UInt8)) (hS : (S.map List.length).sum ≤ 100000) (hSl : S.length ≤ 100000) : ∀ (suf pre K : List (List UInt8)),S = pre ++ suf → K = pre.foldl Cl.stepK [] →
 Ev (fun k => spec_Cleaned.l0 k last (K.map bl) (S.map bl) ((S.map bl).length : Int) (pre.length : Int)) (⟨(Cl.joinS (S.foldl Cl.stepK [] ++ [L last])).toArray⟩,1)
 | [],pre,K,h,hK => by
  have hKS : K = S.foldl Cl.stepK [] := by rw [hK,h];simp
  have b1 := fold_len S []
  have b2 := len_fold S []
  rw [← hKS] at b1 b2 ⊢
  simp at b1 b2
  have := join_l last hl K (by omega) (by omega) K [] ⟨#[47]⟩ rfl (by show (1 : Nat) + _ ≤ _;omega)
  refine Ev.step (fun k => ?_) (Ev.same this ?_)
  ·
   simp only [spec_Cleaned.l0]
   rw [if_neg (by rw [h];simp)]
   rfl
  congr 2
  rw [← join_eq]
  rfl
 | p :: t,pre,K,h,hK => by
  have hm : S.map bl = pre.map bl ++ bl p :: t.map bl := by rw [h];simp
  have hln : ((pre.map bl).length : Int) = (pre.length : Int) := by simp
  have hrd : rdOf ByteArray.empty (S.map bl) (pre.length : Int) = bl p := by rw [← hln];exact get_mid hm _
  have hlk : S.length = pre.length + (t.length + 1) := by rw [h];simp
  have w1 : wrap64 ((pre.length : Int) + 1) = ((pre ++ [p]).length : Int) := by rw [wrap_id (by omega) (by omega)];simp
  have ih := keep_l last hl S hS hSl t (pre ++ [p]) (Cl.stepK K p) (by rw [h];simp) (by rw [hK];simp)
  have b1 := fold_len pre []
  rw [← hK] at b1
  simp at b1
  have hj : Ev (fun k => spec_Cleaned.j2 k last (K.map bl) (bl p) (S.map bl) ((S.map bl).length : Int) (pre.length : Int) (bl p) (decide (p = [] ∨ p = [46]))) (⟨(Cl.joinS (S.foldl Cl.stepK [] ++ [L last])).toArray⟩,1) := by
   refine Ev.step (fun k => ?_) ih
   simp only [spec_Cleaned.j2]
   rw [w1]
   by_cases hp : p = [] ∨ p = [46]
   ·
    rw [if_pos (decide_eq_true hp),show Cl.stepK K p = K from if_pos hp]
   rw [if_neg (by simpa using hp)]
   rw [tl,L_bl]
   by_cases hd : p = [46,46]
   ·
    rw [if_pos hd,show Cl.stepK K p = K.dropLast by unfold Cl.stepK;rw [if_neg hp,if_pos hd]]
    have hmx : mx (wrap64 (((K.map bl).length : Int) - 1)) 0 = ((K.length - 1 : Nat) : Int) := by
     rw [List.length_map,wrap_id (by omega) (by omega)]
     unfold mx
     split <;> omega
    rw [hmx,if_pos (by omega),if_pos (by rw [List.length_map];omega),Int.toNat_natCast,List.dropLast_eq_take,List.map_take]
   rw [if_neg hd,show Cl.stepK K p = K ++ [p] by unfold Cl.stepK;rw [if_neg hp,if_neg hd],if_pos (by simp;omega)]
   simp
  refine Ev.step (fun k => ?_) hj
  simp only [spec_Cleaned.l0]
  rw [if_pos (by simp;omega),if_pos (by omega),if_pos (by simp;omega),hrd]
  simp only [tl,L_bl]
  by_cases h0 : p = []
  ·
   rw [if_pos h0,h0]
   rfl
  rw [if_neg h0]
  congr 1
  by_cases h1 : p = [46]
  ·
   rw [h1];rfl
  rw [decide_eq_false (by simp [h0,h1]),beq_eq_false_iff_ne.2 h1]
theorem cleaned (s : ByteArray) (hs : s.size ≤ 50000) : ∃ r,Ev (fun k => spec_Cleaned.f k s) r ∧ (r.2 = 1 → L r.1 = Cl.cleanK (L s)) := by
 obtain ⟨S,last,hSl⟩ : ∃ S last,Cl.splitS (L s) = S ++ [last] := by
  have hne := Cl.splitS_ne (L s)
  exact ⟨_,_,(List.dropLast_concat_getLast hne).symm⟩
 have hspl := split s (by omega)
 have b1 := split_len (L s)
 have b2 := split_sum (L s)
 rw [hSl] at hspl b1 b2
 rw [← size_L] at b1 b2
 simp at b1 b2
 have hcl : Cl.cleanK (L s) = Cl.finK (S.foldl Cl.stepK []) last := by
  unfold Cl.cleanK
  rw [hSl]
  simp
 have hm : (S ++ [last]).map bl = S.map bl ++ bl last :: [] := by simp
 have hln : ((S.map bl).length : Int) = (S.length : Int) := by simp
 have hrd : rdOf ByteArray.empty ((S ++ [last]).map bl) (S.length : Int) = bl last := by rw [← hln];exact get_mid hm _
 have w1 : wrap64 ((((S ++ [last]).map bl).length : Int) - 1) = (S.length : Int) := by rw [List.length_map,List.length_append,wrap_id (by omega) (by simp only [List.length_singleton];omega)];simp
 have hls : (bl last).size = last.length := by rw [size_L,L_bl]
 have hk := keep_l (bl last) (by omega) S (by omega) (by omega) S [] [] rfl rfl
 rw [L_bl] at hk
 have hj : Ev (fun k => spec_Cleaned.j0 k ((S ++ [last]).map bl) (bl last) false) (⟨(Cl.joinS (S.foldl Cl.stepK [] ++ [last])).toArray⟩,1) := by
  refine Ev.step (fun k => ?_) hk
  simp only [spec_Cleaned.j0]
  rw [if_neg (by decide),w1,if_pos (by omega),if_pos (by simp;omega),Int.toNat_natCast]
  simp only [Option.bind_some]
  rw [show ((S ++ [last]).map bl).take S.length = S.map bl by rw [hm,← show (S.map bl).length = S.length by simp,List.take_left]]
  rfl
 have hjt : Ev (fun k => spec_Cleaned.j0 k ((S ++ [last]).map bl) (bl last) true) (⟨#[]⟩,2) := Ev.step (f := fun _ => some (⟨#[]⟩,2)) (fun k => by simp only [spec_Cleaned.j0];rw [if_pos trivial]) (Ev.now _)
 have base : ∀ r,Ev (fun k => if last = [46] then spec_Cleaned.j0 k ((S ++ [last]).map bl) (bl last) true else spec_Cleaned.j0 k ((S ++ [last]).map bl) (bl last) (last == [46,46])) r → Ev (fun k => spec_Cleaned.f k s) r := fun r hr => by
  refine Ev.call hspl ?_
  have e : ∀ k,(if 0 ≤ (wrap64 ((((S ++ [last]).map bl).length : Int) - 1)) then (if (wrap64 ((((S ++ [last]).map bl).length : Int) - 1)) < (((S ++ [last]).map bl).length : Int) then (if (rdOf ByteArray.empty ((S ++ [last]).map bl) (wrap64 ((((S ++ [last]).map bl).length : Int) - 1))).toList = ([46] : List UInt8) then (spec_Cleaned.j0 k ((S ++ [last]).map bl) (rdOf ByteArray.empty ((S ++ [last]).map bl) (wrap64 ((((S ++ [last]).map bl).length : Int) - 1))) true) else (spec_Cleaned.j0 k ((S ++ [last]).map bl) (rdOf ByteArray.empty ((S ++ [last]).map bl) (wrap64 ((((S ++ [last]).map bl).length : Int) - 1))) ((rdOf ByteArray.empty ((S ++ [last]).map bl) (wrap64 ((((S ++ [last]).map bl).length : Int) - 1))).toList == ([46,46] : List UInt8)))) else (none)) else (none)) = if last = [46] then spec_Cleaned.j0 k ((S ++ [last]).map bl) (bl last) true else spec_Cleaned.j0 k ((S ++ [last]).map bl) (bl last) (last == [46,46]) := fun k => by
   rw [w1,if_pos (by omega),if_pos (by simp;omega),hrd,tl,L_bl]
  rw [← funext e] at hr;exact hr
 by_cases h1 : last = [46]
 ·
  exact ⟨_,base _ (Ev.pos h1 hjt),fun e => absurd e (by decide)⟩
 by_cases h2 : last = [46,46]
 ·
  exact ⟨_,base _ (Ev.neg h1 (by rw [h2] at hjt ⊢;exact hjt)),fun e => absurd e (by decide)⟩
 refine ⟨_,base _ (Ev.neg h1 (by rw [beq_eq_false_iff_ne.2 h2];exact hj)),fun _ => ?_⟩
 rw [hcl,Cl.finK,if_neg h2]
end Go.Proofs.Ytbkeakeldegkeaa.SpA
end
