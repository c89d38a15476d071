/- FnUriSays: the law's function, called with any arguments, returns true and leaves its arguments as they were: every input, no condition. Part 14 of 16. -/
import Derived.Test.YtbkeakeldegkeaaZFnUriSays1
import Derived.Test.YtbkeakeldegkeaaZFnUriSays8
import Derived.Test.YtbkeakeldegkeaaZFnUriSays9
import Derived.Test.YtbkeakeldegkeaaZFnUriSays10
import Derived.Test.YtbkeakeldegkeaaZFnUriSays12
set_option linter.unusedVariables false
set_option linter.unusedSimpArgs false
section
namespace Go.Proofs.Ytbkeakeldegkeaa.Q
open Go.RowKit Go.Proofs.YtbkeakeldegkeaaW.PrintWords Go.Proofs.YtbkeakeldegkeaaW.PrintLast Go.Proofs.YtbkeakeldegkeaaW.PrintMore
attribute [local go_sem] max2_int min2_int max_two min_two max_three min_three max_four min_four
mutual
def spec_UriOf.j0 : Nat → ByteArray → ByteArray → Bool → ByteArray → ByteArray → ByteArray → ByteArray → ByteArray → ByteArray → ByteArray → ByteArray → Option (ByteArray × ByteArray × ByteArray × ByteArray × ByteArray × ByteArray × ByteArray × ByteArray × Int)
 | 0,_,_,_,_,_,_,_,_,_,_,_ => none
 | k + 1,x0,x1,x20,x386000,x386001,x386002,x386003,x386004,x386005,x386006,x386007 => if x20 = true then (some (x386000,x386001,x386002,x386003,x386004,x386005,x386006,x386007,2)) else (if (x1.size : Int) > 0 then (if 0 < (x1.size : Int) then (if (bt x1 0) = 47 then (if (x1.size : Int) = 1 then (spec_UriOf.j1 k x0 x1 (x0.toList != ([] : List UInt8)) x386000 x386001 x386002 x386003 x386004 x386005 x386006 x386007) else (if 1 < (x1.size : Int) then (if (bt x1 1) = 47 then (spec_UriOf.j1 k x0 x1 false x386000 x386001 x386002 x386003 x386004 x386005 x386006 x386007) else (spec_UriOf.j1 k x0 x1 (x0.toList != ([] : List UInt8)) x386000 x386001 x386002 x386003 x386004 x386005 x386006 x386007)) else (none))) else (spec_UriOf.j1 k x0 x1 false x386000 x386001 x386002 x386003 x386004 x386005 x386006 x386007)) else (none)) else (spec_UriOf.j1 k x0 x1 false x386000 x386001 x386002 x386003 x386004 x386005 x386006 x386007))
def spec_UriOf.j1 : Nat → ByteArray → ByteArray → Bool → ByteArray → ByteArray → ByteArray → ByteArray → ByteArray → ByteArray → ByteArray → ByteArray → Option (ByteArray × ByteArray × ByteArray × ByteArray × ByteArray × ByteArray × ByteArray × ByteArray × Int)
 | 0,_,_,_,_,_,_,_,_,_,_,_ => none
 | k + 1,x0,x1,x43,x386000,x386001,x386002,x386003,x386004,x386005,x386006,x386007 => if x43 = true then ((spec_Uri_authority.f k x386000 x386001 x386002 x386003 x386004 x386005 x386006 x386007 x0).bind fun bt388 => (if bt388.2.2.2.2.2.2.2.2 = 1 then (if bt388.2.2.2.2.2.2.1.toList = ([] : List UInt8) then ((spec_schemeOf.f k x1).bind fun t398 => (if t398 ≥ 0 then (some (bt388.1,bt388.2.1,bt388.2.2.1,bt388.2.2.2.1,bt388.2.2.2.2.1,bt388.2.2.2.2.2.1,bt388.2.2.2.2.2.2.1,bt388.2.2.2.2.2.2.2.1,2)) else ((spec_indexOf.f k x1 58).bind fun t399 => (if t399 ≥ 0 then (some (bt388.1,bt388.2.1,bt388.2.2.1,bt388.2.2.2.1,bt388.2.2.2.2.1,bt388.2.2.2.2.2.1,bt388.2.2.2.2.2.2.1,bt388.2.2.2.2.2.2.2.1,2)) else ((spec_Uri_request.f k bt388.1 bt388.2.1 bt388.2.2.1 bt388.2.2.2.1 bt388.2.2.2.2.1 bt388.2.2.2.2.2.1 bt388.2.2.2.2.2.2.1 bt388.2.2.2.2.2.2.2.1 x1).bind fun bt400 => (some (bt400.1,bt400.2.1,bt400.2.2.1,bt400.2.2.2.1,bt400.2.2.2.2.1,bt400.2.2.2.2.2.1,bt400.2.2.2.2.2.2.1,bt400.2.2.2.2.2.2.2.1,bt400.2.2.2.2.2.2.2.2))))))) else (some (bt388.1,bt388.2.1,bt388.2.2.1,bt388.2.2.2.1,bt388.2.2.2.2.1,bt388.2.2.2.2.2.1,bt388.2.2.2.2.2.2.1,bt388.2.2.2.2.2.2.2.1,2))) else (some (bt388.1,bt388.2.1,bt388.2.2.1,bt388.2.2.2.1,bt388.2.2.2.2.1,bt388.2.2.2.2.2.1,bt388.2.2.2.2.2.2.1,bt388.2.2.2.2.2.2.2.1,2)))) else ((spec_schemeOf.f k x1).bind fun t409 => (if t409 < 0 then (some (x386000,x386001,x386002,x386003,x386004,x386005,x386006,x386007,2)) else (if 0 ≤ t409 then (if t409 ≤ (x1.size : Int) then ((spec_Lower.f (x1.extract 0 (t409 : Int).toNat)).bind fun t410 => (if 0 ≤ (wrap64 (t409 + 3)) then (if (wrap64 (t409 + 3)) ≤ (x1.size : Int) then ((spec_until.f k (x1.extract ((wrap64 (t409 + 3)) : Int).toNat x1.size)).bind fun t411 => (if 0 ≤ t411 then (if t411 ≤ ((x1.extract ((wrap64 (t409 + 3)) : Int).toNat x1.size).size : Int) then ((spec_Uri_authority.f k t410 x386001 x386002 x386003 x386004 x386005 x386006 x386007 ((x1.extract ((wrap64 (t409 + 3)) : Int).toNat x1.size).extract 0 (t411 : Int).toNat)).bind fun bt412 => (if bt412.2.2.2.2.2.2.2.2 = 1 then (if t411 = ((x1.extract ((wrap64 (t409 + 3)) : Int).toNat x1.size).size : Int) then (some (bt412.1,bt412.2.1,bt412.2.2.1,bt412.2.2.2.1,bt412.2.2.2.2.1,bt412.2.2.2.2.2.1,bt412.2.2.2.2.2.2.1,bt412.2.2.2.2.2.2.2.1,2)) else (if t411 < ((x1.extract ((wrap64 (t409 + 3)) : Int).toNat x1.size).size : Int) then (if (bt (x1.extract ((wrap64 (t409 + 3)) : Int).toNat x1.size) t411) = 47 then ((spec_Uri_request.f k bt412.1 bt412.2.1 bt412.2.2.1 bt412.2.2.2.1 bt412.2.2.2.2.1 bt412.2.2.2.2.2.1 bt412.2.2.2.2.2.2.1 bt412.2.2.2.2.2.2.2.1 ((x1.extract ((wrap64 (t409 + 3)) : Int).toNat x1.size).extract (t411 : Int).toNat (x1.extract ((wrap64 (t409 + 3)) : Int).toNat x1.size).size)).bind fun bt421 => (some (bt421.1,bt421.2.1,bt421.2.2.1,bt421.2.2.2.1,bt421.2.2.2.2.1,bt421.2.2.2.2.2.1,bt421.2.2.2.2.2.2.1,bt421.2.2.2.2.2.2.2.1,bt421.2.2.2.2.2.2.2.2))) else (some (bt412.1,bt412.2.1,bt412.2.2.1,bt412.2.2.2.1,bt412.2.2.2.2.1,bt412.2.2.2.2.2.1,bt412.2.2.2.2.2.2.1,bt412.2.2.2.2.2.2.2.1,2))) else (none))) else (some (bt412.1,bt412.2.1,bt412.2.2.1,bt412.2.2.2.1,bt412.2.2.2.2.1,bt412.2.2.2.2.2.1,bt412.2.2.2.2.2.2.1,bt412.2.2.2.2.2.2.2.1,2)))) else (none)) else (none))) else (none)) else (none))) else (none)) else (none))))
end
def spec_UriOf.f (k : Nat) (a0 : ByteArray) (a1 : ByteArray) : Option (ByteArray × ByteArray × ByteArray × ByteArray × ByteArray × ByteArray × ByteArray × ByteArray × Int) := (spec_fair.f k a1).bind fun t386 => (if t386 = true then ((spec_fair.f k a0).bind fun t387 => (spec_UriOf.j0 k a0 a1 (!t387) ⟨#[104,116,116,112]⟩ ⟨#[]⟩ ⟨#[]⟩ ⟨#[]⟩ ⟨#[]⟩ ⟨#[]⟩ ⟨#[]⟩ ⟨#[]⟩)) else (spec_UriOf.j0 k a0 a1 true ⟨#[104,116,116,112]⟩ ⟨#[]⟩ ⟨#[]⟩ ⟨#[]⟩ ⟨#[]⟩ ⟨#[]⟩ ⟨#[]⟩ ⟨#[]⟩))
def spec_UriOf.T15 : Bool × List (List Nat × List Nat) := (true,[([],[]),([],[]),([],[]),([1,2],[1,2]),([0,3],[0,3]),([4],[4]),([5],[5]),([5],[5]),([6,4,0,1,2,3,4,5,6],[6]),([7,8,0,1,2,3,4,5,6,7,8],[7])])
def spec_UriOf.B15 : List Nat := [0,0,0,6,15,31,63,63,127,511]
theorem spec_UriOf.tab15 : rtab .any (opsOf Try.f24 15) = spec_UriOf.T15 := by kernel_rfl
theorem spec_UriOf.bits15 : waitsOk spec_UriOf.T15.2 spec_UriOf.B15 = true := by kernel_rfl
def spec_UriOf.T18 : Bool × List (List Nat × List Nat) := (true,[([],[]),([],[]),([],[]),([1,2],[1,2]),([0,3],[0,3]),([4],[4]),([4],[4]),([5,4,0,1,2,3,4,5,6],[5]),([6,7,0,1,2,3,4,5,6,7],[6])])
def spec_UriOf.B18 : List Nat := [0,0,0,6,15,31,31,127,255]
theorem spec_UriOf.tab18 : rtab .any (opsOf Try.f24 18) = spec_UriOf.T18 := by kernel_rfl
theorem spec_UriOf.bits18 : waitsOk spec_UriOf.T18.2 spec_UriOf.B18 = true := by kernel_rfl
set_option maxHeartbeats 8000000 in
set_option maxRecDepth 100000 in
theorem spec_UriOf.calls (k : Nat) (a0 : ByteArray) (a1 : ByteArray) (r1 : ByteArray) (r2 : ByteArray) (r3 : ByteArray) (r4 : ByteArray) (r5 : ByteArray) (r6 : ByteArray) (r7 : ByteArray) (r8 : ByteArray) (r9 : Int) (w : World) (h : spec_UriOf.f k a0 a1 = some (r1,r2,r3,r4,r5,r6,r7,r8,r9)) :
 Calls Try.prog 24 #[.string a0,.string a1] w fun e w' => e = .returned (.tuple #[.agg #[.string r1,.string r2,.string r3,.string r4,.string r5,.string r6,.string r7,.string r8],.int .i64 r9]) ∧ Below w.heap.size w w' := by
 have hu37 := Try.underlying37
 have HB := Aside0.mk (Below.refl w.heap.size w)
 have H : ((spec_fair.f k a1).bind fun t386 => (if t386 = true then ((spec_fair.f k a0).bind fun t387 => (spec_UriOf.j0 k a0 a1 (!t387) ⟨#[104,116,116,112]⟩ ⟨#[]⟩ ⟨#[]⟩ ⟨#[]⟩ ⟨#[]⟩ ⟨#[]⟩ ⟨#[]⟩ ⟨#[]⟩)) else (spec_UriOf.j0 k a0 a1 true ⟨#[104,116,116,112]⟩ ⟨#[]⟩ ⟨#[]⟩ ⟨#[]⟩ ⟨#[]⟩ ⟨#[]⟩ ⟨#[]⟩ ⟨#[]⟩))) = some (r1,r2,r3,r4,r5,r6,r7,r8,r9) := h
 clear h
 have HC3 := Aside0.mk H
 clear H
 go_enter Try.func24,Try.ntmps24
 go_upto_region 2 with (first|((with_reducible refine gate_dst (N := 4) rfl ?_);(try (refine gate_guard (by rfl) ?_;dsimp only));refine box_event ?hg (N := 4) ?hd (cs := #[.string ⟨#[]⟩,.string ⟨#[]⟩,.string ⟨#[]⟩,.string ⟨#[]⟩,.string ⟨#[]⟩,.string ⟨#[]⟩,.string ⟨#[]⟩,.string ⟨#[]⟩]) (t := 37) ?hr ?_;(case hd => rfl);(case hg => rfl);(case hr => first|(go_simp;done)|(go_simp;rfl));intro gb384 hg w4 hbox hb;have n0_ := Aside0.mk (below_step (bl_ HB.out) hb);have n1_ := Aside0.mk (hbox);have n2_ := Aside0.mk ((by rw [hg];exact (below_size (bl_ HB.out)) : w.heap.size ≤ gb384));have n3_ := Aside0.mk ((by rw [hg];exact (below_size (bl_ HB.out)) : w.heap.size ≤ gb384));clear HB;have HB := n0_;have BK384 := n1_;have GW384 := n2_;have GE384 := n3_;clear n0_ n1_ n2_ n3_;clear hb hbox hg)|((with_reducible refine gate_dst (N := 6) rfl ?_);(try (refine gate_guard (by rfl) ?_;dsimp only));refine box_event ?hg (N := 6) ?hd (cs := #[.string ⟨#[]⟩,.string ⟨#[]⟩,.string ⟨#[]⟩,.string ⟨#[]⟩,.string ⟨#[]⟩,.string ⟨#[]⟩,.string ⟨#[]⟩,.string ⟨#[]⟩]) (t := 37) ?hr ?_;(case hd => rfl);(case hg => rfl);(case hr => first|(go_simp;done)|(go_simp;rfl));intro gb385 hg w5 hbox hb;have n0_ := Aside0.mk (blk_below (g := gb384) (bk_ BK384.out) hb);have n1_ := Aside0.mk (below_step (bl1_ HB.out GE384.out) hb);have n2_ := Aside0.mk (hbox);have n3_ := Aside0.mk ((by rw [hg];exact (below_size (bl1_ HB.out GE384.out)) : w.heap.size ≤ gb385));have n4_ := Aside0.mk ((by rw [hg];exact (below_size (bl1_ HB.out GE384.out)) : w.heap.size ≤ gb385));have n5_ := Aside0.mk ((by rw [hg];exact Nat.ne_of_lt (blk_lt (g := gb384) (bk_ BK384.out)) : gb384 ≠ gb385));have n6_ := Aside0.mk ((by rw [hg];exact Nat.ne_of_gt (blk_lt (g := gb384) (bk_ BK384.out)) : gb385 ≠ gb384));clear BK384;clear HB;have BK384 := n0_;have HB := n1_;have BK385 := n2_;have GW385 := n3_;have GE385 := n4_;have NB384_385 := n5_;have NB385_384 := n6_;clear n0_ n1_ n2_ n3_ n4_ n5_ n6_;clear hb hbox hg;have hnb6 := NB385_384.out;have hnc6 := NB384_385.out;have hcz7_0 : w5.cell? ⟨gb385,0,none⟩ = some (.string ⟨#[]⟩) := (blk_cell BK385.out 0).trans rfl;have hcz7_1 : w5.cell? ⟨gb385,1,none⟩ = some (.string ⟨#[]⟩) := (blk_cell BK385.out 1).trans rfl;have hcz7_2 : w5.cell? ⟨gb385,2,none⟩ = some (.string ⟨#[]⟩) := (blk_cell BK385.out 2).trans rfl;have hcz7_3 : w5.cell? ⟨gb385,3,none⟩ = some (.string ⟨#[]⟩) := (blk_cell BK385.out 3).trans rfl;have hcz7_4 : w5.cell? ⟨gb385,4,none⟩ = some (.string ⟨#[]⟩) := (blk_cell BK385.out 4).trans rfl;have hcz7_5 : w5.cell? ⟨gb385,5,none⟩ = some (.string ⟨#[]⟩) := (blk_cell BK385.out 5).trans rfl;have hcz7_6 : w5.cell? ⟨gb385,6,none⟩ = some (.string ⟨#[]⟩) := (blk_cell BK385.out 6).trans rfl;have hcz7_7 : w5.cell? ⟨gb385,7,none⟩ = some (.string ⟨#[]⟩) := (blk_cell BK385.out 7).trans rfl;have hfz7_0 := blk_frozen BK385.out 0;have hfz7_1 := blk_frozen BK385.out 1;have hfz7_2 := blk_frozen BK385.out 2;have hfz7_3 := blk_frozen BK385.out 3;have hfz7_4 := blk_frozen BK385.out 4;have hfz7_5 := blk_frozen BK385.out 5;have hfz7_6 := blk_frozen BK385.out 6;have hfz7_7 := blk_frozen BK385.out 7))
 (try simp only [Act.put,List.setIfInBounds_toArray,List.set_cons_zero,List.set_cons_succ])
 go_cut [20] (fun v20 wc => ∃ (kq : Nat) (x20_2 : Bool),v20 = .bool x20_2 ∧ Aside0 (spec_UriOf.j0 kq a0 a1 x20_2 ⟨#[104,116,116,112]⟩ ⟨#[]⟩ ⟨#[]⟩ ⟨#[]⟩ ⟨#[]⟩ ⟨#[]⟩ ⟨#[]⟩ ⟨#[]⟩ = some (r1,r2,r3,r4,r5,r6,r7,r8,r9)) ∧ Aside0 (kq ≤ k) ∧ Aside0 (wc.heap[gb384]? = some (.cells #[.string ⟨#[]⟩,.string ⟨#[]⟩,.string ⟨#[]⟩,.string ⟨#[]⟩,.string ⟨#[]⟩,.string ⟨#[]⟩,.string ⟨#[]⟩,.string ⟨#[]⟩] 37 (0,0))) ∧ Aside0 (wc.heap[gb385]? = some (.cells #[.string ⟨#[104,116,116,112]⟩,.string ⟨#[]⟩,.string ⟨#[]⟩,.string ⟨#[]⟩,.string ⟨#[]⟩,.string ⟨#[]⟩,.string ⟨#[]⟩,.string ⟨#[]⟩] 37 (0,0))) ∧ Aside0 (Below w.heap.size w wc))
 case first =>
  have H := HC3.out
  clear HC3
  replace H := Option.bind_eq_some_iff.mp H
  obtain ⟨t386,A80,H⟩ := H
  replace H : (if t386 = true then ((spec_fair.f k a0).bind fun t387 => (spec_UriOf.j0 k a0 a1 (!t387) ⟨#[104,116,116,112]⟩ ⟨#[]⟩ ⟨#[]⟩ ⟨#[]⟩ ⟨#[]⟩ ⟨#[]⟩ ⟨#[]⟩ ⟨#[]⟩)) else (spec_UriOf.j0 k a0 a1 true ⟨#[104,116,116,112]⟩ ⟨#[]⟩ ⟨#[]⟩ ⟨#[]⟩ ⟨#[]⟩ ⟨#[]⟩ ⟨#[]⟩ ⟨#[]⟩)) = some (r1,r2,r3,r4,r5,r6,r7,r8,r9) := H
  have A8 := Aside0.mk A80
  clear A80
  by_cases c9 : t386 = true
  ·
   subst c9
   have H1 : ((spec_fair.f k a0).bind fun t387 => (spec_UriOf.j0 k a0 a1 (!t387) ⟨#[104,116,116,112]⟩ ⟨#[]⟩ ⟨#[]⟩ ⟨#[]⟩ ⟨#[]⟩ ⟨#[]⟩ ⟨#[]⟩ ⟨#[]⟩)) = some (r1,r2,r3,r4,r5,r6,r7,r8,r9) := by rw [if_pos rfl] at H;exact H
   clear H
   have H := H1
   clear H1
   replace H := Option.bind_eq_some_iff.mp H
   obtain ⟨t387,A100,H⟩ := H
   replace H : (spec_UriOf.j0 k a0 a1 (!t387) ⟨#[104,116,116,112]⟩ ⟨#[]⟩ ⟨#[]⟩ ⟨#[]⟩ ⟨#[]⟩ ⟨#[]⟩ ⟨#[]⟩ ⟨#[]⟩) = some (r1,r2,r3,r4,r5,r6,r7,r8,r9) := H
   have A10 := Aside0.mk A100
   clear A100
   have H' := Aside0.mk H
   clear H
   go_wp2_with (first|((with_reducible refine gate_callee (f := 37) rfl ?_);refine goesL_ (some 14) rfl rfl Try.func37 (by kernel_rfl) rfl #[.string a1] rfl (by (try simp only [List.map_toArray,List.map_cons,List.map_nil]);first|done|rfl|(simp only [ByteArray.size_extract,Nat.min_self];first|done|rfl)|(simp only [List.length_drop,List.length_take];rfl)) ?_;(with_reducible refine (spec_fair.calls k a1 true _ A8.out).mono ?_);rintro e w' ⟨rfl,⟨nd,rfl⟩⟩;refine ⟨_,rfl,?_⟩)|(go_at_call 37;(with_reducible refine (spec_fair.calls k a0 t387 _ A10.out).mono ?_);rintro e w' ⟨rfl,⟨nd,rfl⟩⟩))
   go_meet
   case rel => exact ⟨_,(!t387),(rs_),H',⟨by first|omega|exact Nat.le_refl _⟩,⟨by (with_reducible repeat (first|apply q1|apply q2|apply q3));refine blk_far ?_ NB384_385.out _;(with_reducible repeat (first|apply q1|apply q2|apply q3));refine blk_far ?_ NB384_385.out _;(with_reducible repeat (first|apply q1|apply q2|apply q3));refine blk_far ?_ NB384_385.out _;(with_reducible repeat (first|apply q1|apply q2|apply q3));refine blk_far ?_ NB384_385.out _;(with_reducible repeat (first|apply q1|apply q2|apply q3));refine blk_far ?_ NB384_385.out _;(with_reducible repeat (first|apply q1|apply q2|apply q3));refine blk_far ?_ NB384_385.out _;(with_reducible repeat (first|apply q1|apply q2|apply q3));refine blk_far ?_ NB384_385.out _;(with_reducible repeat (first|apply q1|apply q2|apply q3));refine blk_far ?_ NB384_385.out _;(with_reducible repeat (first|apply q1|apply q2|apply q3));exact BK384.out⟩,⟨by (with_reducible repeat (first|apply q1|apply q2|apply q3));refine blk_put (cs := #[.string ⟨#[104,116,116,112]⟩,.string ⟨#[]⟩,.string ⟨#[]⟩,.string ⟨#[]⟩,.string ⟨#[]⟩,.string ⟨#[]⟩,.string ⟨#[]⟩,.string ⟨#[]⟩]) ?_ 7 _ rfl;(with_reducible repeat (first|apply q1|apply q2|apply q3));refine blk_put (cs := #[.string ⟨#[104,116,116,112]⟩,.string ⟨#[]⟩,.string ⟨#[]⟩,.string ⟨#[]⟩,.string ⟨#[]⟩,.string ⟨#[]⟩,.string ⟨#[]⟩,.string ⟨#[]⟩]) ?_ 6 _ rfl;(with_reducible repeat (first|apply q1|apply q2|apply q3));refine blk_put (cs := #[.string ⟨#[104,116,116,112]⟩,.string ⟨#[]⟩,.string ⟨#[]⟩,.string ⟨#[]⟩,.string ⟨#[]⟩,.string ⟨#[]⟩,.string ⟨#[]⟩,.string ⟨#[]⟩]) ?_ 5 _ rfl;(with_reducible repeat (first|apply q1|apply q2|apply q3));refine blk_put (cs := #[.string ⟨#[104,116,116,112]⟩,.string ⟨#[]⟩,.string ⟨#[]⟩,.string ⟨#[]⟩,.string ⟨#[]⟩,.string ⟨#[]⟩,.string ⟨#[]⟩,.string ⟨#[]⟩]) ?_ 4 _ rfl;(with_reducible repeat (first|apply q1|apply q2|apply q3));refine blk_put (cs := #[.string ⟨#[104,116,116,112]⟩,.string ⟨#[]⟩,.string ⟨#[]⟩,.string ⟨#[]⟩,.string ⟨#[]⟩,.string ⟨#[]⟩,.string ⟨#[]⟩,.string ⟨#[]⟩]) ?_ 3 _ rfl;(with_reducible repeat (first|apply q1|apply q2|apply q3));refine blk_put (cs := #[.string ⟨#[104,116,116,112]⟩,.string ⟨#[]⟩,.string ⟨#[]⟩,.string ⟨#[]⟩,.string ⟨#[]⟩,.string ⟨#[]⟩,.string ⟨#[]⟩,.string ⟨#[]⟩]) ?_ 2 _ rfl;(with_reducible repeat (first|apply q1|apply q2|apply q3));refine blk_put (cs := #[.string ⟨#[104,116,116,112]⟩,.string ⟨#[]⟩,.string ⟨#[]⟩,.string ⟨#[]⟩,.string ⟨#[]⟩,.string ⟨#[]⟩,.string ⟨#[]⟩,.string ⟨#[]⟩]) ?_ 1 _ rfl;(with_reducible repeat (first|apply q1|apply q2|apply q3));refine blk_put (cs := #[.string ⟨#[]⟩,.string ⟨#[]⟩,.string ⟨#[]⟩,.string ⟨#[]⟩,.string ⟨#[]⟩,.string ⟨#[]⟩,.string ⟨#[]⟩,.string ⟨#[]⟩]) ?_ 0 _ rfl;(with_reducible repeat (first|apply q1|apply q2|apply q3));exact BK385.out⟩,⟨bl2_ HB.out GE384.out GE385.out⟩⟩
  replace c9 := Bool.eq_false_iff.mpr c9
  subst c9
  have H1 : (spec_UriOf.j0 k a0 a1 true ⟨#[104,116,116,112]⟩ ⟨#[]⟩ ⟨#[]⟩ ⟨#[]⟩ ⟨#[]⟩ ⟨#[]⟩ ⟨#[]⟩ ⟨#[]⟩) = some (r1,r2,r3,r4,r5,r6,r7,r8,r9) := by rw [if_neg (show ¬ (false = true) by decide)] at H;exact H
  clear H
  have H := H1
  clear H1
  have H' := Aside0.mk H
  clear H
  go_wp2_with (first|((with_reducible refine gate_callee (f := 37) rfl ?_);refine goesL_ (some 14) rfl rfl Try.func37 (by kernel_rfl) rfl #[.string a1] rfl (by (try simp only [List.map_toArray,List.map_cons,List.map_nil]);first|done|rfl|(simp only [ByteArray.size_extract,Nat.min_self];first|done|rfl)|(simp only [List.length_drop,List.length_take];rfl)) ?_;(with_reducible refine (spec_fair.calls k a1 false _ A8.out).mono ?_);rintro e w' ⟨rfl,⟨nd,rfl⟩⟩;refine ⟨_,rfl,?_⟩))
  go_meet
  case rel => exact ⟨_,(true),(rs_),H',⟨by first|omega|exact Nat.le_refl _⟩,⟨by (with_reducible repeat (first|apply q1|apply q2|apply q3));refine blk_far ?_ NB384_385.out _;(with_reducible repeat (first|apply q1|apply q2|apply q3));refine blk_far ?_ NB384_385.out _;(with_reducible repeat (first|apply q1|apply q2|apply q3));refine blk_far ?_ NB384_385.out _;(with_reducible repeat (first|apply q1|apply q2|apply q3));refine blk_far ?_ NB384_385.out _;(with_reducible repeat (first|apply q1|apply q2|apply q3));refine blk_far ?_ NB384_385.out _;(with_reducible repeat (first|apply q1|apply q2|apply q3));refine blk_far ?_ NB384_385.out _;(with_reducible repeat (first|apply q1|apply q2|apply q3));refine blk_far ?_ NB384_385.out _;(with_reducible repeat (first|apply q1|apply q2|apply q3));refine blk_far ?_ NB384_385.out _;(with_reducible repeat (first|apply q1|apply q2|apply q3));exact BK384.out⟩,⟨by (with_reducible repeat (first|apply q1|apply q2|apply q3));refine blk_put (cs := #[.string ⟨#[104,116,116,112]⟩,.string ⟨#[]⟩,.string ⟨#[]⟩,.string ⟨#[]⟩,.string ⟨#[]⟩,.string ⟨#[]⟩,.string ⟨#[]⟩,.string ⟨#[]⟩]) ?_ 7 _ rfl;(with_reducible repeat (first|apply q1|apply q2|apply q3));refine blk_put (cs := #[.string ⟨#[104,116,116,112]⟩,.string ⟨#[]⟩,.string ⟨#[]⟩,.string ⟨#[]⟩,.string ⟨#[]⟩,.string ⟨#[]⟩,.string ⟨#[]⟩,.string ⟨#[]⟩]) ?_ 6 _ rfl;(with_reducible repeat (first|apply q1|apply q2|apply q3));refine blk_put (cs := #[.string ⟨#[104,116,116,112]⟩,.string ⟨#[]⟩,.string ⟨#[]⟩,.string ⟨#[]⟩,.string ⟨#[]⟩,.string ⟨#[]⟩,.string ⟨#[]⟩,.string ⟨#[]⟩]) ?_ 5 _ rfl;(with_reducible repeat (first|apply q1|apply q2|apply q3));refine blk_put (cs := #[.string ⟨#[104,116,116,112]⟩,.string ⟨#[]⟩,.string ⟨#[]⟩,.string ⟨#[]⟩,.string ⟨#[]⟩,.string ⟨#[]⟩,.string ⟨#[]⟩,.string ⟨#[]⟩]) ?_ 4 _ rfl;(with_reducible repeat (first|apply q1|apply q2|apply q3));refine blk_put (cs := #[.string ⟨#[104,116,116,112]⟩,.string ⟨#[]⟩,.string ⟨#[]⟩,.string ⟨#[]⟩,.string ⟨#[]⟩,.string ⟨#[]⟩,.string ⟨#[]⟩,.string ⟨#[]⟩]) ?_ 3 _ rfl;(with_reducible repeat (first|apply q1|apply q2|apply q3));refine blk_put (cs := #[.string ⟨#[104,116,116,112]⟩,.string ⟨#[]⟩,.string ⟨#[]⟩,.string ⟨#[]⟩,.string ⟨#[]⟩,.string ⟨#[]⟩,.string ⟨#[]⟩,.string ⟨#[]⟩]) ?_ 2 _ rfl;(with_reducible repeat (first|apply q1|apply q2|apply q3));refine blk_put (cs := #[.string ⟨#[104,116,116,112]⟩,.string ⟨#[]⟩,.string ⟨#[]⟩,.string ⟨#[]⟩,.string ⟨#[]⟩,.string ⟨#[]⟩,.string ⟨#[]⟩,.string ⟨#[]⟩]) ?_ 1 _ rfl;(with_reducible repeat (first|apply q1|apply q2|apply q3));refine blk_put (cs := #[.string ⟨#[]⟩,.string ⟨#[]⟩,.string ⟨#[]⟩,.string ⟨#[]⟩,.string ⟨#[]⟩,.string ⟨#[]⟩,.string ⟨#[]⟩,.string ⟨#[]⟩]) ?_ 0 _ rfl;(with_reducible repeat (first|apply q1|apply q2|apply q3));exact BK385.out⟩,⟨bl2_ HB.out GE384.out GE385.out⟩⟩
 case rest =>
  clear HC3
  try clear c2
  try clear p2
  try clear c3
  try clear c6
  try clear c9
  try clear hcz7_0
  try clear hcz7_1
  try clear hcz7_2
  try clear hcz7_3
  try clear hcz7_4
  try clear hcz7_5
  try clear hcz7_6
  try clear hcz7_7
  try clear hfz7_0
  try clear hfz7_1
  try clear hfz7_2
  try clear hfz7_3
  try clear hfz7_4
  try clear hfz7_5
  try clear hfz7_6
  try clear hfz7_7
  obtain ⟨kq,x20_2,rfl,HA,HJ2,BK384,BK385,HB⟩ := hcut
  cases kq with
  | zero => exact absurd HA.out (by simp [spec_UriOf.j0])
  | succ kj2 =>
   have H := HA.out
   clear HA
   simp only [spec_UriOf.j0] at H
   by_cases c11 : x20_2 = true
   ·
    subst c11
    have H1 : (some (⟨#[104,116,116,112]⟩,⟨#[]⟩,⟨#[]⟩,⟨#[]⟩,⟨#[]⟩,⟨#[]⟩,⟨#[]⟩,⟨#[]⟩,2)) = some (r1,r2,r3,r4,r5,r6,r7,r8,r9) := by rw [if_pos rfl] at H;exact H
    clear H
    have H := H1
    clear H1
    simp only [Option.some.injEq,Prod.mk.injEq] at H
    obtain ⟨rfl,rfl,rfl,rfl,rfl,rfl,rfl,rfl,rfl⟩ := H
    have hnb12 := NB385_384.out
    have hnc12 := NB384_385.out
    have hcz13_0 : wc.cell? ⟨gb385,0,none⟩ = some (.string ⟨#[104,116,116,112]⟩) := (blk_cell BK385.out 0).trans rfl
    have hcz13_1 : wc.cell? ⟨gb385,1,none⟩ = some (.string ⟨#[]⟩) := (blk_cell BK385.out 1).trans rfl
    have hcz13_2 : wc.cell? ⟨gb385,2,none⟩ = some (.string ⟨#[]⟩) := (blk_cell BK385.out 2).trans rfl
    have hcz13_3 : wc.cell? ⟨gb385,3,none⟩ = some (.string ⟨#[]⟩) := (blk_cell BK385.out 3).trans rfl
    have hcz13_4 : wc.cell? ⟨gb385,4,none⟩ = some (.string ⟨#[]⟩) := (blk_cell BK385.out 4).trans rfl
    have hcz13_5 : wc.cell? ⟨gb385,5,none⟩ = some (.string ⟨#[]⟩) := (blk_cell BK385.out 5).trans rfl
    have hcz13_6 : wc.cell? ⟨gb385,6,none⟩ = some (.string ⟨#[]⟩) := (blk_cell BK385.out 6).trans rfl
    have hcz13_7 : wc.cell? ⟨gb385,7,none⟩ = some (.string ⟨#[]⟩) := (blk_cell BK385.out 7).trans rfl
    have hfz13_0 := blk_frozen BK385.out 0
    have hfz13_1 := blk_frozen BK385.out 1
    have hfz13_2 := blk_frozen BK385.out 2
    have hfz13_3 := blk_frozen BK385.out 3
    have hfz13_4 := blk_frozen BK385.out 4
    have hfz13_5 := blk_frozen BK385.out 5
    have hfz13_6 := blk_frozen BK385.out 6
    have hfz13_7 := blk_frozen BK385.out 7
    have hcz14_0 : wc.cell? ⟨gb384,0,none⟩ = some (.string ⟨#[]⟩) := (blk_cell BK384.out 0).trans rfl
    have hcz14_1 : wc.cell? ⟨gb384,1,none⟩ = some (.string ⟨#[]⟩) := (blk_cell BK384.out 1).trans rfl
    have hcz14_2 : wc.cell? ⟨gb384,2,none⟩ = some (.string ⟨#[]⟩) := (blk_cell BK384.out 2).trans rfl
    have hcz14_3 : wc.cell? ⟨gb384,3,none⟩ = some (.string ⟨#[]⟩) := (blk_cell BK384.out 3).trans rfl
    have hcz14_4 : wc.cell? ⟨gb384,4,none⟩ = some (.string ⟨#[]⟩) := (blk_cell BK384.out 4).trans rfl
    have hcz14_5 : wc.cell? ⟨gb384,5,none⟩ = some (.string ⟨#[]⟩) := (blk_cell BK384.out 5).trans rfl
    have hcz14_6 : wc.cell? ⟨gb384,6,none⟩ = some (.string ⟨#[]⟩) := (blk_cell BK384.out 6).trans rfl
    have hcz14_7 : wc.cell? ⟨gb384,7,none⟩ = some (.string ⟨#[]⟩) := (blk_cell BK384.out 7).trans rfl
    have hfz14_0 := blk_frozen BK384.out 0
    have hfz14_1 := blk_frozen BK384.out 1
    have hfz14_2 := blk_frozen BK384.out 2
    have hfz14_3 := blk_frozen BK384.out 3
    have hfz14_4 := blk_frozen BK384.out 4
    have hfz14_5 := blk_frozen BK384.out 5
    have hfz14_6 := blk_frozen BK384.out 6
    have hfz14_7 := blk_frozen BK384.out 7
    go_wp2
    refine bodyPost_ret (results_ct rfl _ _ gb384 37 #[.string ⟨#[104,116,116,112]⟩,.string ⟨#[]⟩,.string ⟨#[]⟩,.string ⟨#[]⟩,.string ⟨#[]⟩,.string ⟨#[]⟩,.string ⟨#[]⟩,.string ⟨#[]⟩] (0,0) _ rfl (by (with_reducible repeat (first|apply q1|apply q2|apply q3));refine blk_put (cs := #[.string ⟨#[104,116,116,112]⟩,.string ⟨#[]⟩,.string ⟨#[]⟩,.string ⟨#[]⟩,.string ⟨#[]⟩,.string ⟨#[]⟩,.string ⟨#[]⟩,.string ⟨#[]⟩]) ?_ 7 _ rfl;(with_reducible repeat (first|apply q1|apply q2|apply q3));refine blk_put (cs := #[.string ⟨#[104,116,116,112]⟩,.string ⟨#[]⟩,.string ⟨#[]⟩,.string ⟨#[]⟩,.string ⟨#[]⟩,.string ⟨#[]⟩,.string ⟨#[]⟩,.string ⟨#[]⟩]) ?_ 6 _ rfl;(with_reducible repeat (first|apply q1|apply q2|apply q3));refine blk_put (cs := #[.string ⟨#[104,116,116,112]⟩,.string ⟨#[]⟩,.string ⟨#[]⟩,.string ⟨#[]⟩,.string ⟨#[]⟩,.string ⟨#[]⟩,.string ⟨#[]⟩,.string ⟨#[]⟩]) ?_ 5 _ rfl;(with_reducible repeat (first|apply q1|apply q2|apply q3));refine blk_put (cs := #[.string ⟨#[104,116,116,112]⟩,.string ⟨#[]⟩,.string ⟨#[]⟩,.string ⟨#[]⟩,.string ⟨#[]⟩,.string ⟨#[]⟩,.string ⟨#[]⟩,.string ⟨#[]⟩]) ?_ 4 _ rfl;(with_reducible repeat (first|apply q1|apply q2|apply q3));refine blk_put (cs := #[.string ⟨#[104,116,116,112]⟩,.string ⟨#[]⟩,.string ⟨#[]⟩,.string ⟨#[]⟩,.string ⟨#[]⟩,.string ⟨#[]⟩,.string ⟨#[]⟩,.string ⟨#[]⟩]) ?_ 3 _ rfl;(with_reducible repeat (first|apply q1|apply q2|apply q3));refine blk_put (cs := #[.string ⟨#[104,116,116,112]⟩,.string ⟨#[]⟩,.string ⟨#[]⟩,.string ⟨#[]⟩,.string ⟨#[]⟩,.string ⟨#[]⟩,.string ⟨#[]⟩,.string ⟨#[]⟩]) ?_ 2 _ rfl;(with_reducible repeat (first|apply q1|apply q2|apply q3));refine blk_put (cs := #[.string ⟨#[104,116,116,112]⟩,.string ⟨#[]⟩,.string ⟨#[]⟩,.string ⟨#[]⟩,.string ⟨#[]⟩,.string ⟨#[]⟩,.string ⟨#[]⟩,.string ⟨#[]⟩]) ?_ 1 _ rfl;(with_reducible repeat (first|apply q1|apply q2|apply q3));refine blk_put (cs := #[.string ⟨#[]⟩,.string ⟨#[]⟩,.string ⟨#[]⟩,.string ⟨#[]⟩,.string ⟨#[]⟩,.string ⟨#[]⟩,.string ⟨#[]⟩,.string ⟨#[]⟩]) ?_ 0 _ rfl;(with_reducible repeat (first|apply q1|apply q2|apply q3));exact BK384.out) Try.underlying37 rfl (by kernel_rfl)) rfl ?_
    exact ⟨by first|rfl|(simp [errW_none,errW_some] <;> rfl)|(simp [*,errW_none,errW_some] <;> rfl),bl2_ HB.out GE384.out GE385.out⟩
   replace c11 := Bool.eq_false_iff.mpr c11
   subst c11
   have H1 : (if (a1.size : Int) > 0 then (if 0 < (a1.size : Int) then (if (bt a1 0) = 47 then (if (a1.size : Int) = 1 then (spec_UriOf.j1 kj2 a0 a1 (a0.toList != ([] : List UInt8)) ⟨#[104,116,116,112]⟩ ⟨#[]⟩ ⟨#[]⟩ ⟨#[]⟩ ⟨#[]⟩ ⟨#[]⟩ ⟨#[]⟩ ⟨#[]⟩) else (if 1 < (a1.size : Int) then (if (bt a1 1) = 47 then (spec_UriOf.j1 kj2 a0 a1 false ⟨#[104,116,116,112]⟩ ⟨#[]⟩ ⟨#[]⟩ ⟨#[]⟩ ⟨#[]⟩ ⟨#[]⟩ ⟨#[]⟩ ⟨#[]⟩) else (spec_UriOf.j1 kj2 a0 a1 (a0.toList != ([] : List UInt8)) ⟨#[104,116,116,112]⟩ ⟨#[]⟩ ⟨#[]⟩ ⟨#[]⟩ ⟨#[]⟩ ⟨#[]⟩ ⟨#[]⟩ ⟨#[]⟩)) else (none))) else (spec_UriOf.j1 kj2 a0 a1 false ⟨#[104,116,116,112]⟩ ⟨#[]⟩ ⟨#[]⟩ ⟨#[]⟩ ⟨#[]⟩ ⟨#[]⟩ ⟨#[]⟩ ⟨#[]⟩)) else (none)) else (spec_UriOf.j1 kj2 a0 a1 false ⟨#[104,116,116,112]⟩ ⟨#[]⟩ ⟨#[]⟩ ⟨#[]⟩ ⟨#[]⟩ ⟨#[]⟩ ⟨#[]⟩ ⟨#[]⟩)) = some (r1,r2,r3,r4,r5,r6,r7,r8,r9) := by rw [if_neg (show ¬ (false = true) by decide)] at H;exact H
   clear H
   have H := H1
   clear H1
   have HC15 := Aside0.mk H
   clear H
   go_upto_region 4 with (fail)
   go_cut [43] (fun v43 wc => ∃ (kq : Nat) (x43_14 : Bool),v43 = .bool x43_14 ∧ Aside0 (spec_UriOf.j1 kq a0 a1 x43_14 ⟨#[104,116,116,112]⟩ ⟨#[]⟩ ⟨#[]⟩ ⟨#[]⟩ ⟨#[]⟩ ⟨#[]⟩ ⟨#[]⟩ ⟨#[]⟩ = some (r1,r2,r3,r4,r5,r6,r7,r8,r9)) ∧ Aside0 (kq ≤ kj2) ∧ Aside0 (wc.heap[gb384]? = some (.cells #[.string ⟨#[]⟩,.string ⟨#[]⟩,.string ⟨#[]⟩,.string ⟨#[]⟩,.string ⟨#[]⟩,.string ⟨#[]⟩,.string ⟨#[]⟩,.string ⟨#[]⟩] 37 (0,0))) ∧ Aside0 (wc.heap[gb385]? = some (.cells #[.string ⟨#[104,116,116,112]⟩,.string ⟨#[]⟩,.string ⟨#[]⟩,.string ⟨#[]⟩,.string ⟨#[]⟩,.string ⟨#[]⟩,.string ⟨#[]⟩,.string ⟨#[]⟩] 37 (0,0))) ∧ Aside0 (Below w.heap.size w wc))
   case first =>
    have H := HC15.out
    clear HC15
    by_cases c16 : (a1.size : Int) > 0
    ·
     rw [if_pos c16] at H
     have c16b0 : decide (0 < (a1.size : Int)) = true := decide_eq_true c16
     have c16b1 : decide (0 < a1.size) = true := decide_eq_true (by omega)
     clear c16
     (first|rw [c16b0]|(simp only [i64_w,i32_w];rw [c16b0])|(rw [YtbkeakeldegkeaaX.isEmpty_eq];rw [c16b0])|skip)
     by_cases c17 : 0 < (a1.size : Int)
     ·
      rw [if_pos c17] at H
      have c17b0 : decide (0 < (a1.size : Int)) = true := decide_eq_true c17
      have c17b1 : decide (0 < a1.size) = true := decide_eq_true (by omega)
      clear c17
      by_cases c19 : (bt a1 0) = 47
      ·
       rw [if_pos c19] at H
       have c19b0 : ((bt a1 0) == 47) = true := beq_iff_eq.mpr c19
       have c19b1 : ((bt a1 0) != 47) = false := bne_eq_false_iff_eq.mpr c19
       clear c19
       by_cases c20 : (a1.size : Int) = 1
       ·
        rw [if_pos c20] at H
        have c20b0 : ((a1.size : Int) == 1) = true := beq_iff_eq.mpr c20
        have c20b1 : ((a1.size : Int) != 1) = false := bne_eq_false_iff_eq.mpr c20
        clear c20
        have H' := Aside0.mk H
        clear H
        have p18 : 0 ≤ (0 : Int) := (by omega)
        have q18 : 0 < a1.size := (by have : (0 : Int) < (a1.size : Int) := odt_;omega)
        have hx18 : ∀ h : 0 < a1.size,((a1[0]'h).toNat : Int) = bt a1 0 := bt_at a1 0
        clear p18
        have qi18 : (0 < (a1.size : Int)) = True := eq_true (odt_)
        replace q18 := eq_true q18
        go_wp2
        go_meet
        case rel => exact ⟨_,((a0.toList != ([] : List UInt8))),(rs_),H',⟨by have := HJ2.out;first|omega|exact Nat.le_refl _⟩,⟨by (with_reducible repeat (first|apply q1|apply q2|apply q3));exact BK384.out⟩,⟨by (with_reducible repeat (first|apply q1|apply q2|apply q3));exact BK385.out⟩,⟨bl2_ HB.out GE384.out GE385.out⟩⟩
       rw [if_neg c20] at H
       have c20b0 : ((a1.size : Int) == 1) = false := beq_eq_false_iff_ne.mpr c20
       have c20b1 : ((a1.size : Int) != 1) = true := bne_iff_ne.mpr c20
       by_cases c21 : 1 < (a1.size : Int)
       ·
        rw [if_pos c21] at H
        have c21b0 : decide (1 < (a1.size : Int)) = true := decide_eq_true c21
        have c21b1 : decide (1 < a1.size) = true := decide_eq_true (by omega)
        clear c21
        by_cases c23 : (bt a1 1) = 47
        ·
         rw [if_pos c23] at H
         have c23b0 : ((bt a1 1) == 47) = true := beq_iff_eq.mpr c23
         have c23b1 : ((bt a1 1) != 47) = false := bne_eq_false_iff_eq.mpr c23
         clear c23
         have H' := Aside0.mk H
         clear H
         have p18 : 0 ≤ (0 : Int) := (by omega)
         have q18 : 0 < a1.size := (by have : (0 : Int) < (a1.size : Int) := odt_;omega)
         have hx18 : ∀ h : 0 < a1.size,((a1[0]'h).toNat : Int) = bt a1 0 := bt_at a1 0
         clear p18
         have qi18 : (0 < (a1.size : Int)) = True := eq_true (odt_)
         replace q18 := eq_true q18
         have p22 : 0 ≤ (1 : Int) := (by omega)
         have q22 : 1 < a1.size := (by have : (1 : Int) < (a1.size : Int) := odt_;omega)
         have hx22 : ∀ h : 1 < a1.size,((a1[1]'h).toNat : Int) = bt a1 1 := bt_at a1 1
         clear p22
         have qi22 : (1 < (a1.size : Int)) = True := eq_true (odt_)
         replace q22 := eq_true q22
         go_wp2
         go_meet
         case rel => exact ⟨_,(false),(rs_),H',⟨by have := HJ2.out;first|omega|exact Nat.le_refl _⟩,⟨by (with_reducible repeat (first|apply q1|apply q2|apply q3));exact BK384.out⟩,⟨by (with_reducible repeat (first|apply q1|apply q2|apply q3));exact BK385.out⟩,⟨bl2_ HB.out GE384.out GE385.out⟩⟩
        rw [if_neg c23] at H
        have c23b0 : ((bt a1 1) == 47) = false := beq_eq_false_iff_ne.mpr c23
        have c23b1 : ((bt a1 1) != 47) = true := bne_iff_ne.mpr c23
        have H' := Aside0.mk H
        clear H
        have p18 : 0 ≤ (0 : Int) := (by omega)
        have q18 : 0 < a1.size := (by have : (0 : Int) < (a1.size : Int) := odt_;omega)
        have hx18 : ∀ h : 0 < a1.size,((a1[0]'h).toNat : Int) = bt a1 0 := bt_at a1 0
        clear p18
        have qi18 : (0 < (a1.size : Int)) = True := eq_true (odt_)
        replace q18 := eq_true q18
        have p22 : 0 ≤ (1 : Int) := (by omega)
        have q22 : 1 < a1.size := (by have : (1 : Int) < (a1.size : Int) := odt_;omega)
        have hx22 : ∀ h : 1 < a1.size,((a1[1]'h).toNat : Int) = bt a1 1 := bt_at a1 1
        clear p22
        have qi22 : (1 < (a1.size : Int)) = True := eq_true (odt_)
        replace q22 := eq_true q22
        go_wp2
        go_meet
        case rel => exact ⟨_,((a0.toList != ([] : List UInt8))),(rs_),H',⟨by have := HJ2.out;first|omega|exact Nat.le_refl _⟩,⟨by (with_reducible repeat (first|apply q1|apply q2|apply q3));exact BK384.out⟩,⟨by (with_reducible repeat (first|apply q1|apply q2|apply q3));exact BK385.out⟩,⟨bl2_ HB.out GE384.out GE385.out⟩⟩
       rw [if_neg c21] at H
       exact absurd H (by simp)
      rw [if_neg c19] at H
      have c19b0 : ((bt a1 0) == 47) = false := beq_eq_false_iff_ne.mpr c19
      have c19b1 : ((bt a1 0) != 47) = true := bne_iff_ne.mpr c19
      have H' := Aside0.mk H
      clear H
      have p18 : 0 ≤ (0 : Int) := (by omega)
      have q18 : 0 < a1.size := (by have : (0 : Int) < (a1.size : Int) := odt_;omega)
      have hx18 : ∀ h : 0 < a1.size,((a1[0]'h).toNat : Int) = bt a1 0 := bt_at a1 0
      clear p18
      have qi18 : (0 < (a1.size : Int)) = True := eq_true (odt_)
      replace q18 := eq_true q18
      go_wp2
      go_meet
      case rel => exact ⟨_,(false),(rs_),H',⟨by have := HJ2.out;first|omega|exact Nat.le_refl _⟩,⟨by (with_reducible repeat (first|apply q1|apply q2|apply q3));exact BK384.out⟩,⟨by (with_reducible repeat (first|apply q1|apply q2|apply q3));exact BK385.out⟩,⟨bl2_ HB.out GE384.out GE385.out⟩⟩
     rw [if_neg c17] at H
     exact absurd H (by simp)
    rw [if_neg c16] at H
    have c16b0 : decide (0 < (a1.size : Int)) = false := decide_eq_false c16
    have c16b1 : decide (0 < a1.size) = false := decide_eq_false (by omega)
    clear c16
    (first|rw [c16b0]|(simp only [i64_w,i32_w];rw [c16b0])|(rw [YtbkeakeldegkeaaX.isEmpty_eq];rw [c16b0])|skip)
    have H' := Aside0.mk H
    clear H
    go_wp2
    go_meet
    case rel => exact ⟨_,(false),(rs_),H',⟨by have := HJ2.out;first|omega|exact Nat.le_refl _⟩,⟨by (with_reducible repeat (first|apply q1|apply q2|apply q3));exact BK384.out⟩,⟨by (with_reducible repeat (first|apply q1|apply q2|apply q3));exact BK385.out⟩,⟨bl2_ HB.out GE384.out GE385.out⟩⟩
   case rest =>
    clear HC15
    try clear c1
    try clear p1
    try clear q1
    try clear hx1
    try clear qi1
    try clear c2
    try clear p2
    try clear q2
    try clear hx2
    try clear qi2
    try clear c3
    try clear c6
    try clear c9
    try clear c11
    try clear c12
    try clear c16
    try clear c16b0
    try clear c16b1
    try clear c17
    try clear c17b0
    try clear c17b1
    try clear p18
    try clear q18
    try clear hx18
    try clear qi18
    try clear c19
    try clear c19b0
    try clear c19b1
    try clear c20
    try clear c20b0
    try clear c20b1
    try clear c21
    try clear c21b0
    try clear c21b1
    try clear p22
    try clear q22
    try clear hx22
    try clear qi22
    try clear c23
    try clear c23b0
    try clear c23b1
    try clear hcz13_0
    try clear hcz13_1
    try clear hcz13_2
    try clear hcz13_3
    try clear hcz13_4
    try clear hcz13_5
    try clear hcz13_6
    try clear hcz13_7
    try clear hcz14_0
    try clear hcz14_1
    try clear hcz14_2
    try clear hcz14_3
    try clear hcz14_4
    try clear hcz14_5
    try clear hcz14_6
    try clear hcz14_7
    try clear hcz7_0
    try clear hcz7_1
    try clear hcz7_2
    try clear hcz7_3
    try clear hcz7_4
    try clear hcz7_5
    try clear hcz7_6
    try clear hcz7_7
    try clear hfz13_0
    try clear hfz13_1
    try clear hfz13_2
    try clear hfz13_3
    try clear hfz13_4
    try clear hfz13_5
    try clear hfz13_6
    try clear hfz13_7
    try clear hfz14_0
    try clear hfz14_1
    try clear hfz14_2
    try clear hfz14_3
    try clear hfz14_4
    try clear hfz14_5
    try clear hfz14_6
    try clear hfz14_7
    try clear hfz7_0
    try clear hfz7_1
    try clear hfz7_2
    try clear hfz7_3
    try clear hfz7_4
    try clear hfz7_5
    try clear hfz7_6
    try clear hfz7_7
    try clear p18
    try clear p2
    try clear p22
    try clear q18
    try clear q22
    obtain ⟨kq,x43_14,rfl,HA,HJ14,BK384,BK385,HB⟩ := hcut
    cases kq with
    | zero => exact absurd HA.out (by simp [spec_UriOf.j1])
    | succ kj14 =>
     have H := HA.out
     clear HA
     simp only [spec_UriOf.j1] at H
     by_cases c24 : x43_14 = true
     ·
      subst c24
      have H1 : ((spec_Uri_authority.f kj14 ⟨#[104,116,116,112]⟩ ⟨#[]⟩ ⟨#[]⟩ ⟨#[]⟩ ⟨#[]⟩ ⟨#[]⟩ ⟨#[]⟩ ⟨#[]⟩ a0).bind fun bt388 => (if bt388.2.2.2.2.2.2.2.2 = 1 then (if bt388.2.2.2.2.2.2.1.toList = ([] : List UInt8) then ((spec_schemeOf.f kj14 a1).bind fun t398 => (if t398 ≥ 0 then (some (bt388.1,bt388.2.1,bt388.2.2.1,bt388.2.2.2.1,bt388.2.2.2.2.1,bt388.2.2.2.2.2.1,bt388.2.2.2.2.2.2.1,bt388.2.2.2.2.2.2.2.1,2)) else ((spec_indexOf.f kj14 a1 58).bind fun t399 => (if t399 ≥ 0 then (some (bt388.1,bt388.2.1,bt388.2.2.1,bt388.2.2.2.1,bt388.2.2.2.2.1,bt388.2.2.2.2.2.1,bt388.2.2.2.2.2.2.1,bt388.2.2.2.2.2.2.2.1,2)) else ((spec_Uri_request.f kj14 bt388.1 bt388.2.1 bt388.2.2.1 bt388.2.2.2.1 bt388.2.2.2.2.1 bt388.2.2.2.2.2.1 bt388.2.2.2.2.2.2.1 bt388.2.2.2.2.2.2.2.1 a1).bind fun bt400 => (some (bt400.1,bt400.2.1,bt400.2.2.1,bt400.2.2.2.1,bt400.2.2.2.2.1,bt400.2.2.2.2.2.1,bt400.2.2.2.2.2.2.1,bt400.2.2.2.2.2.2.2.1,bt400.2.2.2.2.2.2.2.2))))))) else (some (bt388.1,bt388.2.1,bt388.2.2.1,bt388.2.2.2.1,bt388.2.2.2.2.1,bt388.2.2.2.2.2.1,bt388.2.2.2.2.2.2.1,bt388.2.2.2.2.2.2.2.1,2))) else (some (bt388.1,bt388.2.1,bt388.2.2.1,bt388.2.2.2.1,bt388.2.2.2.2.1,bt388.2.2.2.2.2.1,bt388.2.2.2.2.2.2.1,bt388.2.2.2.2.2.2.2.1,2)))) = some (r1,r2,r3,r4,r5,r6,r7,r8,r9) := by rw [if_pos rfl] at H;exact H
      clear H
      have H := H1
      clear H1
      replace H := Option.bind_eq_some_iff.mp H
      obtain ⟨⟨t388,t389,t390,t391,t392,t393,t394,t395,t396⟩,A250,H⟩ := H
      replace H : (if t396 = 1 then (if t394.toList = ([] : List UInt8) then ((spec_schemeOf.f kj14 a1).bind fun t398 => (if t398 ≥ 0 then (some (t388,t389,t390,t391,t392,t393,t394,t395,2)) else ((spec_indexOf.f kj14 a1 58).bind fun t399 => (if t399 ≥ 0 then (some (t388,t389,t390,t391,t392,t393,t394,t395,2)) else ((spec_Uri_request.f kj14 t388 t389 t390 t391 t392 t393 t394 t395 a1).bind fun bt400 => (some (bt400.1,bt400.2.1,bt400.2.2.1,bt400.2.2.2.1,bt400.2.2.2.2.1,bt400.2.2.2.2.2.1,bt400.2.2.2.2.2.2.1,bt400.2.2.2.2.2.2.2.1,bt400.2.2.2.2.2.2.2.2))))))) else (some (t388,t389,t390,t391,t392,t393,t394,t395,2))) else (some (t388,t389,t390,t391,t392,t393,t394,t395,2))) = some (r1,r2,r3,r4,r5,r6,r7,r8,r9) := H
      have A25 := Aside0.mk A250
      clear A250
      by_cases c26 : t396 = 1
      ·
       rw [if_pos c26] at H
       have c26b0 : (t396 == 1) = true := beq_iff_eq.mpr c26
       have c26b1 : (t396 != 1) = false := bne_eq_false_iff_eq.mpr c26
       clear c26
       by_cases c27 : t394.toList = ([] : List UInt8)
       ·
        rw [if_pos c27] at H
        have c27b0 : (t394.toList == ([] : List UInt8)) = true := beq_iff_eq.mpr c27
        have c27b1 : (t394.toList != ([] : List UInt8)) = false := bne_eq_false_iff_eq.mpr c27
        clear c27
        replace H := Option.bind_eq_some_iff.mp H
        obtain ⟨t398,A280,H⟩ := H
        replace H : (if t398 ≥ 0 then (some (t388,t389,t390,t391,t392,t393,t394,t395,2)) else ((spec_indexOf.f kj14 a1 58).bind fun t399 => (if t399 ≥ 0 then (some (t388,t389,t390,t391,t392,t393,t394,t395,2)) else ((spec_Uri_request.f kj14 t388 t389 t390 t391 t392 t393 t394 t395 a1).bind fun bt400 => (some (bt400.1,bt400.2.1,bt400.2.2.1,bt400.2.2.2.1,bt400.2.2.2.2.1,bt400.2.2.2.2.2.1,bt400.2.2.2.2.2.2.1,bt400.2.2.2.2.2.2.2.1,bt400.2.2.2.2.2.2.2.2)))))) = some (r1,r2,r3,r4,r5,r6,r7,r8,r9) := H
        have A28 := Aside0.mk A280
        clear A280
        by_cases c29 : t398 ≥ 0
        ·
         rw [if_pos c29] at H
         have c29b0 : decide (0 ≤ t398) = true := decide_eq_true c29
         clear c29
         simp only [Option.some.injEq,Prod.mk.injEq] at H
         obtain ⟨rfl,rfl,rfl,rfl,rfl,rfl,rfl,rfl,rfl⟩ := H
         have hnb30 := NB385_384.out
         have hnc30 := NB384_385.out
         have hcz31_0 : wc.cell? ⟨gb385,0,none⟩ = some (.string ⟨#[104,116,116,112]⟩) := (blk_cell BK385.out 0).trans rfl
         have hcz31_1 : wc.cell? ⟨gb385,1,none⟩ = some (.string ⟨#[]⟩) := (blk_cell BK385.out 1).trans rfl
         have hcz31_2 : wc.cell? ⟨gb385,2,none⟩ = some (.string ⟨#[]⟩) := (blk_cell BK385.out 2).trans rfl
         have hcz31_3 : wc.cell? ⟨gb385,3,none⟩ = some (.string ⟨#[]⟩) := (blk_cell BK385.out 3).trans rfl
         have hcz31_4 : wc.cell? ⟨gb385,4,none⟩ = some (.string ⟨#[]⟩) := (blk_cell BK385.out 4).trans rfl
         have hcz31_5 : wc.cell? ⟨gb385,5,none⟩ = some (.string ⟨#[]⟩) := (blk_cell BK385.out 5).trans rfl
         have hcz31_6 : wc.cell? ⟨gb385,6,none⟩ = some (.string ⟨#[]⟩) := (blk_cell BK385.out 6).trans rfl
         have hcz31_7 : wc.cell? ⟨gb385,7,none⟩ = some (.string ⟨#[]⟩) := (blk_cell BK385.out 7).trans rfl
         have hfz31_0 := blk_frozen BK385.out 0
         have hfz31_1 := blk_frozen BK385.out 1
         have hfz31_2 := blk_frozen BK385.out 2
         have hfz31_3 := blk_frozen BK385.out 3
         have hfz31_4 := blk_frozen BK385.out 4
         have hfz31_5 := blk_frozen BK385.out 5
         have hfz31_6 := blk_frozen BK385.out 6
         have hfz31_7 := blk_frozen BK385.out 7
         go_wp2_with (first|((with_reducible refine gate_callee (f := 38) rfl ?_);refine goesL_ (some 47) rfl rfl Try.func38 (by kernel_rfl) rfl #[.agg #[.string ⟨#[104,116,116,112]⟩,.string ⟨#[]⟩,.string ⟨#[]⟩,.string ⟨#[]⟩,.string ⟨#[]⟩,.string ⟨#[]⟩,.string ⟨#[]⟩,.string ⟨#[]⟩],.string a0] rfl (by (try simp only [List.map_toArray,List.map_cons,List.map_nil]);first|done|rfl|(simp only [ByteArray.size_extract,Nat.min_self];first|done|rfl)|(simp only [List.length_drop,List.length_take];rfl)) ?_;(with_reducible refine (spec_Uri_authority.calls kj14 ⟨#[104,116,116,112]⟩ ⟨#[]⟩ ⟨#[]⟩ ⟨#[]⟩ ⟨#[]⟩ ⟨#[]⟩ ⟨#[]⟩ ⟨#[]⟩ a0 t388 t389 t390 t391 t392 t393 t394 t395 t396 _ A25.out).mono ?_);rintro e w32 ⟨rfl,hb⟩;refine ⟨_,rfl,?_⟩;have n0_ := Aside0.mk (blk_below (g := gb384) (bk_ BK384.out) hb);have n1_ := Aside0.mk (blk_below (g := gb385) (bk_ BK385.out) hb);have n2_ := Aside0.mk (below_step (bl2_ HB.out GE384.out GE385.out) hb);clear BK384;clear BK385;clear HB;have BK384 := n0_;have BK385 := n1_;have HB := n2_;clear n0_ n1_ n2_;(try clear hb);(try clear hb2);(try clear hk);(try clear hi))|((with_reducible refine gate_dst (N := 7) rfl ?_);(try (refine gate_guard (by rfl) ?_;dsimp only));refine box_event ?hg (N := 7) ?hd (cs := #[.string ⟨#[]⟩,.string ⟨#[]⟩,.string ⟨#[]⟩,.string ⟨#[]⟩,.string ⟨#[]⟩,.string ⟨#[]⟩,.string ⟨#[]⟩,.string ⟨#[]⟩]) (t := 37) ?hr ?_;(case hd => rfl);(case hg => rfl);(case hr => first|(go_simp;done)|(go_simp;rfl));intro gb397 hg w33 hbox hb;have n0_ := Aside0.mk (blk_below (g := gb384) (bk_ BK384.out) hb);have n1_ := Aside0.mk (blk_below (g := gb385) (bk_ BK385.out) hb);have n2_ := Aside0.mk (below_step (bl2_ HB.out GE384.out GE385.out) hb);have n3_ := Aside0.mk (hbox);have n4_ := Aside0.mk ((by rw [hg];exact (below_size (bl2_ HB.out GE384.out GE385.out)) : w.heap.size ≤ gb397));have n5_ := Aside0.mk ((by rw [hg];exact (below_size (bl2_ HB.out GE384.out GE385.out)) : w.heap.size ≤ gb397));have n6_ := Aside0.mk ((by rw [hg];exact Nat.ne_of_lt (blk_lt (g := gb384) (bk_ BK384.out)) : gb384 ≠ gb397));have n7_ := Aside0.mk ((by rw [hg];exact Nat.ne_of_gt (blk_lt (g := gb384) (bk_ BK384.out)) : gb397 ≠ gb384));have n8_ := Aside0.mk ((by rw [hg];exact Nat.ne_of_lt (blk_lt (g := gb385) (bk_ BK385.out)) : gb385 ≠ gb397));have n9_ := Aside0.mk ((by rw [hg];exact Nat.ne_of_gt (blk_lt (g := gb385) (bk_ BK385.out)) : gb397 ≠ gb385));clear BK384;clear BK385;clear HB;have BK384 := n0_;have BK385 := n1_;have HB := n2_;have BK397 := n3_;have GW397 := n4_;have GE397 := n5_;have NB384_397 := n6_;have NB397_384 := n7_;have NB385_397 := n8_;have NB397_385 := n9_;clear n0_ n1_ n2_ n3_ n4_ n5_ n6_ n7_ n8_ n9_;clear hb hbox hg;have hnb34 := NB397_384.out;have hnc34 := NB384_397.out;have hnb35 := NB397_385.out;have hnc35 := NB385_397.out;have hcz36_0 : w33.cell? ⟨gb397,0,none⟩ = some (.string ⟨#[]⟩) := (blk_cell BK397.out 0).trans rfl;have hcz36_1 : w33.cell? ⟨gb397,1,none⟩ = some (.string ⟨#[]⟩) := (blk_cell BK397.out 1).trans rfl;have hcz36_2 : w33.cell? ⟨gb397,2,none⟩ = some (.string ⟨#[]⟩) := (blk_cell BK397.out 2).trans rfl;have hcz36_3 : w33.cell? ⟨gb397,3,none⟩ = some (.string ⟨#[]⟩) := (blk_cell BK397.out 3).trans rfl;have hcz36_4 : w33.cell? ⟨gb397,4,none⟩ = some (.string ⟨#[]⟩) := (blk_cell BK397.out 4).trans rfl;have hcz36_5 : w33.cell? ⟨gb397,5,none⟩ = some (.string ⟨#[]⟩) := (blk_cell BK397.out 5).trans rfl;have hcz36_6 : w33.cell? ⟨gb397,6,none⟩ = some (.string ⟨#[]⟩) := (blk_cell BK397.out 6).trans rfl;have hcz36_7 : w33.cell? ⟨gb397,7,none⟩ = some (.string ⟨#[]⟩) := (blk_cell BK397.out 7).trans rfl;have hfz36_0 := blk_frozen BK397.out 0;have hfz36_1 := blk_frozen BK397.out 1;have hfz36_2 := blk_frozen BK397.out 2;have hfz36_3 := blk_frozen BK397.out 3;have hfz36_4 := blk_frozen BK397.out 4;have hfz36_5 := blk_frozen BK397.out 5;have hfz36_6 := blk_frozen BK397.out 6;have hfz36_7 := blk_frozen BK397.out 7)|(go_at_call 39;(with_reducible refine (spec_schemeOf.calls kj14 a1 t398 _ A28.out).mono ?_);rintro e w' ⟨rfl,⟨nd,rfl⟩⟩;have hcz37_0 : w33.cell? ⟨gb384,0,none⟩ = some (.string ⟨#[]⟩) := (blk_cell BK384.out 0).trans rfl;have hcz37_1 : w33.cell? ⟨gb384,1,none⟩ = some (.string ⟨#[]⟩) := (blk_cell BK384.out 1).trans rfl;have hcz37_2 : w33.cell? ⟨gb384,2,none⟩ = some (.string ⟨#[]⟩) := (blk_cell BK384.out 2).trans rfl;have hcz37_3 : w33.cell? ⟨gb384,3,none⟩ = some (.string ⟨#[]⟩) := (blk_cell BK384.out 3).trans rfl;have hcz37_4 : w33.cell? ⟨gb384,4,none⟩ = some (.string ⟨#[]⟩) := (blk_cell BK384.out 4).trans rfl;have hcz37_5 : w33.cell? ⟨gb384,5,none⟩ = some (.string ⟨#[]⟩) := (blk_cell BK384.out 5).trans rfl;have hcz37_6 : w33.cell? ⟨gb384,6,none⟩ = some (.string ⟨#[]⟩) := (blk_cell BK384.out 6).trans rfl;have hcz37_7 : w33.cell? ⟨gb384,7,none⟩ = some (.string ⟨#[]⟩) := (blk_cell BK384.out 7).trans rfl;have hfz37_0 := blk_frozen BK384.out 0;have hfz37_1 := blk_frozen BK384.out 1;have hfz37_2 := blk_frozen BK384.out 2;have hfz37_3 := blk_frozen BK384.out 3;have hfz37_4 := blk_frozen BK384.out 4;have hfz37_5 := blk_frozen BK384.out 5;have hfz37_6 := blk_frozen BK384.out 6;have hfz37_7 := blk_frozen BK384.out 7))
         refine bodyPost_ret (results_ct rfl _ _ gb384 37 #[.string t388,.string t389,.string t390,.string t391,.string t392,.string t393,.string t394,.string t395] (0,0) _ rfl (by (with_reducible repeat (first|apply q1|apply q2|apply q3));refine blk_put (cs := #[.string t388,.string t389,.string t390,.string t391,.string t392,.string t393,.string t394,.string ⟨#[]⟩]) ?_ 7 _ rfl;(with_reducible repeat (first|apply q1|apply q2|apply q3));refine blk_put (cs := #[.string t388,.string t389,.string t390,.string t391,.string t392,.string t393,.string ⟨#[]⟩,.string ⟨#[]⟩]) ?_ 6 _ rfl;(with_reducible repeat (first|apply q1|apply q2|apply q3));refine blk_put (cs := #[.string t388,.string t389,.string t390,.string t391,.string t392,.string ⟨#[]⟩,.string ⟨#[]⟩,.string ⟨#[]⟩]) ?_ 5 _ rfl;(with_reducible repeat (first|apply q1|apply q2|apply q3));refine blk_put (cs := #[.string t388,.string t389,.string t390,.string t391,.string ⟨#[]⟩,.string ⟨#[]⟩,.string ⟨#[]⟩,.string ⟨#[]⟩]) ?_ 4 _ rfl;(with_reducible repeat (first|apply q1|apply q2|apply q3));refine blk_put (cs := #[.string t388,.string t389,.string t390,.string ⟨#[]⟩,.string ⟨#[]⟩,.string ⟨#[]⟩,.string ⟨#[]⟩,.string ⟨#[]⟩]) ?_ 3 _ rfl;(with_reducible repeat (first|apply q1|apply q2|apply q3));refine blk_put (cs := #[.string t388,.string t389,.string ⟨#[]⟩,.string ⟨#[]⟩,.string ⟨#[]⟩,.string ⟨#[]⟩,.string ⟨#[]⟩,.string ⟨#[]⟩]) ?_ 2 _ rfl;(with_reducible repeat (first|apply q1|apply q2|apply q3));refine blk_put (cs := #[.string t388,.string ⟨#[]⟩,.string ⟨#[]⟩,.string ⟨#[]⟩,.string ⟨#[]⟩,.string ⟨#[]⟩,.string ⟨#[]⟩,.string ⟨#[]⟩]) ?_ 1 _ rfl;(with_reducible repeat (first|apply q1|apply q2|apply q3));refine blk_put (cs := #[.string ⟨#[]⟩,.string ⟨#[]⟩,.string ⟨#[]⟩,.string ⟨#[]⟩,.string ⟨#[]⟩,.string ⟨#[]⟩,.string ⟨#[]⟩,.string ⟨#[]⟩]) ?_ 0 _ rfl;(with_reducible repeat (first|apply q1|apply q2|apply q3));refine blk_far ?_ NB384_397.out _;(with_reducible repeat (first|apply q1|apply q2|apply q3));refine blk_far ?_ NB384_397.out _;(with_reducible repeat (first|apply q1|apply q2|apply q3));refine blk_far ?_ NB384_397.out _;(with_reducible repeat (first|apply q1|apply q2|apply q3));refine blk_far ?_ NB384_397.out _;(with_reducible repeat (first|apply q1|apply q2|apply q3));refine blk_far ?_ NB384_397.out _;(with_reducible repeat (first|apply q1|apply q2|apply q3));refine blk_far ?_ NB384_397.out _;(with_reducible repeat (first|apply q1|apply q2|apply q3));refine blk_far ?_ NB384_397.out _;(with_reducible repeat (first|apply q1|apply q2|apply q3));refine blk_far ?_ NB384_397.out _;(with_reducible repeat (first|apply q1|apply q2|apply q3));exact BK384.out) Try.underlying37 rfl (by kernel_rfl)) rfl ?_
         exact ⟨by first|rfl|(simp [errW_none,errW_some] <;> rfl)|(simp [*,errW_none,errW_some] <;> rfl),by repeat (first|(with_reducible first|exact HB.out|apply below_alloc|apply pw_below_drewN|apply below_drew1|refine below_set ?_ GE384.out|refine below_set ?_ GE385.out|refine below_set ?_ GE397.out)|exact HB.out)⟩
        rw [if_neg c29] at H
        have c29b0 : decide (0 ≤ t398) = false := decide_eq_false c29
        clear c29
        replace H := Option.bind_eq_some_iff.mp H
        obtain ⟨t399,A380,H⟩ := H
        replace H : (if t399 ≥ 0 then (some (t388,t389,t390,t391,t392,t393,t394,t395,2)) else ((spec_Uri_request.f kj14 t388 t389 t390 t391 t392 t393 t394 t395 a1).bind fun bt400 => (some (bt400.1,bt400.2.1,bt400.2.2.1,bt400.2.2.2.1,bt400.2.2.2.2.1,bt400.2.2.2.2.2.1,bt400.2.2.2.2.2.2.1,bt400.2.2.2.2.2.2.2.1,bt400.2.2.2.2.2.2.2.2)))) = some (r1,r2,r3,r4,r5,r6,r7,r8,r9) := H
        have A38 := Aside0.mk A380
        clear A380
        by_cases c39 : t399 ≥ 0
        ·
         rw [if_pos c39] at H
         have c39b0 : decide (0 ≤ t399) = true := decide_eq_true c39
         clear c39
         simp only [Option.some.injEq,Prod.mk.injEq] at H
         obtain ⟨rfl,rfl,rfl,rfl,rfl,rfl,rfl,rfl,rfl⟩ := H
         have hnb40 := NB385_384.out
         have hnc40 := NB384_385.out
         have hcz41_0 : wc.cell? ⟨gb385,0,none⟩ = some (.string ⟨#[104,116,116,112]⟩) := (blk_cell BK385.out 0).trans rfl
         have hcz41_1 : wc.cell? ⟨gb385,1,none⟩ = some (.string ⟨#[]⟩) := (blk_cell BK385.out 1).trans rfl
         have hcz41_2 : wc.cell? ⟨gb385,2,none⟩ = some (.string ⟨#[]⟩) := (blk_cell BK385.out 2).trans rfl
         have hcz41_3 : wc.cell? ⟨gb385,3,none⟩ = some (.string ⟨#[]⟩) := (blk_cell BK385.out 3).trans rfl
         have hcz41_4 : wc.cell? ⟨gb385,4,none⟩ = some (.string ⟨#[]⟩) := (blk_cell BK385.out 4).trans rfl
         have hcz41_5 : wc.cell? ⟨gb385,5,none⟩ = some (.string ⟨#[]⟩) := (blk_cell BK385.out 5).trans rfl
         have hcz41_6 : wc.cell? ⟨gb385,6,none⟩ = some (.string ⟨#[]⟩) := (blk_cell BK385.out 6).trans rfl
         have hcz41_7 : wc.cell? ⟨gb385,7,none⟩ = some (.string ⟨#[]⟩) := (blk_cell BK385.out 7).trans rfl
         have hfz41_0 := blk_frozen BK385.out 0
         have hfz41_1 := blk_frozen BK385.out 1
         have hfz41_2 := blk_frozen BK385.out 2
         have hfz41_3 := blk_frozen BK385.out 3
         have hfz41_4 := blk_frozen BK385.out 4
         have hfz41_5 := blk_frozen BK385.out 5
         have hfz41_6 := blk_frozen BK385.out 6
         have hfz41_7 := blk_frozen BK385.out 7
         go_wp2_with (first|((with_reducible refine gate_callee (f := 38) rfl ?_);refine goesL_ (some 47) rfl rfl Try.func38 (by kernel_rfl) rfl #[.agg #[.string ⟨#[104,116,116,112]⟩,.string ⟨#[]⟩,.string ⟨#[]⟩,.string ⟨#[]⟩,.string ⟨#[]⟩,.string ⟨#[]⟩,.string ⟨#[]⟩,.string ⟨#[]⟩],.string a0] rfl (by (try simp only [List.map_toArray,List.map_cons,List.map_nil]);first|done|rfl|(simp only [ByteArray.size_extract,Nat.min_self];first|done|rfl)|(simp only [List.length_drop,List.length_take];rfl)) ?_;(with_reducible refine (spec_Uri_authority.calls kj14 ⟨#[104,116,116,112]⟩ ⟨#[]⟩ ⟨#[]⟩ ⟨#[]⟩ ⟨#[]⟩ ⟨#[]⟩ ⟨#[]⟩ ⟨#[]⟩ a0 t388 t389 t390 t391 t392 t393 t394 t395 t396 _ A25.out).mono ?_);rintro e w42 ⟨rfl,hb⟩;refine ⟨_,rfl,?_⟩;have n0_ := Aside0.mk (blk_below (g := gb384) (bk_ BK384.out) hb);have n1_ := Aside0.mk (blk_below (g := gb385) (bk_ BK385.out) hb);have n2_ := Aside0.mk (below_step (bl2_ HB.out GE384.out GE385.out) hb);clear BK384;clear BK385;clear HB;have BK384 := n0_;have BK385 := n1_;have HB := n2_;clear n0_ n1_ n2_;(try clear hb);(try clear hb2);(try clear hk);(try clear hi))|((with_reducible refine gate_dst (N := 7) rfl ?_);(try (refine gate_guard (by rfl) ?_;dsimp only));refine box_event ?hg (N := 7) ?hd (cs := #[.string ⟨#[]⟩,.string ⟨#[]⟩,.string ⟨#[]⟩,.string ⟨#[]⟩,.string ⟨#[]⟩,.string ⟨#[]⟩,.string ⟨#[]⟩,.string ⟨#[]⟩]) (t := 37) ?hr ?_;(case hd => rfl);(case hg => rfl);(case hr => first|(go_simp;done)|(go_simp;rfl));intro gb397 hg w43 hbox hb;have n0_ := Aside0.mk (blk_below (g := gb384) (bk_ BK384.out) hb);have n1_ := Aside0.mk (blk_below (g := gb385) (bk_ BK385.out) hb);have n2_ := Aside0.mk (below_step (bl2_ HB.out GE384.out GE385.out) hb);have n3_ := Aside0.mk (hbox);have n4_ := Aside0.mk ((by rw [hg];exact (below_size (bl2_ HB.out GE384.out GE385.out)) : w.heap.size ≤ gb397));have n5_ := Aside0.mk ((by rw [hg];exact (below_size (bl2_ HB.out GE384.out GE385.out)) : w.heap.size ≤ gb397));have n6_ := Aside0.mk ((by rw [hg];exact Nat.ne_of_lt (blk_lt (g := gb384) (bk_ BK384.out)) : gb384 ≠ gb397));have n7_ := Aside0.mk ((by rw [hg];exact Nat.ne_of_gt (blk_lt (g := gb384) (bk_ BK384.out)) : gb397 ≠ gb384));have n8_ := Aside0.mk ((by rw [hg];exact Nat.ne_of_lt (blk_lt (g := gb385) (bk_ BK385.out)) : gb385 ≠ gb397));have n9_ := Aside0.mk ((by rw [hg];exact Nat.ne_of_gt (blk_lt (g := gb385) (bk_ BK385.out)) : gb397 ≠ gb385));clear BK384;clear BK385;clear HB;have BK384 := n0_;have BK385 := n1_;have HB := n2_;have BK397 := n3_;have GW397 := n4_;have GE397 := n5_;have NB384_397 := n6_;have NB397_384 := n7_;have NB385_397 := n8_;have NB397_385 := n9_;clear n0_ n1_ n2_ n3_ n4_ n5_ n6_ n7_ n8_ n9_;clear hb hbox hg;have hnb44 := NB397_384.out;have hnc44 := NB384_397.out;have hnb45 := NB397_385.out;have hnc45 := NB385_397.out;have hcz46_0 : w43.cell? ⟨gb397,0,none⟩ = some (.string ⟨#[]⟩) := (blk_cell BK397.out 0).trans rfl;have hcz46_1 : w43.cell? ⟨gb397,1,none⟩ = some (.string ⟨#[]⟩) := (blk_cell BK397.out 1).trans rfl;have hcz46_2 : w43.cell? ⟨gb397,2,none⟩ = some (.string ⟨#[]⟩) := (blk_cell BK397.out 2).trans rfl;have hcz46_3 : w43.cell? ⟨gb397,3,none⟩ = some (.string ⟨#[]⟩) := (blk_cell BK397.out 3).trans rfl;have hcz46_4 : w43.cell? ⟨gb397,4,none⟩ = some (.string ⟨#[]⟩) := (blk_cell BK397.out 4).trans rfl;have hcz46_5 : w43.cell? ⟨gb397,5,none⟩ = some (.string ⟨#[]⟩) := (blk_cell BK397.out 5).trans rfl;have hcz46_6 : w43.cell? ⟨gb397,6,none⟩ = some (.string ⟨#[]⟩) := (blk_cell BK397.out 6).trans rfl;have hcz46_7 : w43.cell? ⟨gb397,7,none⟩ = some (.string ⟨#[]⟩) := (blk_cell BK397.out 7).trans rfl;have hfz46_0 := blk_frozen BK397.out 0;have hfz46_1 := blk_frozen BK397.out 1;have hfz46_2 := blk_frozen BK397.out 2;have hfz46_3 := blk_frozen BK397.out 3;have hfz46_4 := blk_frozen BK397.out 4;have hfz46_5 := blk_frozen BK397.out 5;have hfz46_6 := blk_frozen BK397.out 6;have hfz46_7 := blk_frozen BK397.out 7)|(go_at_call 39;(with_reducible refine (spec_schemeOf.calls kj14 a1 t398 _ A28.out).mono ?_);rintro e w' ⟨rfl,⟨nd,rfl⟩⟩)|(go_at_call 40;(with_reducible refine (spec_indexOf.calls kj14 a1 58 t399 _ A38.out).mono ?_);rintro e w' ⟨rfl,⟨nd,rfl⟩⟩;have hcz47_0 : w43.cell? ⟨gb384,0,none⟩ = some (.string ⟨#[]⟩) := (blk_cell BK384.out 0).trans rfl;have hcz47_1 : w43.cell? ⟨gb384,1,none⟩ = some (.string ⟨#[]⟩) := (blk_cell BK384.out 1).trans rfl;have hcz47_2 : w43.cell? ⟨gb384,2,none⟩ = some (.string ⟨#[]⟩) := (blk_cell BK384.out 2).trans rfl;have hcz47_3 : w43.cell? ⟨gb384,3,none⟩ = some (.string ⟨#[]⟩) := (blk_cell BK384.out 3).trans rfl;have hcz47_4 : w43.cell? ⟨gb384,4,none⟩ = some (.string ⟨#[]⟩) := (blk_cell BK384.out 4).trans rfl;have hcz47_5 : w43.cell? ⟨gb384,5,none⟩ = some (.string ⟨#[]⟩) := (blk_cell BK384.out 5).trans rfl;have hcz47_6 : w43.cell? ⟨gb384,6,none⟩ = some (.string ⟨#[]⟩) := (blk_cell BK384.out 6).trans rfl;have hcz47_7 : w43.cell? ⟨gb384,7,none⟩ = some (.string ⟨#[]⟩) := (blk_cell BK384.out 7).trans rfl;have hfz47_0 := blk_frozen BK384.out 0;have hfz47_1 := blk_frozen BK384.out 1;have hfz47_2 := blk_frozen BK384.out 2;have hfz47_3 := blk_frozen BK384.out 3;have hfz47_4 := blk_frozen BK384.out 4;have hfz47_5 := blk_frozen BK384.out 5;have hfz47_6 := blk_frozen BK384.out 6;have hfz47_7 := blk_frozen BK384.out 7))
         refine bodyPost_ret (results_ct rfl _ _ gb384 37 #[.string t388,.string t389,.string t390,.string t391,.string t392,.string t393,.string t394,.string t395] (0,0) _ rfl (by (with_reducible repeat (first|apply q1|apply q2|apply q3));refine blk_put (cs := #[.string t388,.string t389,.string t390,.string t391,.string t392,.string t393,.string t394,.string ⟨#[]⟩]) ?_ 7 _ rfl;(with_reducible repeat (first|apply q1|apply q2|apply q3));refine blk_put (cs := #[.string t388,.string t389,.string t390,.string t391,.string t392,.string t393,.string ⟨#[]⟩,.string ⟨#[]⟩]) ?_ 6 _ rfl;(with_reducible repeat (first|apply q1|apply q2|apply q3));refine blk_put (cs := #[.string t388,.string t389,.string t390,.string t391,.string t392,.string ⟨#[]⟩,.string ⟨#[]⟩,.string ⟨#[]⟩]) ?_ 5 _ rfl;(with_reducible repeat (first|apply q1|apply q2|apply q3));refine blk_put (cs := #[.string t388,.string t389,.string t390,.string t391,.string ⟨#[]⟩,.string ⟨#[]⟩,.string ⟨#[]⟩,.string ⟨#[]⟩]) ?_ 4 _ rfl;(with_reducible repeat (first|apply q1|apply q2|apply q3));refine blk_put (cs := #[.string t388,.string t389,.string t390,.string ⟨#[]⟩,.string ⟨#[]⟩,.string ⟨#[]⟩,.string ⟨#[]⟩,.string ⟨#[]⟩]) ?_ 3 _ rfl;(with_reducible repeat (first|apply q1|apply q2|apply q3));refine blk_put (cs := #[.string t388,.string t389,.string ⟨#[]⟩,.string ⟨#[]⟩,.string ⟨#[]⟩,.string ⟨#[]⟩,.string ⟨#[]⟩,.string ⟨#[]⟩]) ?_ 2 _ rfl;(with_reducible repeat (first|apply q1|apply q2|apply q3));refine blk_put (cs := #[.string t388,.string ⟨#[]⟩,.string ⟨#[]⟩,.string ⟨#[]⟩,.string ⟨#[]⟩,.string ⟨#[]⟩,.string ⟨#[]⟩,.string ⟨#[]⟩]) ?_ 1 _ rfl;(with_reducible repeat (first|apply q1|apply q2|apply q3));refine blk_put (cs := #[.string ⟨#[]⟩,.string ⟨#[]⟩,.string ⟨#[]⟩,.string ⟨#[]⟩,.string ⟨#[]⟩,.string ⟨#[]⟩,.string ⟨#[]⟩,.string ⟨#[]⟩]) ?_ 0 _ rfl;(with_reducible repeat (first|apply q1|apply q2|apply q3));refine blk_far ?_ NB384_397.out _;(with_reducible repeat (first|apply q1|apply q2|apply q3));refine blk_far ?_ NB384_397.out _;(with_reducible repeat (first|apply q1|apply q2|apply q3));refine blk_far ?_ NB384_397.out _;(with_reducible repeat (first|apply q1|apply q2|apply q3));refine blk_far ?_ NB384_397.out _;(with_reducible repeat (first|apply q1|apply q2|apply q3));refine blk_far ?_ NB384_397.out _;(with_reducible repeat (first|apply q1|apply q2|apply q3));refine blk_far ?_ NB384_397.out _;(with_reducible repeat (first|apply q1|apply q2|apply q3));refine blk_far ?_ NB384_397.out _;(with_reducible repeat (first|apply q1|apply q2|apply q3));refine blk_far ?_ NB384_397.out _;(with_reducible repeat (first|apply q1|apply q2|apply q3));exact BK384.out) Try.underlying37 rfl (by kernel_rfl)) rfl ?_
         exact ⟨by first|rfl|(simp [errW_none,errW_some] <;> rfl)|(simp [*,errW_none,errW_some] <;> rfl),by repeat (first|(with_reducible first|exact HB.out|apply below_alloc|apply pw_below_drewN|apply below_drew1|refine below_set ?_ GE384.out|refine below_set ?_ GE385.out|refine below_set ?_ GE397.out)|exact HB.out)⟩
        rw [if_neg c39] at H
        have c39b0 : decide (0 ≤ t399) = false := decide_eq_false c39
        clear c39
        replace H := Option.bind_eq_some_iff.mp H
        obtain ⟨⟨t400,t401,t402,t403,t404,t405,t406,t407,t408⟩,A480,H⟩ := H
        replace H : (some (t400,t401,t402,t403,t404,t405,t406,t407,t408)) = some (r1,r2,r3,r4,r5,r6,r7,r8,r9) := H
        have A48 := Aside0.mk A480
        clear A480
        simp only [Option.some.injEq,Prod.mk.injEq] at H
        obtain ⟨rfl,rfl,rfl,rfl,rfl,rfl,rfl,rfl,rfl⟩ := H
        have hnb49 := NB385_384.out
        have hnc49 := NB384_385.out
        have hcz50_0 : wc.cell? ⟨gb385,0,none⟩ = some (.string ⟨#[104,116,116,112]⟩) := (blk_cell BK385.out 0).trans rfl
        have hcz50_1 : wc.cell? ⟨gb385,1,none⟩ = some (.string ⟨#[]⟩) := (blk_cell BK385.out 1).trans rfl
        have hcz50_2 : wc.cell? ⟨gb385,2,none⟩ = some (.string ⟨#[]⟩) := (blk_cell BK385.out 2).trans rfl
        have hcz50_3 : wc.cell? ⟨gb385,3,none⟩ = some (.string ⟨#[]⟩) := (blk_cell BK385.out 3).trans rfl
        have hcz50_4 : wc.cell? ⟨gb385,4,none⟩ = some (.string ⟨#[]⟩) := (blk_cell BK385.out 4).trans rfl
        have hcz50_5 : wc.cell? ⟨gb385,5,none⟩ = some (.string ⟨#[]⟩) := (blk_cell BK385.out 5).trans rfl
        have hcz50_6 : wc.cell? ⟨gb385,6,none⟩ = some (.string ⟨#[]⟩) := (blk_cell BK385.out 6).trans rfl
        have hcz50_7 : wc.cell? ⟨gb385,7,none⟩ = some (.string ⟨#[]⟩) := (blk_cell BK385.out 7).trans rfl
        have hfz50_0 := blk_frozen BK385.out 0
        have hfz50_1 := blk_frozen BK385.out 1
        have hfz50_2 := blk_frozen BK385.out 2
        have hfz50_3 := blk_frozen BK385.out 3
        have hfz50_4 := blk_frozen BK385.out 4
        have hfz50_5 := blk_frozen BK385.out 5
        have hfz50_6 := blk_frozen BK385.out 6
        have hfz50_7 := blk_frozen BK385.out 7
        go_wp2_with (first|((with_reducible refine gate_callee (f := 38) rfl ?_);refine goesL_ (some 47) rfl rfl Try.func38 (by kernel_rfl) rfl #[.agg #[.string ⟨#[104,116,116,112]⟩,.string ⟨#[]⟩,.string ⟨#[]⟩,.string ⟨#[]⟩,.string ⟨#[]⟩,.string ⟨#[]⟩,.string ⟨#[]⟩,.string ⟨#[]⟩],.string a0] rfl (by (try simp only [List.map_toArray,List.map_cons,List.map_nil]);first|done|rfl|(simp only [ByteArray.size_extract,Nat.min_self];first|done|rfl)|(simp only [List.length_drop,List.length_take];rfl)) ?_;(with_reducible refine (spec_Uri_authority.calls kj14 ⟨#[104,116,116,112]⟩ ⟨#[]⟩ ⟨#[]⟩ ⟨#[]⟩ ⟨#[]⟩ ⟨#[]⟩ ⟨#[]⟩ ⟨#[]⟩ a0 t388 t389 t390 t391 t392 t393 t394 t395 t396 _ A25.out).mono ?_);rintro e w51 ⟨rfl,hb⟩;refine ⟨_,rfl,?_⟩;have n0_ := Aside0.mk (blk_below (g := gb384) (bk_ BK384.out) hb);have n1_ := Aside0.mk (blk_below (g := gb385) (bk_ BK385.out) hb);have n2_ := Aside0.mk (below_step (bl2_ HB.out GE384.out GE385.out) hb);clear BK384;clear BK385;clear HB;have BK384 := n0_;have BK385 := n1_;have HB := n2_;clear n0_ n1_ n2_;(try clear hb);(try clear hb2);(try clear hk);(try clear hi))|((with_reducible refine gate_dst (N := 7) rfl ?_);(try (refine gate_guard (by rfl) ?_;dsimp only));refine box_event ?hg (N := 7) ?hd (cs := #[.string ⟨#[]⟩,.string ⟨#[]⟩,.string ⟨#[]⟩,.string ⟨#[]⟩,.string ⟨#[]⟩,.string ⟨#[]⟩,.string ⟨#[]⟩,.string ⟨#[]⟩]) (t := 37) ?hr ?_;(case hd => rfl);(case hg => rfl);(case hr => first|(go_simp;done)|(go_simp;rfl));intro gb397 hg w52 hbox hb;have n0_ := Aside0.mk (blk_below (g := gb384) (bk_ BK384.out) hb);have n1_ := Aside0.mk (blk_below (g := gb385) (bk_ BK385.out) hb);have n2_ := Aside0.mk (below_step (bl2_ HB.out GE384.out GE385.out) hb);have n3_ := Aside0.mk (hbox);have n4_ := Aside0.mk ((by rw [hg];exact (below_size (bl2_ HB.out GE384.out GE385.out)) : w.heap.size ≤ gb397));have n5_ := Aside0.mk ((by rw [hg];exact (below_size (bl2_ HB.out GE384.out GE385.out)) : w.heap.size ≤ gb397));have n6_ := Aside0.mk ((by rw [hg];exact Nat.ne_of_lt (blk_lt (g := gb384) (bk_ BK384.out)) : gb384 ≠ gb397));have n7_ := Aside0.mk ((by rw [hg];exact Nat.ne_of_gt (blk_lt (g := gb384) (bk_ BK384.out)) : gb397 ≠ gb384));have n8_ := Aside0.mk ((by rw [hg];exact Nat.ne_of_lt (blk_lt (g := gb385) (bk_ BK385.out)) : gb385 ≠ gb397));have n9_ := Aside0.mk ((by rw [hg];exact Nat.ne_of_gt (blk_lt (g := gb385) (bk_ BK385.out)) : gb397 ≠ gb385));clear BK384;clear BK385;clear HB;have BK384 := n0_;have BK385 := n1_;have HB := n2_;have BK397 := n3_;have GW397 := n4_;have GE397 := n5_;have NB384_397 := n6_;have NB397_384 := n7_;have NB385_397 := n8_;have NB397_385 := n9_;clear n0_ n1_ n2_ n3_ n4_ n5_ n6_ n7_ n8_ n9_;clear hb hbox hg;have hnb53 := NB397_384.out;have hnc53 := NB384_397.out;have hnb54 := NB397_385.out;have hnc54 := NB385_397.out;have hcz55_0 : w52.cell? ⟨gb397,0,none⟩ = some (.string ⟨#[]⟩) := (blk_cell BK397.out 0).trans rfl;have hcz55_1 : w52.cell? ⟨gb397,1,none⟩ = some (.string ⟨#[]⟩) := (blk_cell BK397.out 1).trans rfl;have hcz55_2 : w52.cell? ⟨gb397,2,none⟩ = some (.string ⟨#[]⟩) := (blk_cell BK397.out 2).trans rfl;have hcz55_3 : w52.cell? ⟨gb397,3,none⟩ = some (.string ⟨#[]⟩) := (blk_cell BK397.out 3).trans rfl;have hcz55_4 : w52.cell? ⟨gb397,4,none⟩ = some (.string ⟨#[]⟩) := (blk_cell BK397.out 4).trans rfl;have hcz55_5 : w52.cell? ⟨gb397,5,none⟩ = some (.string ⟨#[]⟩) := (blk_cell BK397.out 5).trans rfl;have hcz55_6 : w52.cell? ⟨gb397,6,none⟩ = some (.string ⟨#[]⟩) := (blk_cell BK397.out 6).trans rfl;have hcz55_7 : w52.cell? ⟨gb397,7,none⟩ = some (.string ⟨#[]⟩) := (blk_cell BK397.out 7).trans rfl;have hfz55_0 := blk_frozen BK397.out 0;have hfz55_1 := blk_frozen BK397.out 1;have hfz55_2 := blk_frozen BK397.out 2;have hfz55_3 := blk_frozen BK397.out 3;have hfz55_4 := blk_frozen BK397.out 4;have hfz55_5 := blk_frozen BK397.out 5;have hfz55_6 := blk_frozen BK397.out 6;have hfz55_7 := blk_frozen BK397.out 7)|(go_at_call 39;(with_reducible refine (spec_schemeOf.calls kj14 a1 t398 _ A28.out).mono ?_);rintro e w' ⟨rfl,⟨nd,rfl⟩⟩)|(go_at_call 40;(with_reducible refine (spec_indexOf.calls kj14 a1 58 t399 _ A38.out).mono ?_);rintro e w' ⟨rfl,⟨nd,rfl⟩⟩)|((with_reducible refine gate_callee (f := 41) rfl ?_);refine goesL_ (some 70) rfl rfl Try.func41 (by kernel_rfl) rfl #[.agg #[.string t388,.string t389,.string t390,.string t391,.string t392,.string t393,.string t394,.string t395],.string a1] rfl (by (try simp only [List.map_toArray,List.map_cons,List.map_nil]);first|done|rfl|(simp only [ByteArray.size_extract,Nat.min_self];first|done|rfl)|(simp only [List.length_drop,List.length_take];rfl)) ?_;(with_reducible refine (spec_Uri_request.calls kj14 t388 t389 t390 t391 t392 t393 t394 t395 a1 t400 t401 t402 t403 t404 t405 t406 t407 t408 _ A48.out).mono ?_);rintro e w56 ⟨rfl,hb⟩;refine ⟨_,rfl,?_⟩;have n0_ := Aside0.mk (blk_below (g := gb384) (o := .cells #[.string ⟨#[]⟩,.string ⟨#[]⟩,.string ⟨#[]⟩,.string ⟨#[]⟩,.string ⟨#[]⟩,.string ⟨#[]⟩,.string ⟨#[]⟩,.string ⟨#[]⟩] 37 (0,0)) (by (with_reducible repeat (first|apply q1|apply q2|apply q3));refine blk_far ?_ NB384_397.out _;(with_reducible repeat (first|apply q1|apply q2|apply q3));refine blk_far ?_ NB384_397.out _;(with_reducible repeat (first|apply q1|apply q2|apply q3));refine blk_far ?_ NB384_397.out _;(with_reducible repeat (first|apply q1|apply q2|apply q3));refine blk_far ?_ NB384_397.out _;(with_reducible repeat (first|apply q1|apply q2|apply q3));refine blk_far ?_ NB384_397.out _;(with_reducible repeat (first|apply q1|apply q2|apply q3));refine blk_far ?_ NB384_397.out _;(with_reducible repeat (first|apply q1|apply q2|apply q3));refine blk_far ?_ NB384_397.out _;(with_reducible repeat (first|apply q1|apply q2|apply q3));refine blk_far ?_ NB384_397.out _;(with_reducible repeat (first|apply q1|apply q2|apply q3));exact BK384.out) hb);have n1_ := Aside0.mk (blk_below (g := gb385) (o := .cells #[.string ⟨#[104,116,116,112]⟩,.string ⟨#[]⟩,.string ⟨#[]⟩,.string ⟨#[]⟩,.string ⟨#[]⟩,.string ⟨#[]⟩,.string ⟨#[]⟩,.string ⟨#[]⟩] 37 (0,0)) (by (with_reducible repeat (first|apply q1|apply q2|apply q3));refine blk_far ?_ NB385_397.out _;(with_reducible repeat (first|apply q1|apply q2|apply q3));refine blk_far ?_ NB385_397.out _;(with_reducible repeat (first|apply q1|apply q2|apply q3));refine blk_far ?_ NB385_397.out _;(with_reducible repeat (first|apply q1|apply q2|apply q3));refine blk_far ?_ NB385_397.out _;(with_reducible repeat (first|apply q1|apply q2|apply q3));refine blk_far ?_ NB385_397.out _;(with_reducible repeat (first|apply q1|apply q2|apply q3));refine blk_far ?_ NB385_397.out _;(with_reducible repeat (first|apply q1|apply q2|apply q3));refine blk_far ?_ NB385_397.out _;(with_reducible repeat (first|apply q1|apply q2|apply q3));refine blk_far ?_ NB385_397.out _;(with_reducible repeat (first|apply q1|apply q2|apply q3));exact BK385.out) hb);have n2_ := Aside0.mk (blk_below (g := gb397) (o := .cells #[.string t388,.string t389,.string t390,.string t391,.string t392,.string t393,.string t394,.string t395] 37 (0,0)) (by (with_reducible repeat (first|apply q1|apply q2|apply q3));refine blk_put (cs := #[.string t388,.string t389,.string t390,.string t391,.string t392,.string t393,.string t394,.string ⟨#[]⟩]) ?_ 7 _ rfl;(with_reducible repeat (first|apply q1|apply q2|apply q3));refine blk_put (cs := #[.string t388,.string t389,.string t390,.string t391,.string t392,.string t393,.string ⟨#[]⟩,.string ⟨#[]⟩]) ?_ 6 _ rfl;(with_reducible repeat (first|apply q1|apply q2|apply q3));refine blk_put (cs := #[.string t388,.string t389,.string t390,.string t391,.string t392,.string ⟨#[]⟩,.string ⟨#[]⟩,.string ⟨#[]⟩]) ?_ 5 _ rfl;(with_reducible repeat (first|apply q1|apply q2|apply q3));refine blk_put (cs := #[.string t388,.string t389,.string t390,.string t391,.string ⟨#[]⟩,.string ⟨#[]⟩,.string ⟨#[]⟩,.string ⟨#[]⟩]) ?_ 4 _ rfl;(with_reducible repeat (first|apply q1|apply q2|apply q3));refine blk_put (cs := #[.string t388,.string t389,.string t390,.string ⟨#[]⟩,.string ⟨#[]⟩,.string ⟨#[]⟩,.string ⟨#[]⟩,.string ⟨#[]⟩]) ?_ 3 _ rfl;(with_reducible repeat (first|apply q1|apply q2|apply q3));refine blk_put (cs := #[.string t388,.string t389,.string ⟨#[]⟩,.string ⟨#[]⟩,.string ⟨#[]⟩,.string ⟨#[]⟩,.string ⟨#[]⟩,.string ⟨#[]⟩]) ?_ 2 _ rfl;(with_reducible repeat (first|apply q1|apply q2|apply q3));refine blk_put (cs := #[.string t388,.string ⟨#[]⟩,.string ⟨#[]⟩,.string ⟨#[]⟩,.string ⟨#[]⟩,.string ⟨#[]⟩,.string ⟨#[]⟩,.string ⟨#[]⟩]) ?_ 1 _ rfl;(with_reducible repeat (first|apply q1|apply q2|apply q3));refine blk_put (cs := #[.string ⟨#[]⟩,.string ⟨#[]⟩,.string ⟨#[]⟩,.string ⟨#[]⟩,.string ⟨#[]⟩,.string ⟨#[]⟩,.string ⟨#[]⟩,.string ⟨#[]⟩]) ?_ 0 _ rfl;(with_reducible repeat (first|apply q1|apply q2|apply q3));exact BK397.out) hb);have n3_ := Aside0.mk (below_step (by repeat (first|(with_reducible first|exact HB.out|apply below_alloc|apply pw_below_drewN|apply below_drew1|refine below_set ?_ GE384.out|refine below_set ?_ GE385.out|refine below_set ?_ GE397.out)|exact HB.out)) hb);clear BK384;clear BK385;clear BK397;clear HB;have BK384 := n0_;have BK385 := n1_;have BK397 := n2_;have HB := n3_;clear n0_ n1_ n2_ n3_;(try clear hb);(try clear hb2);(try clear hk);(try clear hi);have hcz57_0 : w56.cell? ⟨gb384,0,none⟩ = some (.string ⟨#[]⟩) := (blk_cell BK384.out 0).trans rfl;have hcz57_1 : w56.cell? ⟨gb384,1,none⟩ = some (.string ⟨#[]⟩) := (blk_cell BK384.out 1).trans rfl;have hcz57_2 : w56.cell? ⟨gb384,2,none⟩ = some (.string ⟨#[]⟩) := (blk_cell BK384.out 2).trans rfl;have hcz57_3 : w56.cell? ⟨gb384,3,none⟩ = some (.string ⟨#[]⟩) := (blk_cell BK384.out 3).trans rfl;have hcz57_4 : w56.cell? ⟨gb384,4,none⟩ = some (.string ⟨#[]⟩) := (blk_cell BK384.out 4).trans rfl;have hcz57_5 : w56.cell? ⟨gb384,5,none⟩ = some (.string ⟨#[]⟩) := (blk_cell BK384.out 5).trans rfl;have hcz57_6 : w56.cell? ⟨gb384,6,none⟩ = some (.string ⟨#[]⟩) := (blk_cell BK384.out 6).trans rfl;have hcz57_7 : w56.cell? ⟨gb384,7,none⟩ = some (.string ⟨#[]⟩) := (blk_cell BK384.out 7).trans rfl;have hfz57_0 := blk_frozen BK384.out 0;have hfz57_1 := blk_frozen BK384.out 1;have hfz57_2 := blk_frozen BK384.out 2;have hfz57_3 := blk_frozen BK384.out 3;have hfz57_4 := blk_frozen BK384.out 4;have hfz57_5 := blk_frozen BK384.out 5;have hfz57_6 := blk_frozen BK384.out 6;have hfz57_7 := blk_frozen BK384.out 7))
        refine bodyPost_ret (results_ct rfl _ _ gb384 37 #[.string t400,.string t401,.string t402,.string t403,.string t404,.string t405,.string t406,.string t407] (0,0) _ rfl (by (with_reducible repeat (first|apply q1|apply q2|apply q3));refine blk_put (cs := #[.string t400,.string t401,.string t402,.string t403,.string t404,.string t405,.string t406,.string ⟨#[]⟩]) ?_ 7 _ rfl;(with_reducible repeat (first|apply q1|apply q2|apply q3));refine blk_put (cs := #[.string t400,.string t401,.string t402,.string t403,.string t404,.string t405,.string ⟨#[]⟩,.string ⟨#[]⟩]) ?_ 6 _ rfl;(with_reducible repeat (first|apply q1|apply q2|apply q3));refine blk_put (cs := #[.string t400,.string t401,.string t402,.string t403,.string t404,.string ⟨#[]⟩,.string ⟨#[]⟩,.string ⟨#[]⟩]) ?_ 5 _ rfl;(with_reducible repeat (first|apply q1|apply q2|apply q3));refine blk_put (cs := #[.string t400,.string t401,.string t402,.string t403,.string ⟨#[]⟩,.string ⟨#[]⟩,.string ⟨#[]⟩,.string ⟨#[]⟩]) ?_ 4 _ rfl;(with_reducible repeat (first|apply q1|apply q2|apply q3));refine blk_put (cs := #[.string t400,.string t401,.string t402,.string ⟨#[]⟩,.string ⟨#[]⟩,.string ⟨#[]⟩,.string ⟨#[]⟩,.string ⟨#[]⟩]) ?_ 3 _ rfl;(with_reducible repeat (first|apply q1|apply q2|apply q3));refine blk_put (cs := #[.string t400,.string t401,.string ⟨#[]⟩,.string ⟨#[]⟩,.string ⟨#[]⟩,.string ⟨#[]⟩,.string ⟨#[]⟩,.string ⟨#[]⟩]) ?_ 2 _ rfl;(with_reducible repeat (first|apply q1|apply q2|apply q3));refine blk_put (cs := #[.string t400,.string ⟨#[]⟩,.string ⟨#[]⟩,.string ⟨#[]⟩,.string ⟨#[]⟩,.string ⟨#[]⟩,.string ⟨#[]⟩,.string ⟨#[]⟩]) ?_ 1 _ rfl;(with_reducible repeat (first|apply q1|apply q2|apply q3));refine blk_put (cs := #[.string ⟨#[]⟩,.string ⟨#[]⟩,.string ⟨#[]⟩,.string ⟨#[]⟩,.string ⟨#[]⟩,.string ⟨#[]⟩,.string ⟨#[]⟩,.string ⟨#[]⟩]) ?_ 0 _ rfl;(with_reducible repeat (first|apply q1|apply q2|apply q3));exact BK384.out) Try.underlying37 rfl (by kernel_rfl)) rfl ?_
        exact ⟨by first|rfl|(simp [errW_none,errW_some] <;> rfl)|(simp [*,errW_none,errW_some] <;> rfl),by repeat (first|(with_reducible first|exact HB.out|apply below_alloc|apply pw_below_drewN|apply below_drew1|refine below_set ?_ GE384.out|refine below_set ?_ GE385.out|refine below_set ?_ GE397.out)|exact HB.out)⟩
       rw [if_neg c27] at H
       have c27b0 : (t394.toList == ([] : List UInt8)) = false := beq_eq_false_iff_ne.mpr c27
       have c27b1 : (t394.toList != ([] : List UInt8)) = true := bne_iff_ne.mpr c27
       simp only [Option.some.injEq,Prod.mk.injEq] at H
       obtain ⟨rfl,rfl,rfl,rfl,rfl,rfl,rfl,rfl,rfl⟩ := H
       have hnb58 := NB385_384.out
       have hnc58 := NB384_385.out
       have hcz59_0 : wc.cell? ⟨gb385,0,none⟩ = some (.string ⟨#[104,116,116,112]⟩) := (blk_cell BK385.out 0).trans rfl
       have hcz59_1 : wc.cell? ⟨gb385,1,none⟩ = some (.string ⟨#[]⟩) := (blk_cell BK385.out 1).trans rfl
       have hcz59_2 : wc.cell? ⟨gb385,2,none⟩ = some (.string ⟨#[]⟩) := (blk_cell BK385.out 2).trans rfl
       have hcz59_3 : wc.cell? ⟨gb385,3,none⟩ = some (.string ⟨#[]⟩) := (blk_cell BK385.out 3).trans rfl
       have hcz59_4 : wc.cell? ⟨gb385,4,none⟩ = some (.string ⟨#[]⟩) := (blk_cell BK385.out 4).trans rfl
       have hcz59_5 : wc.cell? ⟨gb385,5,none⟩ = some (.string ⟨#[]⟩) := (blk_cell BK385.out 5).trans rfl
       have hcz59_6 : wc.cell? ⟨gb385,6,none⟩ = some (.string ⟨#[]⟩) := (blk_cell BK385.out 6).trans rfl
       have hcz59_7 : wc.cell? ⟨gb385,7,none⟩ = some (.string ⟨#[]⟩) := (blk_cell BK385.out 7).trans rfl
       have hfz59_0 := blk_frozen BK385.out 0
       have hfz59_1 := blk_frozen BK385.out 1
       have hfz59_2 := blk_frozen BK385.out 2
       have hfz59_3 := blk_frozen BK385.out 3
       have hfz59_4 := blk_frozen BK385.out 4
       have hfz59_5 := blk_frozen BK385.out 5
       have hfz59_6 := blk_frozen BK385.out 6
       have hfz59_7 := blk_frozen BK385.out 7
       go_wp2_with (first|((with_reducible refine gate_callee (f := 38) rfl ?_);refine goesL_ (some 47) rfl rfl Try.func38 (by kernel_rfl) rfl #[.agg #[.string ⟨#[104,116,116,112]⟩,.string ⟨#[]⟩,.string ⟨#[]⟩,.string ⟨#[]⟩,.string ⟨#[]⟩,.string ⟨#[]⟩,.string ⟨#[]⟩,.string ⟨#[]⟩],.string a0] rfl (by (try simp only [List.map_toArray,List.map_cons,List.map_nil]);first|done|rfl|(simp only [ByteArray.size_extract,Nat.min_self];first|done|rfl)|(simp only [List.length_drop,List.length_take];rfl)) ?_;(with_reducible refine (spec_Uri_authority.calls kj14 ⟨#[104,116,116,112]⟩ ⟨#[]⟩ ⟨#[]⟩ ⟨#[]⟩ ⟨#[]⟩ ⟨#[]⟩ ⟨#[]⟩ ⟨#[]⟩ a0 t388 t389 t390 t391 t392 t393 t394 t395 t396 _ A25.out).mono ?_);rintro e w60 ⟨rfl,hb⟩;refine ⟨_,rfl,?_⟩;have n0_ := Aside0.mk (blk_below (g := gb384) (bk_ BK384.out) hb);have n1_ := Aside0.mk (blk_below (g := gb385) (bk_ BK385.out) hb);have n2_ := Aside0.mk (below_step (bl2_ HB.out GE384.out GE385.out) hb);clear BK384;clear BK385;clear HB;have BK384 := n0_;have BK385 := n1_;have HB := n2_;clear n0_ n1_ n2_;(try clear hb);(try clear hb2);(try clear hk);(try clear hi))|((with_reducible refine gate_dst (N := 7) rfl ?_);(try (refine gate_guard (by rfl) ?_;dsimp only));refine box_event ?hg (N := 7) ?hd (cs := #[.string ⟨#[]⟩,.string ⟨#[]⟩,.string ⟨#[]⟩,.string ⟨#[]⟩,.string ⟨#[]⟩,.string ⟨#[]⟩,.string ⟨#[]⟩,.string ⟨#[]⟩]) (t := 37) ?hr ?_;(case hd => rfl);(case hg => rfl);(case hr => first|(go_simp;done)|(go_simp;rfl));intro gb397 hg w61 hbox hb;have n0_ := Aside0.mk (blk_below (g := gb384) (bk_ BK384.out) hb);have n1_ := Aside0.mk (blk_below (g := gb385) (bk_ BK385.out) hb);have n2_ := Aside0.mk (below_step (bl2_ HB.out GE384.out GE385.out) hb);have n3_ := Aside0.mk (hbox);have n4_ := Aside0.mk ((by rw [hg];exact (below_size (bl2_ HB.out GE384.out GE385.out)) : w.heap.size ≤ gb397));have n5_ := Aside0.mk ((by rw [hg];exact (below_size (bl2_ HB.out GE384.out GE385.out)) : w.heap.size ≤ gb397));have n6_ := Aside0.mk ((by rw [hg];exact Nat.ne_of_lt (blk_lt (g := gb384) (bk_ BK384.out)) : gb384 ≠ gb397));have n7_ := Aside0.mk ((by rw [hg];exact Nat.ne_of_gt (blk_lt (g := gb384) (bk_ BK384.out)) : gb397 ≠ gb384));have n8_ := Aside0.mk ((by rw [hg];exact Nat.ne_of_lt (blk_lt (g := gb385) (bk_ BK385.out)) : gb385 ≠ gb397));have n9_ := Aside0.mk ((by rw [hg];exact Nat.ne_of_gt (blk_lt (g := gb385) (bk_ BK385.out)) : gb397 ≠ gb385));clear BK384;clear BK385;clear HB;have BK384 := n0_;have BK385 := n1_;have HB := n2_;have BK397 := n3_;have GW397 := n4_;have GE397 := n5_;have NB384_397 := n6_;have NB397_384 := n7_;have NB385_397 := n8_;have NB397_385 := n9_;clear n0_ n1_ n2_ n3_ n4_ n5_ n6_ n7_ n8_ n9_;clear hb hbox hg;have hnb62 := NB397_384.out;have hnc62 := NB384_397.out;have hnb63 := NB397_385.out;have hnc63 := NB385_397.out;have hcz64_0 : w61.cell? ⟨gb397,0,none⟩ = some (.string ⟨#[]⟩) := (blk_cell BK397.out 0).trans rfl;have hcz64_1 : w61.cell? ⟨gb397,1,none⟩ = some (.string ⟨#[]⟩) := (blk_cell BK397.out 1).trans rfl;have hcz64_2 : w61.cell? ⟨gb397,2,none⟩ = some (.string ⟨#[]⟩) := (blk_cell BK397.out 2).trans rfl;have hcz64_3 : w61.cell? ⟨gb397,3,none⟩ = some (.string ⟨#[]⟩) := (blk_cell BK397.out 3).trans rfl;have hcz64_4 : w61.cell? ⟨gb397,4,none⟩ = some (.string ⟨#[]⟩) := (blk_cell BK397.out 4).trans rfl;have hcz64_5 : w61.cell? ⟨gb397,5,none⟩ = some (.string ⟨#[]⟩) := (blk_cell BK397.out 5).trans rfl;have hcz64_6 : w61.cell? ⟨gb397,6,none⟩ = some (.string ⟨#[]⟩) := (blk_cell BK397.out 6).trans rfl;have hcz64_7 : w61.cell? ⟨gb397,7,none⟩ = some (.string ⟨#[]⟩) := (blk_cell BK397.out 7).trans rfl;have hfz64_0 := blk_frozen BK397.out 0;have hfz64_1 := blk_frozen BK397.out 1;have hfz64_2 := blk_frozen BK397.out 2;have hfz64_3 := blk_frozen BK397.out 3;have hfz64_4 := blk_frozen BK397.out 4;have hfz64_5 := blk_frozen BK397.out 5;have hfz64_6 := blk_frozen BK397.out 6;have hfz64_7 := blk_frozen BK397.out 7;have hcz65_0 : w61.cell? ⟨gb384,0,none⟩ = some (.string ⟨#[]⟩) := (blk_cell BK384.out 0).trans rfl;have hcz65_1 : w61.cell? ⟨gb384,1,none⟩ = some (.string ⟨#[]⟩) := (blk_cell BK384.out 1).trans rfl;have hcz65_2 : w61.cell? ⟨gb384,2,none⟩ = some (.string ⟨#[]⟩) := (blk_cell BK384.out 2).trans rfl;have hcz65_3 : w61.cell? ⟨gb384,3,none⟩ = some (.string ⟨#[]⟩) := (blk_cell BK384.out 3).trans rfl;have hcz65_4 : w61.cell? ⟨gb384,4,none⟩ = some (.string ⟨#[]⟩) := (blk_cell BK384.out 4).trans rfl;have hcz65_5 : w61.cell? ⟨gb384,5,none⟩ = some (.string ⟨#[]⟩) := (blk_cell BK384.out 5).trans rfl;have hcz65_6 : w61.cell? ⟨gb384,6,none⟩ = some (.string ⟨#[]⟩) := (blk_cell BK384.out 6).trans rfl;have hcz65_7 : w61.cell? ⟨gb384,7,none⟩ = some (.string ⟨#[]⟩) := (blk_cell BK384.out 7).trans rfl;have hfz65_0 := blk_frozen BK384.out 0;have hfz65_1 := blk_frozen BK384.out 1;have hfz65_2 := blk_frozen BK384.out 2;have hfz65_3 := blk_frozen BK384.out 3;have hfz65_4 := blk_frozen BK384.out 4;have hfz65_5 := blk_frozen BK384.out 5;have hfz65_6 := blk_frozen BK384.out 6;have hfz65_7 := blk_frozen BK384.out 7))
       refine bodyPost_ret (results_ct rfl _ _ gb384 37 #[.string t388,.string t389,.string t390,.string t391,.string t392,.string t393,.string t394,.string t395] (0,0) _ rfl (by (with_reducible repeat (first|apply q1|apply q2|apply q3));refine blk_put (cs := #[.string t388,.string t389,.string t390,.string t391,.string t392,.string t393,.string t394,.string ⟨#[]⟩]) ?_ 7 _ rfl;(with_reducible repeat (first|apply q1|apply q2|apply q3));refine blk_put (cs := #[.string t388,.string t389,.string t390,.string t391,.string t392,.string t393,.string ⟨#[]⟩,.string ⟨#[]⟩]) ?_ 6 _ rfl;(with_reducible repeat (first|apply q1|apply q2|apply q3));refine blk_put (cs := #[.string t388,.string t389,.string t390,.string t391,.string t392,.string ⟨#[]⟩,.string ⟨#[]⟩,.string ⟨#[]⟩]) ?_ 5 _ rfl;(with_reducible repeat (first|apply q1|apply q2|apply q3));refine blk_put (cs := #[.string t388,.string t389,.string t390,.string t391,.string ⟨#[]⟩,.string ⟨#[]⟩,.string ⟨#[]⟩,.string ⟨#[]⟩]) ?_ 4 _ rfl;(with_reducible repeat (first|apply q1|apply q2|apply q3));refine blk_put (cs := #[.string t388,.string t389,.string t390,.string ⟨#[]⟩,.string ⟨#[]⟩,.string ⟨#[]⟩,.string ⟨#[]⟩,.string ⟨#[]⟩]) ?_ 3 _ rfl;(with_reducible repeat (first|apply q1|apply q2|apply q3));refine blk_put (cs := #[.string t388,.string t389,.string ⟨#[]⟩,.string ⟨#[]⟩,.string ⟨#[]⟩,.string ⟨#[]⟩,.string ⟨#[]⟩,.string ⟨#[]⟩]) ?_ 2 _ rfl;(with_reducible repeat (first|apply q1|apply q2|apply q3));refine blk_put (cs := #[.string t388,.string ⟨#[]⟩,.string ⟨#[]⟩,.string ⟨#[]⟩,.string ⟨#[]⟩,.string ⟨#[]⟩,.string ⟨#[]⟩,.string ⟨#[]⟩]) ?_ 1 _ rfl;(with_reducible repeat (first|apply q1|apply q2|apply q3));refine blk_put (cs := #[.string ⟨#[]⟩,.string ⟨#[]⟩,.string ⟨#[]⟩,.string ⟨#[]⟩,.string ⟨#[]⟩,.string ⟨#[]⟩,.string ⟨#[]⟩,.string ⟨#[]⟩]) ?_ 0 _ rfl;(with_reducible repeat (first|apply q1|apply q2|apply q3));refine blk_far ?_ NB384_397.out _;(with_reducible repeat (first|apply q1|apply q2|apply q3));refine blk_far ?_ NB384_397.out _;(with_reducible repeat (first|apply q1|apply q2|apply q3));refine blk_far ?_ NB384_397.out _;(with_reducible repeat (first|apply q1|apply q2|apply q3));refine blk_far ?_ NB384_397.out _;(with_reducible repeat (first|apply q1|apply q2|apply q3));refine blk_far ?_ NB384_397.out _;(with_reducible repeat (first|apply q1|apply q2|apply q3));refine blk_far ?_ NB384_397.out _;(with_reducible repeat (first|apply q1|apply q2|apply q3));refine blk_far ?_ NB384_397.out _;(with_reducible repeat (first|apply q1|apply q2|apply q3));refine blk_far ?_ NB384_397.out _;(with_reducible repeat (first|apply q1|apply q2|apply q3));exact BK384.out) Try.underlying37 rfl (by kernel_rfl)) rfl ?_
       exact ⟨by first|rfl|(simp [errW_none,errW_some] <;> rfl)|(simp [*,errW_none,errW_some] <;> rfl),by repeat (first|(with_reducible first|exact HB.out|apply below_alloc|apply pw_below_drewN|apply below_drew1|refine below_set ?_ GE384.out|refine below_set ?_ GE385.out|refine below_set ?_ GE397.out)|exact HB.out)⟩
      rw [if_neg c26] at H
      have c26b0 : (t396 == 1) = false := beq_eq_false_iff_ne.mpr c26
      have c26b1 : (t396 != 1) = true := bne_iff_ne.mpr c26
      simp only [Option.some.injEq,Prod.mk.injEq] at H
      obtain ⟨rfl,rfl,rfl,rfl,rfl,rfl,rfl,rfl,rfl⟩ := H
      have hnb66 := NB385_384.out
      have hnc66 := NB384_385.out
      have hcz67_0 : wc.cell? ⟨gb385,0,none⟩ = some (.string ⟨#[104,116,116,112]⟩) := (blk_cell BK385.out 0).trans rfl
      have hcz67_1 : wc.cell? ⟨gb385,1,none⟩ = some (.string ⟨#[]⟩) := (blk_cell BK385.out 1).trans rfl
      have hcz67_2 : wc.cell? ⟨gb385,2,none⟩ = some (.string ⟨#[]⟩) := (blk_cell BK385.out 2).trans rfl
      have hcz67_3 : wc.cell? ⟨gb385,3,none⟩ = some (.string ⟨#[]⟩) := (blk_cell BK385.out 3).trans rfl
      have hcz67_4 : wc.cell? ⟨gb385,4,none⟩ = some (.string ⟨#[]⟩) := (blk_cell BK385.out 4).trans rfl
      have hcz67_5 : wc.cell? ⟨gb385,5,none⟩ = some (.string ⟨#[]⟩) := (blk_cell BK385.out 5).trans rfl
      have hcz67_6 : wc.cell? ⟨gb385,6,none⟩ = some (.string ⟨#[]⟩) := (blk_cell BK385.out 6).trans rfl
      have hcz67_7 : wc.cell? ⟨gb385,7,none⟩ = some (.string ⟨#[]⟩) := (blk_cell BK385.out 7).trans rfl
      have hfz67_0 := blk_frozen BK385.out 0
      have hfz67_1 := blk_frozen BK385.out 1
      have hfz67_2 := blk_frozen BK385.out 2
      have hfz67_3 := blk_frozen BK385.out 3
      have hfz67_4 := blk_frozen BK385.out 4
      have hfz67_5 := blk_frozen BK385.out 5
      have hfz67_6 := blk_frozen BK385.out 6
      have hfz67_7 := blk_frozen BK385.out 7
      go_wp2_with (first|((with_reducible refine gate_callee (f := 38) rfl ?_);refine goesL_ (some 47) rfl rfl Try.func38 (by kernel_rfl) rfl #[.agg #[.string ⟨#[104,116,116,112]⟩,.string ⟨#[]⟩,.string ⟨#[]⟩,.string ⟨#[]⟩,.string ⟨#[]⟩,.string ⟨#[]⟩,.string ⟨#[]⟩,.string ⟨#[]⟩],.string a0] rfl (by (try simp only [List.map_toArray,List.map_cons,List.map_nil]);first|done|rfl|(simp only [ByteArray.size_extract,Nat.min_self];first|done|rfl)|(simp only [List.length_drop,List.length_take];rfl)) ?_;(with_reducible refine (spec_Uri_authority.calls kj14 ⟨#[104,116,116,112]⟩ ⟨#[]⟩ ⟨#[]⟩ ⟨#[]⟩ ⟨#[]⟩ ⟨#[]⟩ ⟨#[]⟩ ⟨#[]⟩ a0 t388 t389 t390 t391 t392 t393 t394 t395 t396 _ A25.out).mono ?_);rintro e w68 ⟨rfl,hb⟩;refine ⟨_,rfl,?_⟩;have n0_ := Aside0.mk (blk_below (g := gb384) (bk_ BK384.out) hb);have n1_ := Aside0.mk (blk_below (g := gb385) (bk_ BK385.out) hb);have n2_ := Aside0.mk (below_step (bl2_ HB.out GE384.out GE385.out) hb);clear BK384;clear BK385;clear HB;have BK384 := n0_;have BK385 := n1_;have HB := n2_;clear n0_ n1_ n2_;(try clear hb);(try clear hb2);(try clear hk);(try clear hi))|((with_reducible refine gate_dst (N := 7) rfl ?_);(try (refine gate_guard (by rfl) ?_;dsimp only));refine box_event ?hg (N := 7) ?hd (cs := #[.string ⟨#[]⟩,.string ⟨#[]⟩,.string ⟨#[]⟩,.string ⟨#[]⟩,.string ⟨#[]⟩,.string ⟨#[]⟩,.string ⟨#[]⟩,.string ⟨#[]⟩]) (t := 37) ?hr ?_;(case hd => rfl);(case hg => rfl);(case hr => first|(go_simp;done)|(go_simp;rfl));intro gb397 hg w69 hbox hb;have n0_ := Aside0.mk (blk_below (g := gb384) (bk_ BK384.out) hb);have n1_ := Aside0.mk (blk_below (g := gb385) (bk_ BK385.out) hb);have n2_ := Aside0.mk (below_step (bl2_ HB.out GE384.out GE385.out) hb);have n3_ := Aside0.mk (hbox);have n4_ := Aside0.mk ((by rw [hg];exact (below_size (bl2_ HB.out GE384.out GE385.out)) : w.heap.size ≤ gb397));have n5_ := Aside0.mk ((by rw [hg];exact (below_size (bl2_ HB.out GE384.out GE385.out)) : w.heap.size ≤ gb397));have n6_ := Aside0.mk ((by rw [hg];exact Nat.ne_of_lt (blk_lt (g := gb384) (bk_ BK384.out)) : gb384 ≠ gb397));have n7_ := Aside0.mk ((by rw [hg];exact Nat.ne_of_gt (blk_lt (g := gb384) (bk_ BK384.out)) : gb397 ≠ gb384));have n8_ := Aside0.mk ((by rw [hg];exact Nat.ne_of_lt (blk_lt (g := gb385) (bk_ BK385.out)) : gb385 ≠ gb397));have n9_ := Aside0.mk ((by rw [hg];exact Nat.ne_of_gt (blk_lt (g := gb385) (bk_ BK385.out)) : gb397 ≠ gb385));clear BK384;clear BK385;clear HB;have BK384 := n0_;have BK385 := n1_;have HB := n2_;have BK397 := n3_;have GW397 := n4_;have GE397 := n5_;have NB384_397 := n6_;have NB397_384 := n7_;have NB385_397 := n8_;have NB397_385 := n9_;clear n0_ n1_ n2_ n3_ n4_ n5_ n6_ n7_ n8_ n9_;clear hb hbox hg;have hnb70 := NB397_384.out;have hnc70 := NB384_397.out;have hnb71 := NB397_385.out;have hnc71 := NB385_397.out;have hcz72_0 : w69.cell? ⟨gb397,0,none⟩ = some (.string ⟨#[]⟩) := (blk_cell BK397.out 0).trans rfl;have hcz72_1 : w69.cell? ⟨gb397,1,none⟩ = some (.string ⟨#[]⟩) := (blk_cell BK397.out 1).trans rfl;have hcz72_2 : w69.cell? ⟨gb397,2,none⟩ = some (.string ⟨#[]⟩) := (blk_cell BK397.out 2).trans rfl;have hcz72_3 : w69.cell? ⟨gb397,3,none⟩ = some (.string ⟨#[]⟩) := (blk_cell BK397.out 3).trans rfl;have hcz72_4 : w69.cell? ⟨gb397,4,none⟩ = some (.string ⟨#[]⟩) := (blk_cell BK397.out 4).trans rfl;have hcz72_5 : w69.cell? ⟨gb397,5,none⟩ = some (.string ⟨#[]⟩) := (blk_cell BK397.out 5).trans rfl;have hcz72_6 : w69.cell? ⟨gb397,6,none⟩ = some (.string ⟨#[]⟩) := (blk_cell BK397.out 6).trans rfl;have hcz72_7 : w69.cell? ⟨gb397,7,none⟩ = some (.string ⟨#[]⟩) := (blk_cell BK397.out 7).trans rfl;have hfz72_0 := blk_frozen BK397.out 0;have hfz72_1 := blk_frozen BK397.out 1;have hfz72_2 := blk_frozen BK397.out 2;have hfz72_3 := blk_frozen BK397.out 3;have hfz72_4 := blk_frozen BK397.out 4;have hfz72_5 := blk_frozen BK397.out 5;have hfz72_6 := blk_frozen BK397.out 6;have hfz72_7 := blk_frozen BK397.out 7;have hcz73_0 : w69.cell? ⟨gb384,0,none⟩ = some (.string ⟨#[]⟩) := (blk_cell BK384.out 0).trans rfl;have hcz73_1 : w69.cell? ⟨gb384,1,none⟩ = some (.string ⟨#[]⟩) := (blk_cell BK384.out 1).trans rfl;have hcz73_2 : w69.cell? ⟨gb384,2,none⟩ = some (.string ⟨#[]⟩) := (blk_cell BK384.out 2).trans rfl;have hcz73_3 : w69.cell? ⟨gb384,3,none⟩ = some (.string ⟨#[]⟩) := (blk_cell BK384.out 3).trans rfl;have hcz73_4 : w69.cell? ⟨gb384,4,none⟩ = some (.string ⟨#[]⟩) := (blk_cell BK384.out 4).trans rfl;have hcz73_5 : w69.cell? ⟨gb384,5,none⟩ = some (.string ⟨#[]⟩) := (blk_cell BK384.out 5).trans rfl;have hcz73_6 : w69.cell? ⟨gb384,6,none⟩ = some (.string ⟨#[]⟩) := (blk_cell BK384.out 6).trans rfl;have hcz73_7 : w69.cell? ⟨gb384,7,none⟩ = some (.string ⟨#[]⟩) := (blk_cell BK384.out 7).trans rfl;have hfz73_0 := blk_frozen BK384.out 0;have hfz73_1 := blk_frozen BK384.out 1;have hfz73_2 := blk_frozen BK384.out 2;have hfz73_3 := blk_frozen BK384.out 3;have hfz73_4 := blk_frozen BK384.out 4;have hfz73_5 := blk_frozen BK384.out 5;have hfz73_6 := blk_frozen BK384.out 6;have hfz73_7 := blk_frozen BK384.out 7))
      refine bodyPost_ret (results_ct rfl _ _ gb384 37 #[.string t388,.string t389,.string t390,.string t391,.string t392,.string t393,.string t394,.string t395] (0,0) _ rfl (by (with_reducible repeat (first|apply q1|apply q2|apply q3));refine blk_put (cs := #[.string t388,.string t389,.string t390,.string t391,.string t392,.string t393,.string t394,.string ⟨#[]⟩]) ?_ 7 _ rfl;(with_reducible repeat (first|apply q1|apply q2|apply q3));refine blk_put (cs := #[.string t388,.string t389,.string t390,.string t391,.string t392,.string t393,.string ⟨#[]⟩,.string ⟨#[]⟩]) ?_ 6 _ rfl;(with_reducible repeat (first|apply q1|apply q2|apply q3));refine blk_put (cs := #[.string t388,.string t389,.string t390,.string t391,.string t392,.string ⟨#[]⟩,.string ⟨#[]⟩,.string ⟨#[]⟩]) ?_ 5 _ rfl;(with_reducible repeat (first|apply q1|apply q2|apply q3));refine blk_put (cs := #[.string t388,.string t389,.string t390,.string t391,.string ⟨#[]⟩,.string ⟨#[]⟩,.string ⟨#[]⟩,.string ⟨#[]⟩]) ?_ 4 _ rfl;(with_reducible repeat (first|apply q1|apply q2|apply q3));refine blk_put (cs := #[.string t388,.string t389,.string t390,.string ⟨#[]⟩,.string ⟨#[]⟩,.string ⟨#[]⟩,.string ⟨#[]⟩,.string ⟨#[]⟩]) ?_ 3 _ rfl;(with_reducible repeat (first|apply q1|apply q2|apply q3));refine blk_put (cs := #[.string t388,.string t389,.string ⟨#[]⟩,.string ⟨#[]⟩,.string ⟨#[]⟩,.string ⟨#[]⟩,.string ⟨#[]⟩,.string ⟨#[]⟩]) ?_ 2 _ rfl;(with_reducible repeat (first|apply q1|apply q2|apply q3));refine blk_put (cs := #[.string t388,.string ⟨#[]⟩,.string ⟨#[]⟩,.string ⟨#[]⟩,.string ⟨#[]⟩,.string ⟨#[]⟩,.string ⟨#[]⟩,.string ⟨#[]⟩]) ?_ 1 _ rfl;(with_reducible repeat (first|apply q1|apply q2|apply q3));refine blk_put (cs := #[.string ⟨#[]⟩,.string ⟨#[]⟩,.string ⟨#[]⟩,.string ⟨#[]⟩,.string ⟨#[]⟩,.string ⟨#[]⟩,.string ⟨#[]⟩,.string ⟨#[]⟩]) ?_ 0 _ rfl;(with_reducible repeat (first|apply q1|apply q2|apply q3));refine blk_far ?_ NB384_397.out _;(with_reducible repeat (first|apply q1|apply q2|apply q3));refine blk_far ?_ NB384_397.out _;(with_reducible repeat (first|apply q1|apply q2|apply q3));refine blk_far ?_ NB384_397.out _;(with_reducible repeat (first|apply q1|apply q2|apply q3));refine blk_far ?_ NB384_397.out _;(with_reducible repeat (first|apply q1|apply q2|apply q3));refine blk_far ?_ NB384_397.out _;(with_reducible repeat (first|apply q1|apply q2|apply q3));refine blk_far ?_ NB384_397.out _;(with_reducible repeat (first|apply q1|apply q2|apply q3));refine blk_far ?_ NB384_397.out _;(with_reducible repeat (first|apply q1|apply q2|apply q3));refine blk_far ?_ NB384_397.out _;(with_reducible repeat (first|apply q1|apply q2|apply q3));exact BK384.out) Try.underlying37 rfl (by kernel_rfl)) rfl ?_
      exact ⟨by first|rfl|(simp [errW_none,errW_some] <;> rfl)|(simp [*,errW_none,errW_some] <;> rfl),by repeat (first|(with_reducible first|exact HB.out|apply below_alloc|apply pw_below_drewN|apply below_drew1|refine below_set ?_ GE384.out|refine below_set ?_ GE385.out|refine below_set ?_ GE397.out)|exact HB.out)⟩
     replace c24 := Bool.eq_false_iff.mpr c24
     subst c24
     have H1 : ((spec_schemeOf.f kj14 a1).bind fun t409 => (if t409 < 0 then (some (⟨#[104,116,116,112]⟩,⟨#[]⟩,⟨#[]⟩,⟨#[]⟩,⟨#[]⟩,⟨#[]⟩,⟨#[]⟩,⟨#[]⟩,2)) else (if 0 ≤ t409 then (if t409 ≤ (a1.size : Int) then ((spec_Lower.f (a1.extract 0 (t409 : Int).toNat)).bind fun t410 => (if 0 ≤ (wrap64 (t409 + 3)) then (if (wrap64 (t409 + 3)) ≤ (a1.size : Int) then ((spec_until.f kj14 (a1.extract ((wrap64 (t409 + 3)) : Int).toNat a1.size)).bind fun t411 => (if 0 ≤ t411 then (if t411 ≤ ((a1.extract ((wrap64 (t409 + 3)) : Int).toNat a1.size).size : Int) then ((spec_Uri_authority.f kj14 t410 ⟨#[]⟩ ⟨#[]⟩ ⟨#[]⟩ ⟨#[]⟩ ⟨#[]⟩ ⟨#[]⟩ ⟨#[]⟩ ((a1.extract ((wrap64 (t409 + 3)) : Int).toNat a1.size).extract 0 (t411 : Int).toNat)).bind fun bt412 => (if bt412.2.2.2.2.2.2.2.2 = 1 then (if t411 = ((a1.extract ((wrap64 (t409 + 3)) : Int).toNat a1.size).size : Int) then (some (bt412.1,bt412.2.1,bt412.2.2.1,bt412.2.2.2.1,bt412.2.2.2.2.1,bt412.2.2.2.2.2.1,bt412.2.2.2.2.2.2.1,bt412.2.2.2.2.2.2.2.1,2)) else (if t411 < ((a1.extract ((wrap64 (t409 + 3)) : Int).toNat a1.size).size : Int) then (if (bt (a1.extract ((wrap64 (t409 + 3)) : Int).toNat a1.size) t411) = 47 then ((spec_Uri_request.f kj14 bt412.1 bt412.2.1 bt412.2.2.1 bt412.2.2.2.1 bt412.2.2.2.2.1 bt412.2.2.2.2.2.1 bt412.2.2.2.2.2.2.1 bt412.2.2.2.2.2.2.2.1 ((a1.extract ((wrap64 (t409 + 3)) : Int).toNat a1.size).extract (t411 : Int).toNat (a1.extract ((wrap64 (t409 + 3)) : Int).toNat a1.size).size)).bind fun bt421 => (some (bt421.1,bt421.2.1,bt421.2.2.1,bt421.2.2.2.1,bt421.2.2.2.2.1,bt421.2.2.2.2.2.1,bt421.2.2.2.2.2.2.1,bt421.2.2.2.2.2.2.2.1,bt421.2.2.2.2.2.2.2.2))) else (some (bt412.1,bt412.2.1,bt412.2.2.1,bt412.2.2.2.1,bt412.2.2.2.2.1,bt412.2.2.2.2.2.1,bt412.2.2.2.2.2.2.1,bt412.2.2.2.2.2.2.2.1,2))) else (none))) else (some (bt412.1,bt412.2.1,bt412.2.2.1,bt412.2.2.2.1,bt412.2.2.2.2.1,bt412.2.2.2.2.2.1,bt412.2.2.2.2.2.2.1,bt412.2.2.2.2.2.2.2.1,2)))) else (none)) else (none))) else (none)) else (none))) else (none)) else (none)))) = some (r1,r2,r3,r4,r5,r6,r7,r8,r9) := by rw [if_neg (show ¬ (false = true) by decide)] at H;exact H
     clear H
     have H := H1
     clear H1
     replace H := Option.bind_eq_some_iff.mp H
     obtain ⟨t409,A740,H⟩ := H
     replace H : (if t409 < 0 then (some (⟨#[104,116,116,112]⟩,⟨#[]⟩,⟨#[]⟩,⟨#[]⟩,⟨#[]⟩,⟨#[]⟩,⟨#[]⟩,⟨#[]⟩,2)) else (if 0 ≤ t409 then (if t409 ≤ (a1.size : Int) then ((spec_Lower.f (a1.extract 0 (t409 : Int).toNat)).bind fun t410 => (if 0 ≤ (wrap64 (t409 + 3)) then (if (wrap64 (t409 + 3)) ≤ (a1.size : Int) then ((spec_until.f kj14 (a1.extract ((wrap64 (t409 + 3)) : Int).toNat a1.size)).bind fun t411 => (if 0 ≤ t411 then (if t411 ≤ ((a1.extract ((wrap64 (t409 + 3)) : Int).toNat a1.size).size : Int) then ((spec_Uri_authority.f kj14 t410 ⟨#[]⟩ ⟨#[]⟩ ⟨#[]⟩ ⟨#[]⟩ ⟨#[]⟩ ⟨#[]⟩ ⟨#[]⟩ ((a1.extract ((wrap64 (t409 + 3)) : Int).toNat a1.size).extract 0 (t411 : Int).toNat)).bind fun bt412 => (if bt412.2.2.2.2.2.2.2.2 = 1 then (if t411 = ((a1.extract ((wrap64 (t409 + 3)) : Int).toNat a1.size).size : Int) then (some (bt412.1,bt412.2.1,bt412.2.2.1,bt412.2.2.2.1,bt412.2.2.2.2.1,bt412.2.2.2.2.2.1,bt412.2.2.2.2.2.2.1,bt412.2.2.2.2.2.2.2.1,2)) else (if t411 < ((a1.extract ((wrap64 (t409 + 3)) : Int).toNat a1.size).size : Int) then (if (bt (a1.extract ((wrap64 (t409 + 3)) : Int).toNat a1.size) t411) = 47 then ((spec_Uri_request.f kj14 bt412.1 bt412.2.1 bt412.2.2.1 bt412.2.2.2.1 bt412.2.2.2.2.1 bt412.2.2.2.2.2.1 bt412.2.2.2.2.2.2.1 bt412.2.2.2.2.2.2.2.1 ((a1.extract ((wrap64 (t409 + 3)) : Int).toNat a1.size).extract (t411 : Int).toNat (a1.extract ((wrap64 (t409 + 3)) : Int).toNat a1.size).size)).bind fun bt421 => (some (bt421.1,bt421.2.1,bt421.2.2.1,bt421.2.2.2.1,bt421.2.2.2.2.1,bt421.2.2.2.2.2.1,bt421.2.2.2.2.2.2.1,bt421.2.2.2.2.2.2.2.1,bt421.2.2.2.2.2.2.2.2))) else (some (bt412.1,bt412.2.1,bt412.2.2.1,bt412.2.2.2.1,bt412.2.2.2.2.1,bt412.2.2.2.2.2.1,bt412.2.2.2.2.2.2.1,bt412.2.2.2.2.2.2.2.1,2))) else (none))) else (some (bt412.1,bt412.2.1,bt412.2.2.1,bt412.2.2.2.1,bt412.2.2.2.2.1,bt412.2.2.2.2.2.1,bt412.2.2.2.2.2.2.1,bt412.2.2.2.2.2.2.2.1,2)))) else (none)) else (none))) else (none)) else (none))) else (none)) else (none))) = some (r1,r2,r3,r4,r5,r6,r7,r8,r9) := H
     have A74 := Aside0.mk A740
     clear A740
     by_cases c75 : t409 < 0
     ·
      rw [if_pos c75] at H
      have c75b0 : decide (t409 < 0) = true := decide_eq_true c75
      clear c75
      simp only [Option.some.injEq,Prod.mk.injEq] at H
      obtain ⟨rfl,rfl,rfl,rfl,rfl,rfl,rfl,rfl,rfl⟩ := H
      go_wp2_with (first|((with_reducible refine gate_callee (f := 39) rfl ?_);refine goesL_ (some 74) rfl rfl Try.func39 (by kernel_rfl) rfl #[.string a1] rfl (by (try simp only [List.map_toArray,List.map_cons,List.map_nil]);first|done|rfl|(simp only [ByteArray.size_extract,Nat.min_self];first|done|rfl)|(simp only [List.length_drop,List.length_take];rfl)) ?_;(with_reducible refine (spec_schemeOf.calls kj14 a1 t409 _ A74.out).mono ?_);rintro e w' ⟨rfl,⟨nd,rfl⟩⟩;refine ⟨_,rfl,?_⟩;(try (rw [drewN_self wc];generalize hq_ : World.drewN wc _ = wc;have n0_ : Aside0 (wc.heap[gb384]? = some (.cells #[.string ⟨#[]⟩,.string ⟨#[]⟩,.string ⟨#[]⟩,.string ⟨#[]⟩,.string ⟨#[]⟩,.string ⟨#[]⟩,.string ⟨#[]⟩,.string ⟨#[]⟩] 37 (0,0))) := ⟨by rw [← hq_];exact (bk_ BK384.out)⟩;have n1_ : Aside0 (wc.heap[gb385]? = some (.cells #[.string ⟨#[104,116,116,112]⟩,.string ⟨#[]⟩,.string ⟨#[]⟩,.string ⟨#[]⟩,.string ⟨#[]⟩,.string ⟨#[]⟩,.string ⟨#[]⟩,.string ⟨#[]⟩] 37 (0,0))) := ⟨by rw [← hq_];exact (bk_ BK385.out)⟩;have n2_ : Aside0 (Below w.heap.size w wc) := ⟨by rw [← hq_];exact (bl2_ HB.out GE384.out GE385.out)⟩;clear BK384 BK385 HB hq_;have BK384 := n0_;have BK385 := n1_;have HB := n2_;clear n0_ n1_ n2_));have hnb76 := NB385_384.out;have hnc76 := NB384_385.out;have hcz77_0 : wc.cell? ⟨gb385,0,none⟩ = some (.string ⟨#[104,116,116,112]⟩) := (blk_cell BK385.out 0).trans rfl;have hcz77_1 : wc.cell? ⟨gb385,1,none⟩ = some (.string ⟨#[]⟩) := (blk_cell BK385.out 1).trans rfl;have hcz77_2 : wc.cell? ⟨gb385,2,none⟩ = some (.string ⟨#[]⟩) := (blk_cell BK385.out 2).trans rfl;have hcz77_3 : wc.cell? ⟨gb385,3,none⟩ = some (.string ⟨#[]⟩) := (blk_cell BK385.out 3).trans rfl;have hcz77_4 : wc.cell? ⟨gb385,4,none⟩ = some (.string ⟨#[]⟩) := (blk_cell BK385.out 4).trans rfl;have hcz77_5 : wc.cell? ⟨gb385,5,none⟩ = some (.string ⟨#[]⟩) := (blk_cell BK385.out 5).trans rfl;have hcz77_6 : wc.cell? ⟨gb385,6,none⟩ = some (.string ⟨#[]⟩) := (blk_cell BK385.out 6).trans rfl;have hcz77_7 : wc.cell? ⟨gb385,7,none⟩ = some (.string ⟨#[]⟩) := (blk_cell BK385.out 7).trans rfl;have hfz77_0 := blk_frozen BK385.out 0;have hfz77_1 := blk_frozen BK385.out 1;have hfz77_2 := blk_frozen BK385.out 2;have hfz77_3 := blk_frozen BK385.out 3;have hfz77_4 := blk_frozen BK385.out 4;have hfz77_5 := blk_frozen BK385.out 5;have hfz77_6 := blk_frozen BK385.out 6;have hfz77_7 := blk_frozen BK385.out 7;have hcz78_0 : wc.cell? ⟨gb384,0,none⟩ = some (.string ⟨#[]⟩) := (blk_cell BK384.out 0).trans rfl;have hcz78_1 : wc.cell? ⟨gb384,1,none⟩ = some (.string ⟨#[]⟩) := (blk_cell BK384.out 1).trans rfl;have hcz78_2 : wc.cell? ⟨gb384,2,none⟩ = some (.string ⟨#[]⟩) := (blk_cell BK384.out 2).trans rfl;have hcz78_3 : wc.cell? ⟨gb384,3,none⟩ = some (.string ⟨#[]⟩) := (blk_cell BK384.out 3).trans rfl;have hcz78_4 : wc.cell? ⟨gb384,4,none⟩ = some (.string ⟨#[]⟩) := (blk_cell BK384.out 4).trans rfl;have hcz78_5 : wc.cell? ⟨gb384,5,none⟩ = some (.string ⟨#[]⟩) := (blk_cell BK384.out 5).trans rfl;have hcz78_6 : wc.cell? ⟨gb384,6,none⟩ = some (.string ⟨#[]⟩) := (blk_cell BK384.out 6).trans rfl;have hcz78_7 : wc.cell? ⟨gb384,7,none⟩ = some (.string ⟨#[]⟩) := (blk_cell BK384.out 7).trans rfl;have hfz78_0 := blk_frozen BK384.out 0;have hfz78_1 := blk_frozen BK384.out 1;have hfz78_2 := blk_frozen BK384.out 2;have hfz78_3 := blk_frozen BK384.out 3;have hfz78_4 := blk_frozen BK384.out 4;have hfz78_5 := blk_frozen BK384.out 5;have hfz78_6 := blk_frozen BK384.out 6;have hfz78_7 := blk_frozen BK384.out 7))
      refine bodyPost_ret (results_ct rfl _ _ gb384 37 #[.string ⟨#[104,116,116,112]⟩,.string ⟨#[]⟩,.string ⟨#[]⟩,.string ⟨#[]⟩,.string ⟨#[]⟩,.string ⟨#[]⟩,.string ⟨#[]⟩,.string ⟨#[]⟩] (0,0) _ rfl (by (with_reducible repeat (first|apply q1|apply q2|apply q3));refine blk_put (cs := #[.string ⟨#[104,116,116,112]⟩,.string ⟨#[]⟩,.string ⟨#[]⟩,.string ⟨#[]⟩,.string ⟨#[]⟩,.string ⟨#[]⟩,.string ⟨#[]⟩,.string ⟨#[]⟩]) ?_ 7 _ rfl;(with_reducible repeat (first|apply q1|apply q2|apply q3));refine blk_put (cs := #[.string ⟨#[104,116,116,112]⟩,.string ⟨#[]⟩,.string ⟨#[]⟩,.string ⟨#[]⟩,.string ⟨#[]⟩,.string ⟨#[]⟩,.string ⟨#[]⟩,.string ⟨#[]⟩]) ?_ 6 _ rfl;(with_reducible repeat (first|apply q1|apply q2|apply q3));refine blk_put (cs := #[.string ⟨#[104,116,116,112]⟩,.string ⟨#[]⟩,.string ⟨#[]⟩,.string ⟨#[]⟩,.string ⟨#[]⟩,.string ⟨#[]⟩,.string ⟨#[]⟩,.string ⟨#[]⟩]) ?_ 5 _ rfl;(with_reducible repeat (first|apply q1|apply q2|apply q3));refine blk_put (cs := #[.string ⟨#[104,116,116,112]⟩,.string ⟨#[]⟩,.string ⟨#[]⟩,.string ⟨#[]⟩,.string ⟨#[]⟩,.string ⟨#[]⟩,.string ⟨#[]⟩,.string ⟨#[]⟩]) ?_ 4 _ rfl;(with_reducible repeat (first|apply q1|apply q2|apply q3));refine blk_put (cs := #[.string ⟨#[104,116,116,112]⟩,.string ⟨#[]⟩,.string ⟨#[]⟩,.string ⟨#[]⟩,.string ⟨#[]⟩,.string ⟨#[]⟩,.string ⟨#[]⟩,.string ⟨#[]⟩]) ?_ 3 _ rfl;(with_reducible repeat (first|apply q1|apply q2|apply q3));refine blk_put (cs := #[.string ⟨#[104,116,116,112]⟩,.string ⟨#[]⟩,.string ⟨#[]⟩,.string ⟨#[]⟩,.string ⟨#[]⟩,.string ⟨#[]⟩,.string ⟨#[]⟩,.string ⟨#[]⟩]) ?_ 2 _ rfl;(with_reducible repeat (first|apply q1|apply q2|apply q3));refine blk_put (cs := #[.string ⟨#[104,116,116,112]⟩,.string ⟨#[]⟩,.string ⟨#[]⟩,.string ⟨#[]⟩,.string ⟨#[]⟩,.string ⟨#[]⟩,.string ⟨#[]⟩,.string ⟨#[]⟩]) ?_ 1 _ rfl;(with_reducible repeat (first|apply q1|apply q2|apply q3));refine blk_put (cs := #[.string ⟨#[]⟩,.string ⟨#[]⟩,.string ⟨#[]⟩,.string ⟨#[]⟩,.string ⟨#[]⟩,.string ⟨#[]⟩,.string ⟨#[]⟩,.string ⟨#[]⟩]) ?_ 0 _ rfl;(with_reducible repeat (first|apply q1|apply q2|apply q3));exact BK384.out) Try.underlying37 rfl (by kernel_rfl)) rfl ?_
      exact ⟨by first|rfl|(simp [errW_none,errW_some] <;> rfl)|(simp [*,errW_none,errW_some] <;> rfl),bl2_ HB.out GE384.out GE385.out⟩
     rw [if_neg c75] at H
     have c75b0 : decide (t409 < 0) = false := decide_eq_false c75
     clear c75
     by_cases c79 : 0 ≤ t409
     ·
      rw [if_pos c79] at H
      have c79b0 := eq_true c79
      have c79b1 : decide (0 ≤ t409) = true := decide_eq_true c79
      clear c79
      by_cases c80 : t409 ≤ (a1.size : Int)
      ·
       rw [if_pos c80] at H
       have c80b0 := eq_true c80
       have c80b1 : decide (t409 ≤ (a1.size : Int)) = true := decide_eq_true c80
       clear c80
       replace H := Option.bind_eq_some_iff.mp H
       obtain ⟨t410,A810,H⟩ := H
       replace H : (if 0 ≤ (wrap64 (t409 + 3)) then (if (wrap64 (t409 + 3)) ≤ (a1.size : Int) then ((spec_until.f kj14 (a1.extract ((wrap64 (t409 + 3)) : Int).toNat a1.size)).bind fun t411 => (if 0 ≤ t411 then (if t411 ≤ ((a1.extract ((wrap64 (t409 + 3)) : Int).toNat a1.size).size : Int) then ((spec_Uri_authority.f kj14 t410 ⟨#[]⟩ ⟨#[]⟩ ⟨#[]⟩ ⟨#[]⟩ ⟨#[]⟩ ⟨#[]⟩ ⟨#[]⟩ ((a1.extract ((wrap64 (t409 + 3)) : Int).toNat a1.size).extract 0 (t411 : Int).toNat)).bind fun bt412 => (if bt412.2.2.2.2.2.2.2.2 = 1 then (if t411 = ((a1.extract ((wrap64 (t409 + 3)) : Int).toNat a1.size).size : Int) then (some (bt412.1,bt412.2.1,bt412.2.2.1,bt412.2.2.2.1,bt412.2.2.2.2.1,bt412.2.2.2.2.2.1,bt412.2.2.2.2.2.2.1,bt412.2.2.2.2.2.2.2.1,2)) else (if t411 < ((a1.extract ((wrap64 (t409 + 3)) : Int).toNat a1.size).size : Int) then (if (bt (a1.extract ((wrap64 (t409 + 3)) : Int).toNat a1.size) t411) = 47 then ((spec_Uri_request.f kj14 bt412.1 bt412.2.1 bt412.2.2.1 bt412.2.2.2.1 bt412.2.2.2.2.1 bt412.2.2.2.2.2.1 bt412.2.2.2.2.2.2.1 bt412.2.2.2.2.2.2.2.1 ((a1.extract ((wrap64 (t409 + 3)) : Int).toNat a1.size).extract (t411 : Int).toNat (a1.extract ((wrap64 (t409 + 3)) : Int).toNat a1.size).size)).bind fun bt421 => (some (bt421.1,bt421.2.1,bt421.2.2.1,bt421.2.2.2.1,bt421.2.2.2.2.1,bt421.2.2.2.2.2.1,bt421.2.2.2.2.2.2.1,bt421.2.2.2.2.2.2.2.1,bt421.2.2.2.2.2.2.2.2))) else (some (bt412.1,bt412.2.1,bt412.2.2.1,bt412.2.2.2.1,bt412.2.2.2.2.1,bt412.2.2.2.2.2.1,bt412.2.2.2.2.2.2.1,bt412.2.2.2.2.2.2.2.1,2))) else (none))) else (some (bt412.1,bt412.2.1,bt412.2.2.1,bt412.2.2.2.1,bt412.2.2.2.2.1,bt412.2.2.2.2.2.1,bt412.2.2.2.2.2.2.1,bt412.2.2.2.2.2.2.2.1,2)))) else (none)) else (none))) else (none)) else (none)) = some (r1,r2,r3,r4,r5,r6,r7,r8,r9) := H
       have A81 := Aside0.mk A810
       clear A810
       obtain ⟨ji82,hji82⟩ : ∃ j_ : Int,(wrap64 (t409 + 3)) = j_ := ⟨_,rfl⟩
       replace H : (if 0 ≤ (ji82) then (if (ji82) ≤ (a1.size : Int) then ((spec_until.f kj14 (a1.extract ((ji82) : Int).toNat a1.size)).bind fun t411 => (if 0 ≤ t411 then (if t411 ≤ ((a1.extract ((ji82) : Int).toNat a1.size).size : Int) then ((spec_Uri_authority.f kj14 t410 ⟨#[]⟩ ⟨#[]⟩ ⟨#[]⟩ ⟨#[]⟩ ⟨#[]⟩ ⟨#[]⟩ ⟨#[]⟩ ((a1.extract ((ji82) : Int).toNat a1.size).extract 0 (t411 : Int).toNat)).bind fun bt412 => (if bt412.2.2.2.2.2.2.2.2 = 1 then (if t411 = ((a1.extract ((ji82) : Int).toNat a1.size).size : Int) then (some (bt412.1,bt412.2.1,bt412.2.2.1,bt412.2.2.2.1,bt412.2.2.2.2.1,bt412.2.2.2.2.2.1,bt412.2.2.2.2.2.2.1,bt412.2.2.2.2.2.2.2.1,2)) else (if t411 < ((a1.extract ((ji82) : Int).toNat a1.size).size : Int) then (if (bt (a1.extract ((ji82) : Int).toNat a1.size) t411) = 47 then ((spec_Uri_request.f kj14 bt412.1 bt412.2.1 bt412.2.2.1 bt412.2.2.2.1 bt412.2.2.2.2.1 bt412.2.2.2.2.2.1 bt412.2.2.2.2.2.2.1 bt412.2.2.2.2.2.2.2.1 ((a1.extract ((ji82) : Int).toNat a1.size).extract (t411 : Int).toNat (a1.extract ((ji82) : Int).toNat a1.size).size)).bind fun bt421 => (some (bt421.1,bt421.2.1,bt421.2.2.1,bt421.2.2.2.1,bt421.2.2.2.2.1,bt421.2.2.2.2.2.1,bt421.2.2.2.2.2.2.1,bt421.2.2.2.2.2.2.2.1,bt421.2.2.2.2.2.2.2.2))) else (some (bt412.1,bt412.2.1,bt412.2.2.1,bt412.2.2.2.1,bt412.2.2.2.2.1,bt412.2.2.2.2.2.1,bt412.2.2.2.2.2.2.1,bt412.2.2.2.2.2.2.2.1,2))) else (none))) else (some (bt412.1,bt412.2.1,bt412.2.2.1,bt412.2.2.2.1,bt412.2.2.2.2.1,bt412.2.2.2.2.2.1,bt412.2.2.2.2.2.2.1,bt412.2.2.2.2.2.2.2.1,2)))) else (none)) else (none))) else (none)) else (none)) = some (r1,r2,r3,r4,r5,r6,r7,r8,r9) := by first|(rw [hji82] at H;exact H)|(simp only [hji82] at H ⊢;exact H)
       (try rw [hji82] at A74)
       (try rw [hji82] at A81)
       have hji82w : (IntKind.i64.wrap (t409 + 3)) = ji82 := (i64_w _).trans hji82
       by_cases c83 : 0 ≤ (ji82)
       ·
        rw [if_pos c83] at H
        have c83b0 := eq_true c83
        have c83b1 : decide (0 ≤ (ji82)) = true := decide_eq_true c83
        clear c83
        by_cases c84 : (ji82) ≤ (a1.size : Int)
        ·
         rw [if_pos c84] at H
         have c84b0 := eq_true c84
         have c84b1 : decide ((ji82) ≤ (a1.size : Int)) = true := decide_eq_true c84
         clear c84
         replace H := Option.bind_eq_some_iff.mp H
         obtain ⟨t411,A850,H⟩ := H
         replace H : (if 0 ≤ t411 then (if t411 ≤ ((a1.extract ((ji82) : Int).toNat a1.size).size : Int) then ((spec_Uri_authority.f kj14 t410 ⟨#[]⟩ ⟨#[]⟩ ⟨#[]⟩ ⟨#[]⟩ ⟨#[]⟩ ⟨#[]⟩ ⟨#[]⟩ ((a1.extract ((ji82) : Int).toNat a1.size).extract 0 (t411 : Int).toNat)).bind fun bt412 => (if bt412.2.2.2.2.2.2.2.2 = 1 then (if t411 = ((a1.extract ((ji82) : Int).toNat a1.size).size : Int) then (some (bt412.1,bt412.2.1,bt412.2.2.1,bt412.2.2.2.1,bt412.2.2.2.2.1,bt412.2.2.2.2.2.1,bt412.2.2.2.2.2.2.1,bt412.2.2.2.2.2.2.2.1,2)) else (if t411 < ((a1.extract ((ji82) : Int).toNat a1.size).size : Int) then (if (bt (a1.extract ((ji82) : Int).toNat a1.size) t411) = 47 then ((spec_Uri_request.f kj14 bt412.1 bt412.2.1 bt412.2.2.1 bt412.2.2.2.1 bt412.2.2.2.2.1 bt412.2.2.2.2.2.1 bt412.2.2.2.2.2.2.1 bt412.2.2.2.2.2.2.2.1 ((a1.extract ((ji82) : Int).toNat a1.size).extract (t411 : Int).toNat (a1.extract ((ji82) : Int).toNat a1.size).size)).bind fun bt421 => (some (bt421.1,bt421.2.1,bt421.2.2.1,bt421.2.2.2.1,bt421.2.2.2.2.1,bt421.2.2.2.2.2.1,bt421.2.2.2.2.2.2.1,bt421.2.2.2.2.2.2.2.1,bt421.2.2.2.2.2.2.2.2))) else (some (bt412.1,bt412.2.1,bt412.2.2.1,bt412.2.2.2.1,bt412.2.2.2.2.1,bt412.2.2.2.2.2.1,bt412.2.2.2.2.2.2.1,bt412.2.2.2.2.2.2.2.1,2))) else (none))) else (some (bt412.1,bt412.2.1,bt412.2.2.1,bt412.2.2.2.1,bt412.2.2.2.2.1,bt412.2.2.2.2.2.1,bt412.2.2.2.2.2.2.1,bt412.2.2.2.2.2.2.2.1,2)))) else (none)) else (none)) = some (r1,r2,r3,r4,r5,r6,r7,r8,r9) := H
         have A85 := Aside0.mk A850
         clear A850
         by_cases c86 : 0 ≤ t411
         ·
          rw [if_pos c86] at H
          have c86b0 := eq_true c86
          have c86b1 : decide (0 ≤ t411) = true := decide_eq_true c86
          clear c86
          by_cases c87 : t411 ≤ ((a1.extract ((ji82) : Int).toNat a1.size).size : Int)
          ·
           rw [if_pos c87] at H
           have c87b0 := eq_true c87
           have c87b1 : decide (t411 ≤ ((a1.extract ((ji82) : Int).toNat a1.size).size : Int)) = true := decide_eq_true c87
           (try (have c87b1t := c87b1;simp only [ByteArray.size_extract,Nat.min_self] at c87b1t))
           (try (have c87b1s := of_decide_eq_true c87b1;simp at c87b1s;replace c87b1s := eq_true c87b1s))
           clear c87
           replace H := Option.bind_eq_some_iff.mp H
           obtain ⟨⟨t412,t413,t414,t415,t416,t417,t418,t419,t420⟩,A880,H⟩ := H
           replace H : (if t420 = 1 then (if t411 = ((a1.extract ((ji82) : Int).toNat a1.size).size : Int) then (some (t412,t413,t414,t415,t416,t417,t418,t419,2)) else (if t411 < ((a1.extract ((ji82) : Int).toNat a1.size).size : Int) then (if (bt (a1.extract ((ji82) : Int).toNat a1.size) t411) = 47 then ((spec_Uri_request.f kj14 t412 t413 t414 t415 t416 t417 t418 t419 ((a1.extract ((ji82) : Int).toNat a1.size).extract (t411 : Int).toNat (a1.extract ((ji82) : Int).toNat a1.size).size)).bind fun bt421 => (some (bt421.1,bt421.2.1,bt421.2.2.1,bt421.2.2.2.1,bt421.2.2.2.2.1,bt421.2.2.2.2.2.1,bt421.2.2.2.2.2.2.1,bt421.2.2.2.2.2.2.2.1,bt421.2.2.2.2.2.2.2.2))) else (some (t412,t413,t414,t415,t416,t417,t418,t419,2))) else (none))) else (some (t412,t413,t414,t415,t416,t417,t418,t419,2))) = some (r1,r2,r3,r4,r5,r6,r7,r8,r9) := H
           have A88 := Aside0.mk A880
           clear A880
           by_cases c89 : t420 = 1
           ·
            rw [if_pos c89] at H
            have c89b0 : (t420 == 1) = true := beq_iff_eq.mpr c89
            have c89b1 : (t420 != 1) = false := bne_eq_false_iff_eq.mpr c89
            clear c89
            by_cases c90 : t411 = ((a1.extract ((ji82) : Int).toNat a1.size).size : Int)
            ·
             rw [if_pos c90] at H
             have c90b0 : (t411 == ((a1.extract ((ji82) : Int).toNat a1.size).size : Int)) = true := beq_iff_eq.mpr c90
             (try (have c90b0t := c90b0;simp only [ByteArray.size_extract,Nat.min_self] at c90b0t))
             have c90b1 : (t411 != ((a1.extract ((ji82) : Int).toNat a1.size).size : Int)) = false := bne_eq_false_iff_eq.mpr c90
             (try (have c90b1t := c90b1;simp only [ByteArray.size_extract,Nat.min_self] at c90b1t))
             clear c90
             simp only [Option.some.injEq,Prod.mk.injEq] at H
             obtain ⟨rfl,rfl,rfl,rfl,rfl,rfl,rfl,rfl,rfl⟩ := H
             try go_wp2_with (first|((with_reducible refine gate_callee (f := 39) rfl ?_);refine goesL_ (some 74) rfl rfl Try.func39 (by kernel_rfl) rfl #[.string a1] rfl (by (try simp only [List.map_toArray,List.map_cons,List.map_nil]);first|done|rfl|(simp only [ByteArray.size_extract,Nat.min_self];first|done|rfl)|(simp only [List.length_drop,List.length_take];rfl)) ?_;(with_reducible refine (spec_schemeOf.calls kj14 a1 t409 _ A74.out).mono ?_);rintro e w' ⟨rfl,⟨nd,rfl⟩⟩;refine ⟨_,rfl,?_⟩;(try (rw [drewN_self wc];generalize hq_ : World.drewN wc _ = wc;have n0_ : Aside0 (wc.heap[gb384]? = some (.cells #[.string ⟨#[]⟩,.string ⟨#[]⟩,.string ⟨#[]⟩,.string ⟨#[]⟩,.string ⟨#[]⟩,.string ⟨#[]⟩,.string ⟨#[]⟩,.string ⟨#[]⟩] 37 (0,0))) := ⟨by rw [← hq_];exact (bk_ BK384.out)⟩;have n1_ : Aside0 (wc.heap[gb385]? = some (.cells #[.string ⟨#[104,116,116,112]⟩,.string ⟨#[]⟩,.string ⟨#[]⟩,.string ⟨#[]⟩,.string ⟨#[]⟩,.string ⟨#[]⟩,.string ⟨#[]⟩,.string ⟨#[]⟩] 37 (0,0))) := ⟨by rw [← hq_];exact (bk_ BK385.out)⟩;have n2_ : Aside0 (Below w.heap.size w wc) := ⟨by rw [← hq_];exact (bl2_ HB.out GE384.out GE385.out)⟩;clear BK384 BK385 HB hq_;have BK384 := n0_;have BK385 := n1_;have HB := n2_;clear n0_ n1_ n2_)))|((with_reducible refine gate_callee (f := 42) rfl ?_);refine goesL_ (some 81) rfl rfl Try.func42 (by kernel_rfl) rfl #[.string (a1.extract 0 (t409 : Int).toNat)] rfl (by (try simp only [List.map_toArray,List.map_cons,List.map_nil]);first|done|rfl|(simp only [ByteArray.size_extract,Nat.min_self];first|done|rfl)|(simp only [List.length_drop,List.length_take];rfl)) ?_;(with_reducible refine (spec_Lower.calls (a1.extract 0 (t409 : Int).toNat) t410 _ A81.out).mono ?_);rintro e w91 ⟨rfl,hb⟩;refine ⟨_,rfl,?_⟩;have n0_ := Aside0.mk (blk_below (g := gb384) (bk_ BK384.out) hb);have n1_ := Aside0.mk (blk_below (g := gb385) (bk_ BK385.out) hb);have n2_ := Aside0.mk (below_step (bl2_ HB.out GE384.out GE385.out) hb);clear BK384;clear BK385;clear HB;have BK384 := n0_;have BK385 := n1_;have HB := n2_;clear n0_ n1_ n2_;(try clear hb);(try clear hb2);(try clear hk);(try clear hi);have hnb92 := NB385_384.out;have hnc92 := NB384_385.out;have hcz93_0 : w91.cell? ⟨gb385,0,none⟩ = some (.string ⟨#[104,116,116,112]⟩) := (blk_cell BK385.out 0).trans rfl;have hcz93_1 : w91.cell? ⟨gb385,1,none⟩ = some (.string ⟨#[]⟩) := (blk_cell BK385.out 1).trans rfl;have hcz93_2 : w91.cell? ⟨gb385,2,none⟩ = some (.string ⟨#[]⟩) := (blk_cell BK385.out 2).trans rfl;have hcz93_3 : w91.cell? ⟨gb385,3,none⟩ = some (.string ⟨#[]⟩) := (blk_cell BK385.out 3).trans rfl;have hcz93_4 : w91.cell? ⟨gb385,4,none⟩ = some (.string ⟨#[]⟩) := (blk_cell BK385.out 4).trans rfl;have hcz93_5 : w91.cell? ⟨gb385,5,none⟩ = some (.string ⟨#[]⟩) := (blk_cell BK385.out 5).trans rfl;have hcz93_6 : w91.cell? ⟨gb385,6,none⟩ = some (.string ⟨#[]⟩) := (blk_cell BK385.out 6).trans rfl;have hcz93_7 : w91.cell? ⟨gb385,7,none⟩ = some (.string ⟨#[]⟩) := (blk_cell BK385.out 7).trans rfl;have hfz93_0 := blk_frozen BK385.out 0;have hfz93_1 := blk_frozen BK385.out 1;have hfz93_2 := blk_frozen BK385.out 2;have hfz93_3 := blk_frozen BK385.out 3;have hfz93_4 := blk_frozen BK385.out 4;have hfz93_5 := blk_frozen BK385.out 5;have hfz93_6 := blk_frozen BK385.out 6;have hfz93_7 := blk_frozen BK385.out 7)|((with_reducible refine gate_callee (f := 43) rfl ?_);refine goesL_ (some 88) rfl rfl Try.func43 (by kernel_rfl) rfl #[.string (a1.extract ((ji82) : Int).toNat a1.size)] rfl (by (try simp only [List.map_toArray,List.map_cons,List.map_nil]);first|done|(simp only [hji82];rfl)|rfl|(simp only [ByteArray.size_extract,Nat.min_self];first|done|rfl)|(simp only [List.length_drop,List.length_take];rfl)) ?_;(with_reducible refine (spec_until.calls kj14 (a1.extract ((ji82) : Int).toNat a1.size) t411 _ A85.out).mono ?_);rintro e w' ⟨rfl,⟨nd,rfl⟩⟩;refine ⟨_,rfl,?_⟩))
             have n0_ : Aside0 ((w91.setCell ⟨gb385,0,none⟩ (.string t410)).heap[gb384]? = some (.cells #[.string ⟨#[]⟩,.string ⟨#[]⟩,.string ⟨#[]⟩,.string ⟨#[]⟩,.string ⟨#[]⟩,.string ⟨#[]⟩,.string ⟨#[]⟩,.string ⟨#[]⟩] 37 (0,0))) := ⟨by (with_reducible repeat (first|apply q1|apply q2|apply q3));refine blk_far ?_ NB384_385.out _;(with_reducible repeat (first|apply q1|apply q2|apply q3));exact BK384.out⟩
             have n1_ : Aside0 ((w91.setCell ⟨gb385,0,none⟩ (.string t410)).heap[gb385]? = some (.cells #[.string t410,.string ⟨#[]⟩,.string ⟨#[]⟩,.string ⟨#[]⟩,.string ⟨#[]⟩,.string ⟨#[]⟩,.string ⟨#[]⟩,.string ⟨#[]⟩] 37 (0,0))) := ⟨by (with_reducible repeat (first|apply q1|apply q2|apply q3));refine blk_put (cs := #[.string ⟨#[104,116,116,112]⟩,.string ⟨#[]⟩,.string ⟨#[]⟩,.string ⟨#[]⟩,.string ⟨#[]⟩,.string ⟨#[]⟩,.string ⟨#[]⟩,.string ⟨#[]⟩]) ?_ 0 _ rfl;(with_reducible repeat (first|apply q1|apply q2|apply q3));exact BK385.out⟩
             have n2_ : Aside0 (Below w.heap.size w (w91.setCell ⟨gb385,0,none⟩ (.string t410))) := ⟨bl2_ HB.out GE384.out GE385.out⟩
             (try clear BK384)
             (try clear BK385)
             (try clear HB)
             generalize (w91.setCell ⟨gb385,0,none⟩ (.string t410)) = w94 at n0_ n1_ n2_ ⊢
             have BK384 := n0_
             have BK385 := n1_
             have HB := n2_
             clear n0_ n1_ n2_
             (try (rw [drewN_self w94];generalize hq_ : World.drewN w94 _ = w94;have n0_ : Aside0 (w94.heap[gb384]? = some (.cells #[.string ⟨#[]⟩,.string ⟨#[]⟩,.string ⟨#[]⟩,.string ⟨#[]⟩,.string ⟨#[]⟩,.string ⟨#[]⟩,.string ⟨#[]⟩,.string ⟨#[]⟩] 37 (0,0))) := ⟨by rw [← hq_];exact (bk_ BK384.out)⟩;have n1_ : Aside0 (w94.heap[gb385]? = some (.cells #[.string t410,.string ⟨#[]⟩,.string ⟨#[]⟩,.string ⟨#[]⟩,.string ⟨#[]⟩,.string ⟨#[]⟩,.string ⟨#[]⟩,.string ⟨#[]⟩] 37 (0,0))) := ⟨by rw [← hq_];exact (bk_ BK385.out)⟩;have n2_ : Aside0 (Below w.heap.size w w94) := ⟨by rw [← hq_];exact (bl2_ HB.out GE384.out GE385.out)⟩;clear BK384 BK385 HB hq_;have BK384 := n0_;have BK385 := n1_;have HB := n2_;clear n0_ n1_ n2_))
             have n0_ := Aside0.mk (blk_drew BK384.out)
             have n1_ := Aside0.mk (blk_drew BK385.out)
             have n2_ := Aside0.mk (below_drew1 HB.out)
             clear BK384
             clear BK385
             clear HB
             have BK384 := n0_
             have BK385 := n1_
             have HB := n2_
             clear n0_ n1_ n2_
             refine start_ (n := 10) (S := fun w' => w'.cell? ⟨gb385,0,none⟩ = some (.string t410) ∧ w'.cell? ⟨gb385,1,none⟩ = some (.string ⟨#[]⟩) ∧ w'.cell? ⟨gb385,2,none⟩ = some (.string ⟨#[]⟩) ∧ w'.cell? ⟨gb385,3,none⟩ = some (.string ⟨#[]⟩) ∧ w'.cell? ⟨gb385,4,none⟩ = some (.string ⟨#[]⟩) ∧ w'.cell? ⟨gb385,5,none⟩ = some (.string ⟨#[]⟩) ∧ w'.cell? ⟨gb385,6,none⟩ = some (.string ⟨#[]⟩) ∧ w'.cell? ⟨gb385,7,none⟩ = some (.string ⟨#[]⟩)) (ds := [8]) #[false,false,false,false,false,false,false,false,false,false] (by kernel_rfl) rfl rfl ⟨(blk_cell BK385.out 0).trans rfl,(blk_cell BK385.out 1).trans rfl,(blk_cell BK385.out 2).trans rfl,(blk_cell BK385.out 3).trans rfl,(blk_cell BK385.out 4).trans rfl,(blk_cell BK385.out 5).trans rfl,(blk_cell BK385.out 6).trans rfl,(blk_cell BK385.out 7).trans rfl⟩ (fun hHeld => ?_);refine with_tabW spec_UriOf.tab15 spec_UriOf.bits15 (fun HT_ HW_ => ?_)
             generalize w94.drew = w95 at BK384 BK385 HB hHeld ⊢
             refine pure_ (i := 1) (N := some 91) (v := ?_) (a' := ?_) #[false,true,false,false,false,false,false,false,false,false] rfl rfl (any_of HT_.out (by kernel_rfl)) (fun _ _ _ h => h) (Or.inl ⟨by rfl,?_⟩) ?_ ?_
             rotate_left
             ·
              intro w'
              go_simp
              with_reducible rfl
             rotate_left
             ·
              simp only [Act.put,List.setIfInBounds_toArray,List.set_cons_zero,List.set_cons_succ,i64_w,i32_w]
              rfl
             refine pure_ (i := 2) (N := some 92) (v := ?_) (a' := ?_) #[false,true,true,false,false,false,false,false,false,false] rfl rfl (any_of HT_.out (by kernel_rfl)) (fun _ _ _ h => h) (Or.inl ⟨by rfl,?_⟩) ?_ ?_
             rotate_left
             ·
              intro w'
              go_simp
              with_reducible rfl
             rotate_left
             ·
              simp only [Act.put,List.setIfInBounds_toArray,List.set_cons_zero,List.set_cons_succ,i64_w,i32_w]
              rfl
             refine pure_ (i := 3) (N := some 93) (v := ?_) (a' := ?_) #[false,true,true,true,false,false,false,false,false,false] rfl rfl (any_of HT_.out (by kernel_rfl)) (fun _ _ _ h => h) (Or.inl ⟨by rfl,?_⟩) ?_ ?_
             rotate_left
             ·
              intro w'
              go_simp
              with_reducible rfl
             rotate_left
             ·
              simp only [Act.put,List.setIfInBounds_toArray,List.set_cons_zero,List.set_cons_succ,i64_w,i32_w]
              rfl
             refine take_ (i := 0) (N := some 90) (v := ?_) (a' := ?_) #[true,true,true,true,false,false,false,false,false,false] rfl rfl (take_ofW HT_.out HW_.out (by kernel_rfl)) (fun _ _ _ h => h) (Or.inl ⟨by rfl,?_⟩) hHeld ?_ ?_
             rotate_left
             ·
              rintro w' ⟨s0,s1,s2,s3,s4,s5,s6,s7⟩
              go_simp
              with_reducible rfl
             rotate_left
             ·
              simp only [Act.put,List.setIfInBounds_toArray,List.set_cons_zero,List.set_cons_succ,i64_w,i32_w]
              rfl
             refine one_ (i := 4) (N := some 94) #[true,true,true,true,true,false,false,false,false,false] rfl rfl (one_of HT_.out (by kernel_rfl)) (by decide) (fun K hK => ?_)
             refine goes_ Try.func38 (by kernel_rfl) rfl #[.agg #[.string t410,.string ⟨#[]⟩,.string ⟨#[]⟩,.string ⟨#[]⟩,.string ⟨#[]⟩,.string ⟨#[]⟩,.string ⟨#[]⟩,.string ⟨#[]⟩],.string ((a1.extract ((ji82) : Int).toNat a1.size).extract 0 (t411 : Int).toNat)] (by rfl) rfl rfl (by (try simp only [List.map_toArray,List.map_cons,List.map_nil]);first|done|(simp only [hji82];rfl)|rfl|(simp only [ByteArray.size_extract,Nat.min_self];first|done|rfl)|(simp only [List.length_drop,List.length_take];rfl)) ?_
             with_reducible refine (spec_Uri_authority.calls kj14 t410 ⟨#[]⟩ ⟨#[]⟩ ⟨#[]⟩ ⟨#[]⟩ ⟨#[]⟩ ⟨#[]⟩ ⟨#[]⟩ ((a1.extract ((ji82) : Int).toNat a1.size).extract 0 (t411 : Int).toNat) t412 t413 t414 t415 t416 t417 t418 t419 t420 _ A88.out).mono ?_
             rintro e w96 ⟨rfl,hb⟩
             refine ⟨_,rfl,?_⟩
             have n0_ := Aside0.mk (blk_below (g := gb384) (bk_ BK384.out) hb)
             have n1_ := Aside0.mk (blk_below (g := gb385) (bk_ BK385.out) hb)
             have n2_ := Aside0.mk (below_step (bl2_ HB.out GE384.out GE385.out) hb)
             clear BK384
             clear BK385
             clear HB
             have BK384 := n0_
             have BK385 := n1_
             have HB := n2_
             clear n0_ n1_ n2_
             (try clear hb)
             (try clear hb2)
             (try clear hk)
             (try clear hi)
             refine hK.out _ _ ⟨(blk_cell BK385.out 0).trans rfl,(blk_cell BK385.out 1).trans rfl,(blk_cell BK385.out 2).trans rfl,(blk_cell BK385.out 3).trans rfl,(blk_cell BK385.out 4).trans rfl,(blk_cell BK385.out 5).trans rfl,(blk_cell BK385.out 6).trans rfl,(blk_cell BK385.out 7).trans rfl⟩ (fun hHeld => ?_)
             clear hK K
             refine norm_ (a' := ?_) ?_ ?_
             rotate_left
             ·
              show Act.put _ (some 94) _ = _
              simp only [Act.put,List.setIfInBounds_toArray,List.set_cons_zero,List.set_cons_succ,i64_w,i32_w]
              rfl
             refine pure_ (i := 5) (N := some 89) (v := ?_) (a' := ?_) #[true,true,true,true,true,true,false,false,false,false] rfl rfl (any_of HT_.out (by kernel_rfl)) (fun _ _ _ h => h) (Or.inl ⟨by rfl,?_⟩) ?_ ?_
             rotate_left
             ·
              intro w'
              go_simp
              with_reducible rfl
             rotate_left
             ·
              simp only [Act.put,List.setIfInBounds_toArray,List.set_cons_zero,List.set_cons_succ,i64_w,i32_w]
              rfl
             refine pure_ (i := 6) (N := some 95) (v := ?_) (a' := ?_) #[true,true,true,true,true,true,true,false,false,false] rfl rfl (any_of HT_.out (by kernel_rfl)) (fun _ _ _ h => h) (Or.inl ⟨by rfl,?_⟩) ?_ ?_
             rotate_left
             ·
              intro w'
              go_simp
              with_reducible rfl
             rotate_left
             ·
              simp only [Act.put,List.setIfInBounds_toArray,List.set_cons_zero,List.set_cons_succ,i64_w,i32_w]
              rfl
             refine pure_ (i := 7) (N := some 96) (v := ?_) (a' := ?_) #[true,true,true,true,true,true,true,true,false,false] rfl rfl (any_of HT_.out (by kernel_rfl)) (fun _ _ _ h => h) (Or.inl ⟨by rfl,?_⟩) ?_ ?_
             rotate_left
             ·
              intro w'
              go_simp
              with_reducible rfl
             rotate_left
             ·
              simp only [Act.put,List.setIfInBounds_toArray,List.set_cons_zero,List.set_cons_succ,i64_w,i32_w]
              rfl
             refine last_ (i := 8) (N := none) #[true,true,true,true,true,true,true,true,true,false] rfl rfl (one_of HT_.out (by kernel_rfl)) (by decide) (fun K hK => ?_)
             have hs97 : w96.cell? ⟨gb385,0,none⟩ = some (.string t410) := (blk_cell BK385.out 0).trans rfl
             have hfs97 := blk_frozen BK385.out 0
             have hns97_0 := NB384_385.out
             have hms97_0 := NB385_384.out
             have hs98 : w96.cell? ⟨gb385,1,none⟩ = some (.string ⟨#[]⟩) := (blk_cell BK385.out 1).trans rfl
             have hfs98 := blk_frozen BK385.out 1
             have hns98_0 := NB384_385.out
             have hms98_0 := NB385_384.out
             have hs99 : w96.cell? ⟨gb385,2,none⟩ = some (.string ⟨#[]⟩) := (blk_cell BK385.out 2).trans rfl
             have hfs99 := blk_frozen BK385.out 2
             have hns99_0 := NB384_385.out
             have hms99_0 := NB385_384.out
             have hs100 : w96.cell? ⟨gb385,3,none⟩ = some (.string ⟨#[]⟩) := (blk_cell BK385.out 3).trans rfl
             have hfs100 := blk_frozen BK385.out 3
             have hns100_0 := NB384_385.out
             have hms100_0 := NB385_384.out
             have hs101 : w96.cell? ⟨gb385,4,none⟩ = some (.string ⟨#[]⟩) := (blk_cell BK385.out 4).trans rfl
             have hfs101 := blk_frozen BK385.out 4
             have hns101_0 := NB384_385.out
             have hms101_0 := NB385_384.out
             have hs102 : w96.cell? ⟨gb385,5,none⟩ = some (.string ⟨#[]⟩) := (blk_cell BK385.out 5).trans rfl
             have hfs102 := blk_frozen BK385.out 5
             have hns102_0 := NB384_385.out
             have hms102_0 := NB385_384.out
             have hs103 : w96.cell? ⟨gb385,6,none⟩ = some (.string ⟨#[]⟩) := (blk_cell BK385.out 6).trans rfl
             have hfs103 := blk_frozen BK385.out 6
             have hns103_0 := NB384_385.out
             have hms103_0 := NB385_384.out
             have hs104 : w96.cell? ⟨gb385,7,none⟩ = some (.string ⟨#[]⟩) := (blk_cell BK385.out 7).trans rfl
             have hfs104 := blk_frozen BK385.out 7
             have hns104_0 := NB384_385.out
             have hms104_0 := NB385_384.out
             refine skip_ (w1 := ?_) (by rfl) rfl ?_ ?_
             rotate_left
             ·
              go_simp
              rfl
             refine hK.out _ _ ?_
             clear hK K
             refine pure_ (i := 9) (N := some 11) (v := ?_) (a' := ?_) #[true,true,true,true,true,true,true,true,true,true] rfl rfl (any_of HT_.out (by kernel_rfl)) (fun _ _ _ h => h) (Or.inl ⟨by rfl,?_⟩) ?_ ?_
             rotate_left
             ·
              intro w'
              go_simp
              with_reducible rfl
             rotate_left
             ·
              simp only [Act.put,List.setIfInBounds_toArray,List.set_cons_zero,List.set_cons_succ,i64_w,i32_w]
              rfl
             refine done_ (done_of HT_.out (by kernel_rfl)) ?_
             have hcz105_0 : w96.cell? ⟨gb385,0,none⟩ = some (.string t410) := (blk_cell BK385.out 0).trans rfl
             have hcz105_1 : w96.cell? ⟨gb385,1,none⟩ = some (.string ⟨#[]⟩) := (blk_cell BK385.out 1).trans rfl
             have hcz105_2 : w96.cell? ⟨gb385,2,none⟩ = some (.string ⟨#[]⟩) := (blk_cell BK385.out 2).trans rfl
             have hcz105_3 : w96.cell? ⟨gb385,3,none⟩ = some (.string ⟨#[]⟩) := (blk_cell BK385.out 3).trans rfl
             have hcz105_4 : w96.cell? ⟨gb385,4,none⟩ = some (.string ⟨#[]⟩) := (blk_cell BK385.out 4).trans rfl
             have hcz105_5 : w96.cell? ⟨gb385,5,none⟩ = some (.string ⟨#[]⟩) := (blk_cell BK385.out 5).trans rfl
             have hcz105_6 : w96.cell? ⟨gb385,6,none⟩ = some (.string ⟨#[]⟩) := (blk_cell BK385.out 6).trans rfl
             have hcz105_7 : w96.cell? ⟨gb385,7,none⟩ = some (.string ⟨#[]⟩) := (blk_cell BK385.out 7).trans rfl
             have hfz105_0 := blk_frozen BK385.out 0
             have hfz105_1 := blk_frozen BK385.out 1
             have hfz105_2 := blk_frozen BK385.out 2
             have hfz105_3 := blk_frozen BK385.out 3
             have hfz105_4 := blk_frozen BK385.out 4
             have hfz105_5 := blk_frozen BK385.out 5
             have hfz105_6 := blk_frozen BK385.out 6
             have hfz105_7 := blk_frozen BK385.out 7
             have hcz106_0 : w96.cell? ⟨gb384,0,none⟩ = some (.string ⟨#[]⟩) := (blk_cell BK384.out 0).trans rfl
             have hcz106_1 : w96.cell? ⟨gb384,1,none⟩ = some (.string ⟨#[]⟩) := (blk_cell BK384.out 1).trans rfl
             have hcz106_2 : w96.cell? ⟨gb384,2,none⟩ = some (.string ⟨#[]⟩) := (blk_cell BK384.out 2).trans rfl
             have hcz106_3 : w96.cell? ⟨gb384,3,none⟩ = some (.string ⟨#[]⟩) := (blk_cell BK384.out 3).trans rfl
             have hcz106_4 : w96.cell? ⟨gb384,4,none⟩ = some (.string ⟨#[]⟩) := (blk_cell BK384.out 4).trans rfl
             have hcz106_5 : w96.cell? ⟨gb384,5,none⟩ = some (.string ⟨#[]⟩) := (blk_cell BK384.out 5).trans rfl
             have hcz106_6 : w96.cell? ⟨gb384,6,none⟩ = some (.string ⟨#[]⟩) := (blk_cell BK384.out 6).trans rfl
             have hcz106_7 : w96.cell? ⟨gb384,7,none⟩ = some (.string ⟨#[]⟩) := (blk_cell BK384.out 7).trans rfl
             have hfz106_0 := blk_frozen BK384.out 0
             have hfz106_1 := blk_frozen BK384.out 1
             have hfz106_2 := blk_frozen BK384.out 2
             have hfz106_3 := blk_frozen BK384.out 3
             have hfz106_4 := blk_frozen BK384.out 4
             have hfz106_5 := blk_frozen BK384.out 5
             have hfz106_6 := blk_frozen BK384.out 6
             have hfz106_7 := blk_frozen BK384.out 7
             try go_wp2
             refine bodyPost_ret (results_ct rfl _ _ gb384 37 #[.string t412,.string t413,.string t414,.string t415,.string t416,.string t417,.string t418,.string t419] (0,0) _ rfl (by (with_reducible repeat (first|apply q1|apply q2|apply q3));refine blk_put (cs := #[.string t412,.string t413,.string t414,.string t415,.string t416,.string t417,.string t418,.string ⟨#[]⟩]) ?_ 7 _ rfl;(with_reducible repeat (first|apply q1|apply q2|apply q3));refine blk_put (cs := #[.string t412,.string t413,.string t414,.string t415,.string t416,.string t417,.string ⟨#[]⟩,.string ⟨#[]⟩]) ?_ 6 _ rfl;(with_reducible repeat (first|apply q1|apply q2|apply q3));refine blk_put (cs := #[.string t412,.string t413,.string t414,.string t415,.string t416,.string ⟨#[]⟩,.string ⟨#[]⟩,.string ⟨#[]⟩]) ?_ 5 _ rfl;(with_reducible repeat (first|apply q1|apply q2|apply q3));refine blk_put (cs := #[.string t412,.string t413,.string t414,.string t415,.string ⟨#[]⟩,.string ⟨#[]⟩,.string ⟨#[]⟩,.string ⟨#[]⟩]) ?_ 4 _ rfl;(with_reducible repeat (first|apply q1|apply q2|apply q3));refine blk_put (cs := #[.string t412,.string t413,.string t414,.string ⟨#[]⟩,.string ⟨#[]⟩,.string ⟨#[]⟩,.string ⟨#[]⟩,.string ⟨#[]⟩]) ?_ 3 _ rfl;(with_reducible repeat (first|apply q1|apply q2|apply q3));refine blk_put (cs := #[.string t412,.string t413,.string ⟨#[]⟩,.string ⟨#[]⟩,.string ⟨#[]⟩,.string ⟨#[]⟩,.string ⟨#[]⟩,.string ⟨#[]⟩]) ?_ 2 _ rfl;(with_reducible repeat (first|apply q1|apply q2|apply q3));refine blk_put (cs := #[.string t412,.string ⟨#[]⟩,.string ⟨#[]⟩,.string ⟨#[]⟩,.string ⟨#[]⟩,.string ⟨#[]⟩,.string ⟨#[]⟩,.string ⟨#[]⟩]) ?_ 1 _ rfl;(with_reducible repeat (first|apply q1|apply q2|apply q3));refine blk_put (cs := #[.string ⟨#[]⟩,.string ⟨#[]⟩,.string ⟨#[]⟩,.string ⟨#[]⟩,.string ⟨#[]⟩,.string ⟨#[]⟩,.string ⟨#[]⟩,.string ⟨#[]⟩]) ?_ 0 _ rfl;(with_reducible repeat (first|apply q1|apply q2|apply q3));refine blk_far ?_ NB384_385.out _;(with_reducible repeat (first|apply q1|apply q2|apply q3));refine blk_far ?_ NB384_385.out _;(with_reducible repeat (first|apply q1|apply q2|apply q3));refine blk_far ?_ NB384_385.out _;(with_reducible repeat (first|apply q1|apply q2|apply q3));refine blk_far ?_ NB384_385.out _;(with_reducible repeat (first|apply q1|apply q2|apply q3));refine blk_far ?_ NB384_385.out _;(with_reducible repeat (first|apply q1|apply q2|apply q3));refine blk_far ?_ NB384_385.out _;(with_reducible repeat (first|apply q1|apply q2|apply q3));refine blk_far ?_ NB384_385.out _;(with_reducible repeat (first|apply q1|apply q2|apply q3));refine blk_far ?_ NB384_385.out _;(with_reducible repeat (first|apply q1|apply q2|apply q3));exact BK384.out) Try.underlying37 rfl (by kernel_rfl)) rfl ?_
             exact ⟨by first|rfl|(simp [errW_none,errW_some] <;> rfl)|(simp only [← hji82];first|rfl|(simp [errW_none,errW_some] <;> rfl))|(simp [*,errW_none,errW_some] <;> rfl),bl2_ HB.out GE384.out GE385.out⟩
            rw [if_neg c90] at H
            have c90b0 : (t411 == ((a1.extract ((ji82) : Int).toNat a1.size).size : Int)) = false := beq_eq_false_iff_ne.mpr c90
            (try (have c90b0t := c90b0;simp only [ByteArray.size_extract,Nat.min_self] at c90b0t))
            have c90b1 : (t411 != ((a1.extract ((ji82) : Int).toNat a1.size).size : Int)) = true := bne_iff_ne.mpr c90
            (try (have c90b1t := c90b1;simp only [ByteArray.size_extract,Nat.min_self] at c90b1t))
            by_cases c107 : t411 < ((a1.extract ((ji82) : Int).toNat a1.size).size : Int)
            ·
             rw [if_pos c107] at H
             have c107b0 : decide (t411 < ((a1.extract ((ji82) : Int).toNat a1.size).size : Int)) = true := decide_eq_true c107
             (try (have c107b0t := c107b0;simp only [ByteArray.size_extract,Nat.min_self] at c107b0t))
             (try (have c107b0s := of_decide_eq_true c107b0;simp at c107b0s;replace c107b0s := eq_true c107b0s))
             clear c107
             by_cases c109 : (bt (a1.extract ((ji82) : Int).toNat a1.size) t411) = 47
             ·
              rw [if_pos c109] at H
              have c109b0 : ((bt (a1.extract ((ji82) : Int).toNat a1.size) t411) == 47) = true := beq_iff_eq.mpr c109
              have c109b1 : ((bt (a1.extract ((ji82) : Int).toNat a1.size) t411) != 47) = false := bne_eq_false_iff_eq.mpr c109
              clear c109
              have c110b0 := eq_true (odt_ : 0 ≤ t411)
              have c111b0 := eq_true (odt_ : t411 ≤ ((a1.extract ((ji82) : Int).toNat a1.size).size : Int))
              replace H := Option.bind_eq_some_iff.mp H
              obtain ⟨⟨t421,t422,t423,t424,t425,t426,t427,t428,t429⟩,A1120,H⟩ := H
              replace H : (some (t421,t422,t423,t424,t425,t426,t427,t428,t429)) = some (r1,r2,r3,r4,r5,r6,r7,r8,r9) := H
              have A112 := Aside0.mk A1120
              clear A1120
              simp only [Option.some.injEq,Prod.mk.injEq] at H
              obtain ⟨rfl,rfl,rfl,rfl,rfl,rfl,rfl,rfl,rfl⟩ := H
              try go_wp2_with (first|((with_reducible refine gate_callee (f := 39) rfl ?_);refine goesL_ (some 74) rfl rfl Try.func39 (by kernel_rfl) rfl #[.string a1] rfl (by (try simp only [List.map_toArray,List.map_cons,List.map_nil]);first|done|rfl|(simp only [ByteArray.size_extract,Nat.min_self];first|done|rfl)|(simp only [List.length_drop,List.length_take];rfl)) ?_;(with_reducible refine (spec_schemeOf.calls kj14 a1 t409 _ A74.out).mono ?_);rintro e w' ⟨rfl,⟨nd,rfl⟩⟩;refine ⟨_,rfl,?_⟩;(try (rw [drewN_self wc];generalize hq_ : World.drewN wc _ = wc;have n0_ : Aside0 (wc.heap[gb384]? = some (.cells #[.string ⟨#[]⟩,.string ⟨#[]⟩,.string ⟨#[]⟩,.string ⟨#[]⟩,.string ⟨#[]⟩,.string ⟨#[]⟩,.string ⟨#[]⟩,.string ⟨#[]⟩] 37 (0,0))) := ⟨by rw [← hq_];exact (bk_ BK384.out)⟩;have n1_ : Aside0 (wc.heap[gb385]? = some (.cells #[.string ⟨#[104,116,116,112]⟩,.string ⟨#[]⟩,.string ⟨#[]⟩,.string ⟨#[]⟩,.string ⟨#[]⟩,.string ⟨#[]⟩,.string ⟨#[]⟩,.string ⟨#[]⟩] 37 (0,0))) := ⟨by rw [← hq_];exact (bk_ BK385.out)⟩;have n2_ : Aside0 (Below w.heap.size w wc) := ⟨by rw [← hq_];exact (bl2_ HB.out GE384.out GE385.out)⟩;clear BK384 BK385 HB hq_;have BK384 := n0_;have BK385 := n1_;have HB := n2_;clear n0_ n1_ n2_)))|((with_reducible refine gate_callee (f := 42) rfl ?_);refine goesL_ (some 81) rfl rfl Try.func42 (by kernel_rfl) rfl #[.string (a1.extract 0 (t409 : Int).toNat)] rfl (by (try simp only [List.map_toArray,List.map_cons,List.map_nil]);first|done|rfl|(simp only [ByteArray.size_extract,Nat.min_self];first|done|rfl)|(simp only [List.length_drop,List.length_take];rfl)) ?_;(with_reducible refine (spec_Lower.calls (a1.extract 0 (t409 : Int).toNat) t410 _ A81.out).mono ?_);rintro e w113 ⟨rfl,hb⟩;refine ⟨_,rfl,?_⟩;have n0_ := Aside0.mk (blk_below (g := gb384) (bk_ BK384.out) hb);have n1_ := Aside0.mk (blk_below (g := gb385) (bk_ BK385.out) hb);have n2_ := Aside0.mk (below_step (bl2_ HB.out GE384.out GE385.out) hb);clear BK384;clear BK385;clear HB;have BK384 := n0_;have BK385 := n1_;have HB := n2_;clear n0_ n1_ n2_;(try clear hb);(try clear hb2);(try clear hk);(try clear hi);have hnb114 := NB385_384.out;have hnc114 := NB384_385.out;have hcz115_0 : w113.cell? ⟨gb385,0,none⟩ = some (.string ⟨#[104,116,116,112]⟩) := (blk_cell BK385.out 0).trans rfl;have hcz115_1 : w113.cell? ⟨gb385,1,none⟩ = some (.string ⟨#[]⟩) := (blk_cell BK385.out 1).trans rfl;have hcz115_2 : w113.cell? ⟨gb385,2,none⟩ = some (.string ⟨#[]⟩) := (blk_cell BK385.out 2).trans rfl;have hcz115_3 : w113.cell? ⟨gb385,3,none⟩ = some (.string ⟨#[]⟩) := (blk_cell BK385.out 3).trans rfl;have hcz115_4 : w113.cell? ⟨gb385,4,none⟩ = some (.string ⟨#[]⟩) := (blk_cell BK385.out 4).trans rfl;have hcz115_5 : w113.cell? ⟨gb385,5,none⟩ = some (.string ⟨#[]⟩) := (blk_cell BK385.out 5).trans rfl;have hcz115_6 : w113.cell? ⟨gb385,6,none⟩ = some (.string ⟨#[]⟩) := (blk_cell BK385.out 6).trans rfl;have hcz115_7 : w113.cell? ⟨gb385,7,none⟩ = some (.string ⟨#[]⟩) := (blk_cell BK385.out 7).trans rfl;have hfz115_0 := blk_frozen BK385.out 0;have hfz115_1 := blk_frozen BK385.out 1;have hfz115_2 := blk_frozen BK385.out 2;have hfz115_3 := blk_frozen BK385.out 3;have hfz115_4 := blk_frozen BK385.out 4;have hfz115_5 := blk_frozen BK385.out 5;have hfz115_6 := blk_frozen BK385.out 6;have hfz115_7 := blk_frozen BK385.out 7)|((with_reducible refine gate_callee (f := 43) rfl ?_);refine goesL_ (some 88) rfl rfl Try.func43 (by kernel_rfl) rfl #[.string (a1.extract ((ji82) : Int).toNat a1.size)] rfl (by (try simp only [List.map_toArray,List.map_cons,List.map_nil]);first|done|(simp only [hji82];rfl)|rfl|(simp only [ByteArray.size_extract,Nat.min_self];first|done|rfl)|(simp only [List.length_drop,List.length_take];rfl)) ?_;(with_reducible refine (spec_until.calls kj14 (a1.extract ((ji82) : Int).toNat a1.size) t411 _ A85.out).mono ?_);rintro e w' ⟨rfl,⟨nd,rfl⟩⟩;refine ⟨_,rfl,?_⟩))
              have n0_ : Aside0 ((w113.setCell ⟨gb385,0,none⟩ (.string t410)).heap[gb384]? = some (.cells #[.string ⟨#[]⟩,.string ⟨#[]⟩,.string ⟨#[]⟩,.string ⟨#[]⟩,.string ⟨#[]⟩,.string ⟨#[]⟩,.string ⟨#[]⟩,.string ⟨#[]⟩] 37 (0,0))) := ⟨by (with_reducible repeat (first|apply q1|apply q2|apply q3));refine blk_far ?_ NB384_385.out _;(with_reducible repeat (first|apply q1|apply q2|apply q3));exact BK384.out⟩
              have n1_ : Aside0 ((w113.setCell ⟨gb385,0,none⟩ (.string t410)).heap[gb385]? = some (.cells #[.string t410,.string ⟨#[]⟩,.string ⟨#[]⟩,.string ⟨#[]⟩,.string ⟨#[]⟩,.string ⟨#[]⟩,.string ⟨#[]⟩,.string ⟨#[]⟩] 37 (0,0))) := ⟨by (with_reducible repeat (first|apply q1|apply q2|apply q3));refine blk_put (cs := #[.string ⟨#[104,116,116,112]⟩,.string ⟨#[]⟩,.string ⟨#[]⟩,.string ⟨#[]⟩,.string ⟨#[]⟩,.string ⟨#[]⟩,.string ⟨#[]⟩,.string ⟨#[]⟩]) ?_ 0 _ rfl;(with_reducible repeat (first|apply q1|apply q2|apply q3));exact BK385.out⟩
              have n2_ : Aside0 (Below w.heap.size w (w113.setCell ⟨gb385,0,none⟩ (.string t410))) := ⟨bl2_ HB.out GE384.out GE385.out⟩
              (try clear BK384)
              (try clear BK385)
              (try clear HB)
              generalize (w113.setCell ⟨gb385,0,none⟩ (.string t410)) = w116 at n0_ n1_ n2_ ⊢
              have BK384 := n0_
              have BK385 := n1_
              have HB := n2_
              clear n0_ n1_ n2_
              (try (rw [drewN_self w116];generalize hq_ : World.drewN w116 _ = w116;have n0_ : Aside0 (w116.heap[gb384]? = some (.cells #[.string ⟨#[]⟩,.string ⟨#[]⟩,.string ⟨#[]⟩,.string ⟨#[]⟩,.string ⟨#[]⟩,.string ⟨#[]⟩,.string ⟨#[]⟩,.string ⟨#[]⟩] 37 (0,0))) := ⟨by rw [← hq_];exact (bk_ BK384.out)⟩;have n1_ : Aside0 (w116.heap[gb385]? = some (.cells #[.string t410,.string ⟨#[]⟩,.string ⟨#[]⟩,.string ⟨#[]⟩,.string ⟨#[]⟩,.string ⟨#[]⟩,.string ⟨#[]⟩,.string ⟨#[]⟩] 37 (0,0))) := ⟨by rw [← hq_];exact (bk_ BK385.out)⟩;have n2_ : Aside0 (Below w.heap.size w w116) := ⟨by rw [← hq_];exact (bl2_ HB.out GE384.out GE385.out)⟩;clear BK384 BK385 HB hq_;have BK384 := n0_;have BK385 := n1_;have HB := n2_;clear n0_ n1_ n2_))
              have n0_ := Aside0.mk (blk_drew BK384.out)
              have n1_ := Aside0.mk (blk_drew BK385.out)
              have n2_ := Aside0.mk (below_drew1 HB.out)
              clear BK384
              clear BK385
              clear HB
              have BK384 := n0_
              have BK385 := n1_
              have HB := n2_
              clear n0_ n1_ n2_
              refine start_ (n := 10) (S := fun w' => w'.cell? ⟨gb385,0,none⟩ = some (.string t410) ∧ w'.cell? ⟨gb385,1,none⟩ = some (.string ⟨#[]⟩) ∧ w'.cell? ⟨gb385,2,none⟩ = some (.string ⟨#[]⟩) ∧ w'.cell? ⟨gb385,3,none⟩ = some (.string ⟨#[]⟩) ∧ w'.cell? ⟨gb385,4,none⟩ = some (.string ⟨#[]⟩) ∧ w'.cell? ⟨gb385,5,none⟩ = some (.string ⟨#[]⟩) ∧ w'.cell? ⟨gb385,6,none⟩ = some (.string ⟨#[]⟩) ∧ w'.cell? ⟨gb385,7,none⟩ = some (.string ⟨#[]⟩)) (ds := [8]) #[false,false,false,false,false,false,false,false,false,false] (by kernel_rfl) rfl rfl ⟨(blk_cell BK385.out 0).trans rfl,(blk_cell BK385.out 1).trans rfl,(blk_cell BK385.out 2).trans rfl,(blk_cell BK385.out 3).trans rfl,(blk_cell BK385.out 4).trans rfl,(blk_cell BK385.out 5).trans rfl,(blk_cell BK385.out 6).trans rfl,(blk_cell BK385.out 7).trans rfl⟩ (fun hHeld => ?_);refine with_tabW spec_UriOf.tab15 spec_UriOf.bits15 (fun HT_ HW_ => ?_)
              generalize w116.drew = w117 at BK384 BK385 HB hHeld ⊢
              refine pure_ (i := 1) (N := some 91) (v := ?_) (a' := ?_) #[false,true,false,false,false,false,false,false,false,false] rfl rfl (any_of HT_.out (by kernel_rfl)) (fun _ _ _ h => h) (Or.inl ⟨by rfl,?_⟩) ?_ ?_
              rotate_left
              ·
               intro w'
               go_simp
               with_reducible rfl
              rotate_left
              ·
               simp only [Act.put,List.setIfInBounds_toArray,List.set_cons_zero,List.set_cons_succ,i64_w,i32_w]
               rfl
              refine pure_ (i := 2) (N := some 92) (v := ?_) (a' := ?_) #[false,true,true,false,false,false,false,false,false,false] rfl rfl (any_of HT_.out (by kernel_rfl)) (fun _ _ _ h => h) (Or.inl ⟨by rfl,?_⟩) ?_ ?_
              rotate_left
              ·
               intro w'
               go_simp
               with_reducible rfl
              rotate_left
              ·
               simp only [Act.put,List.setIfInBounds_toArray,List.set_cons_zero,List.set_cons_succ,i64_w,i32_w]
               rfl
              refine pure_ (i := 3) (N := some 93) (v := ?_) (a' := ?_) #[false,true,true,true,false,false,false,false,false,false] rfl rfl (any_of HT_.out (by kernel_rfl)) (fun _ _ _ h => h) (Or.inl ⟨by rfl,?_⟩) ?_ ?_
              rotate_left
              ·
               intro w'
               go_simp
               with_reducible rfl
              rotate_left
              ·
               simp only [Act.put,List.setIfInBounds_toArray,List.set_cons_zero,List.set_cons_succ,i64_w,i32_w]
               rfl
              refine take_ (i := 0) (N := some 90) (v := ?_) (a' := ?_) #[true,true,true,true,false,false,false,false,false,false] rfl rfl (take_ofW HT_.out HW_.out (by kernel_rfl)) (fun _ _ _ h => h) (Or.inl ⟨by rfl,?_⟩) hHeld ?_ ?_
              rotate_left
              ·
               rintro w' ⟨s0,s1,s2,s3,s4,s5,s6,s7⟩
               go_simp
               with_reducible rfl
              rotate_left
              ·
               simp only [Act.put,List.setIfInBounds_toArray,List.set_cons_zero,List.set_cons_succ,i64_w,i32_w]
               rfl
              refine one_ (i := 4) (N := some 94) #[true,true,true,true,true,false,false,false,false,false] rfl rfl (one_of HT_.out (by kernel_rfl)) (by decide) (fun K hK => ?_)
              refine goes_ Try.func38 (by kernel_rfl) rfl #[.agg #[.string t410,.string ⟨#[]⟩,.string ⟨#[]⟩,.string ⟨#[]⟩,.string ⟨#[]⟩,.string ⟨#[]⟩,.string ⟨#[]⟩,.string ⟨#[]⟩],.string ((a1.extract ((ji82) : Int).toNat a1.size).extract 0 (t411 : Int).toNat)] (by rfl) rfl rfl (by (try simp only [List.map_toArray,List.map_cons,List.map_nil]);first|done|(simp only [hji82];rfl)|rfl|(simp only [ByteArray.size_extract,Nat.min_self];first|done|rfl)|(simp only [List.length_drop,List.length_take];rfl)) ?_
              with_reducible refine (spec_Uri_authority.calls kj14 t410 ⟨#[]⟩ ⟨#[]⟩ ⟨#[]⟩ ⟨#[]⟩ ⟨#[]⟩ ⟨#[]⟩ ⟨#[]⟩ ((a1.extract ((ji82) : Int).toNat a1.size).extract 0 (t411 : Int).toNat) t412 t413 t414 t415 t416 t417 t418 t419 t420 _ A88.out).mono ?_
              rintro e w118 ⟨rfl,hb⟩
              refine ⟨_,rfl,?_⟩
              have n0_ := Aside0.mk (blk_below (g := gb384) (bk_ BK384.out) hb)
              have n1_ := Aside0.mk (blk_below (g := gb385) (bk_ BK385.out) hb)
              have n2_ := Aside0.mk (below_step (bl2_ HB.out GE384.out GE385.out) hb)
              clear BK384
              clear BK385
              clear HB
              have BK384 := n0_
              have BK385 := n1_
              have HB := n2_
              clear n0_ n1_ n2_
              (try clear hb)
              (try clear hb2)
              (try clear hk)
              (try clear hi)
              refine hK.out _ _ ⟨(blk_cell BK385.out 0).trans rfl,(blk_cell BK385.out 1).trans rfl,(blk_cell BK385.out 2).trans rfl,(blk_cell BK385.out 3).trans rfl,(blk_cell BK385.out 4).trans rfl,(blk_cell BK385.out 5).trans rfl,(blk_cell BK385.out 6).trans rfl,(blk_cell BK385.out 7).trans rfl⟩ (fun hHeld => ?_)
              clear hK K
              refine norm_ (a' := ?_) ?_ ?_
              rotate_left
              ·
               show Act.put _ (some 94) _ = _
               simp only [Act.put,List.setIfInBounds_toArray,List.set_cons_zero,List.set_cons_succ,i64_w,i32_w]
               rfl
              refine pure_ (i := 5) (N := some 89) (v := ?_) (a' := ?_) #[true,true,true,true,true,true,false,false,false,false] rfl rfl (any_of HT_.out (by kernel_rfl)) (fun _ _ _ h => h) (Or.inl ⟨by rfl,?_⟩) ?_ ?_
              rotate_left
              ·
               intro w'
               go_simp
               with_reducible rfl
              rotate_left
              ·
               simp only [Act.put,List.setIfInBounds_toArray,List.set_cons_zero,List.set_cons_succ,i64_w,i32_w]
               rfl
              refine pure_ (i := 6) (N := some 95) (v := ?_) (a' := ?_) #[true,true,true,true,true,true,true,false,false,false] rfl rfl (any_of HT_.out (by kernel_rfl)) (fun _ _ _ h => h) (Or.inl ⟨by rfl,?_⟩) ?_ ?_
              rotate_left
              ·
               intro w'
               go_simp
               with_reducible rfl
              rotate_left
              ·
               simp only [Act.put,List.setIfInBounds_toArray,List.set_cons_zero,List.set_cons_succ,i64_w,i32_w]
               rfl
              refine pure_ (i := 7) (N := some 96) (v := ?_) (a' := ?_) #[true,true,true,true,true,true,true,true,false,false] rfl rfl (any_of HT_.out (by kernel_rfl)) (fun _ _ _ h => h) (Or.inl ⟨by rfl,?_⟩) ?_ ?_
              rotate_left
              ·
               intro w'
               go_simp
               with_reducible rfl
              rotate_left
              ·
               simp only [Act.put,List.setIfInBounds_toArray,List.set_cons_zero,List.set_cons_succ,i64_w,i32_w]
               rfl
              refine last_ (i := 8) (N := none) #[true,true,true,true,true,true,true,true,true,false] rfl rfl (one_of HT_.out (by kernel_rfl)) (by decide) (fun K hK => ?_)
              have hs119 : w118.cell? ⟨gb385,0,none⟩ = some (.string t410) := (blk_cell BK385.out 0).trans rfl
              have hfs119 := blk_frozen BK385.out 0
              have hns119_0 := NB384_385.out
              have hms119_0 := NB385_384.out
              have hs120 : w118.cell? ⟨gb385,1,none⟩ = some (.string ⟨#[]⟩) := (blk_cell BK385.out 1).trans rfl
              have hfs120 := blk_frozen BK385.out 1
              have hns120_0 := NB384_385.out
              have hms120_0 := NB385_384.out
              have hs121 : w118.cell? ⟨gb385,2,none⟩ = some (.string ⟨#[]⟩) := (blk_cell BK385.out 2).trans rfl
              have hfs121 := blk_frozen BK385.out 2
              have hns121_0 := NB384_385.out
              have hms121_0 := NB385_384.out
              have hs122 : w118.cell? ⟨gb385,3,none⟩ = some (.string ⟨#[]⟩) := (blk_cell BK385.out 3).trans rfl
              have hfs122 := blk_frozen BK385.out 3
              have hns122_0 := NB384_385.out
              have hms122_0 := NB385_384.out
              have hs123 : w118.cell? ⟨gb385,4,none⟩ = some (.string ⟨#[]⟩) := (blk_cell BK385.out 4).trans rfl
              have hfs123 := blk_frozen BK385.out 4
              have hns123_0 := NB384_385.out
              have hms123_0 := NB385_384.out
              have hs124 : w118.cell? ⟨gb385,5,none⟩ = some (.string ⟨#[]⟩) := (blk_cell BK385.out 5).trans rfl
              have hfs124 := blk_frozen BK385.out 5
              have hns124_0 := NB384_385.out
              have hms124_0 := NB385_384.out
              have hs125 : w118.cell? ⟨gb385,6,none⟩ = some (.string ⟨#[]⟩) := (blk_cell BK385.out 6).trans rfl
              have hfs125 := blk_frozen BK385.out 6
              have hns125_0 := NB384_385.out
              have hms125_0 := NB385_384.out
              have hs126 : w118.cell? ⟨gb385,7,none⟩ = some (.string ⟨#[]⟩) := (blk_cell BK385.out 7).trans rfl
              have hfs126 := blk_frozen BK385.out 7
              have hns126_0 := NB384_385.out
              have hms126_0 := NB385_384.out
              refine skip_ (w1 := ?_) (by rfl) rfl ?_ ?_
              rotate_left
              ·
               go_simp
               rfl
              refine hK.out _ _ ?_
              clear hK K
              refine pure_ (i := 9) (N := some 11) (v := ?_) (a' := ?_) #[true,true,true,true,true,true,true,true,true,true] rfl rfl (any_of HT_.out (by kernel_rfl)) (fun _ _ _ h => h) (Or.inl ⟨by rfl,?_⟩) ?_ ?_
              rotate_left
              ·
               intro w'
               go_simp
               with_reducible rfl
              rotate_left
              ·
               simp only [Act.put,List.setIfInBounds_toArray,List.set_cons_zero,List.set_cons_succ,i64_w,i32_w]
               rfl
              refine done_ (done_of HT_.out (by kernel_rfl)) ?_
              have p108 : 0 ≤ (t411 : Int) := odt_
              have q108 : t411 < ((a1.extract ((ji82) : Int).toNat a1.size).size : Int) := odt_
              have hx108 := bt_at (a1.extract ((ji82) : Int).toNat a1.size) t411
              replace p108 := eq_true p108
              replace q108 := eq_true q108
              try go_wp2
              have n0_ : Aside0 (((((((((w118.setCell ⟨gb385,0,none⟩ (.string t412)).setCell ⟨gb385,1,none⟩ (.string t413)).setCell ⟨gb385,2,none⟩ (.string t414)).setCell ⟨gb385,3,none⟩ (.string t415)).setCell ⟨gb385,4,none⟩ (.string t416)).setCell ⟨gb385,5,none⟩ (.string t417)).setCell ⟨gb385,6,none⟩ (.string t418)).setCell ⟨gb385,7,none⟩ (.string t419)).heap[gb384]? = some (.cells #[.string ⟨#[]⟩,.string ⟨#[]⟩,.string ⟨#[]⟩,.string ⟨#[]⟩,.string ⟨#[]⟩,.string ⟨#[]⟩,.string ⟨#[]⟩,.string ⟨#[]⟩] 37 (0,0))) := ⟨by (with_reducible repeat (first|apply q1|apply q2|apply q3));refine blk_far ?_ NB384_385.out _;(with_reducible repeat (first|apply q1|apply q2|apply q3));refine blk_far ?_ NB384_385.out _;(with_reducible repeat (first|apply q1|apply q2|apply q3));refine blk_far ?_ NB384_385.out _;(with_reducible repeat (first|apply q1|apply q2|apply q3));refine blk_far ?_ NB384_385.out _;(with_reducible repeat (first|apply q1|apply q2|apply q3));refine blk_far ?_ NB384_385.out _;(with_reducible repeat (first|apply q1|apply q2|apply q3));refine blk_far ?_ NB384_385.out _;(with_reducible repeat (first|apply q1|apply q2|apply q3));refine blk_far ?_ NB384_385.out _;(with_reducible repeat (first|apply q1|apply q2|apply q3));refine blk_far ?_ NB384_385.out _;(with_reducible repeat (first|apply q1|apply q2|apply q3));exact BK384.out⟩
              have n1_ : Aside0 (((((((((w118.setCell ⟨gb385,0,none⟩ (.string t412)).setCell ⟨gb385,1,none⟩ (.string t413)).setCell ⟨gb385,2,none⟩ (.string t414)).setCell ⟨gb385,3,none⟩ (.string t415)).setCell ⟨gb385,4,none⟩ (.string t416)).setCell ⟨gb385,5,none⟩ (.string t417)).setCell ⟨gb385,6,none⟩ (.string t418)).setCell ⟨gb385,7,none⟩ (.string t419)).heap[gb385]? = some (.cells #[.string t412,.string t413,.string t414,.string t415,.string t416,.string t417,.string t418,.string t419] 37 (0,0))) := ⟨by (with_reducible repeat (first|apply q1|apply q2|apply q3));refine blk_put (cs := #[.string t412,.string t413,.string t414,.string t415,.string t416,.string t417,.string t418,.string ⟨#[]⟩]) ?_ 7 _ rfl;(with_reducible repeat (first|apply q1|apply q2|apply q3));refine blk_put (cs := #[.string t412,.string t413,.string t414,.string t415,.string t416,.string t417,.string ⟨#[]⟩,.string ⟨#[]⟩]) ?_ 6 _ rfl;(with_reducible repeat (first|apply q1|apply q2|apply q3));refine blk_put (cs := #[.string t412,.string t413,.string t414,.string t415,.string t416,.string ⟨#[]⟩,.string ⟨#[]⟩,.string ⟨#[]⟩]) ?_ 5 _ rfl;(with_reducible repeat (first|apply q1|apply q2|apply q3));refine blk_put (cs := #[.string t412,.string t413,.string t414,.string t415,.string ⟨#[]⟩,.string ⟨#[]⟩,.string ⟨#[]⟩,.string ⟨#[]⟩]) ?_ 4 _ rfl;(with_reducible repeat (first|apply q1|apply q2|apply q3));refine blk_put (cs := #[.string t412,.string t413,.string t414,.string ⟨#[]⟩,.string ⟨#[]⟩,.string ⟨#[]⟩,.string ⟨#[]⟩,.string ⟨#[]⟩]) ?_ 3 _ rfl;(with_reducible repeat (first|apply q1|apply q2|apply q3));refine blk_put (cs := #[.string t412,.string t413,.string ⟨#[]⟩,.string ⟨#[]⟩,.string ⟨#[]⟩,.string ⟨#[]⟩,.string ⟨#[]⟩,.string ⟨#[]⟩]) ?_ 2 _ rfl;(with_reducible repeat (first|apply q1|apply q2|apply q3));refine blk_put (cs := #[.string t412,.string ⟨#[]⟩,.string ⟨#[]⟩,.string ⟨#[]⟩,.string ⟨#[]⟩,.string ⟨#[]⟩,.string ⟨#[]⟩,.string ⟨#[]⟩]) ?_ 1 _ rfl;(with_reducible repeat (first|apply q1|apply q2|apply q3));refine blk_put (cs := #[.string t410,.string ⟨#[]⟩,.string ⟨#[]⟩,.string ⟨#[]⟩,.string ⟨#[]⟩,.string ⟨#[]⟩,.string ⟨#[]⟩,.string ⟨#[]⟩]) ?_ 0 _ rfl;(with_reducible repeat (first|apply q1|apply q2|apply q3));exact BK385.out⟩
              have n2_ : Aside0 (Below w.heap.size w ((((((((w118.setCell ⟨gb385,0,none⟩ (.string t412)).setCell ⟨gb385,1,none⟩ (.string t413)).setCell ⟨gb385,2,none⟩ (.string t414)).setCell ⟨gb385,3,none⟩ (.string t415)).setCell ⟨gb385,4,none⟩ (.string t416)).setCell ⟨gb385,5,none⟩ (.string t417)).setCell ⟨gb385,6,none⟩ (.string t418)).setCell ⟨gb385,7,none⟩ (.string t419))) := ⟨bl2_ HB.out GE384.out GE385.out⟩
              (try clear BK384)
              (try clear BK385)
              (try clear HB)
              generalize ((((((((w118.setCell ⟨gb385,0,none⟩ (.string t412)).setCell ⟨gb385,1,none⟩ (.string t413)).setCell ⟨gb385,2,none⟩ (.string t414)).setCell ⟨gb385,3,none⟩ (.string t415)).setCell ⟨gb385,4,none⟩ (.string t416)).setCell ⟨gb385,5,none⟩ (.string t417)).setCell ⟨gb385,6,none⟩ (.string t418)).setCell ⟨gb385,7,none⟩ (.string t419)) = w127 at n0_ n1_ n2_ ⊢
              have BK384 := n0_
              have BK385 := n1_
              have HB := n2_
              clear n0_ n1_ n2_
              have n0_ := Aside0.mk (blk_drew BK384.out)
              have n1_ := Aside0.mk (blk_drew BK385.out)
              have n2_ := Aside0.mk (below_drew1 HB.out)
              clear BK384
              clear BK385
              clear HB
              have BK384 := n0_
              have BK385 := n1_
              have HB := n2_
              clear n0_ n1_ n2_
              refine start_ (n := 9) (S := fun w' => w'.cell? ⟨gb385,0,none⟩ = some (.string t412) ∧ w'.cell? ⟨gb385,1,none⟩ = some (.string t413) ∧ w'.cell? ⟨gb385,2,none⟩ = some (.string t414) ∧ w'.cell? ⟨gb385,3,none⟩ = some (.string t415) ∧ w'.cell? ⟨gb385,4,none⟩ = some (.string t416) ∧ w'.cell? ⟨gb385,5,none⟩ = some (.string t417) ∧ w'.cell? ⟨gb385,6,none⟩ = some (.string t418) ∧ w'.cell? ⟨gb385,7,none⟩ = some (.string t419)) (ds := []) #[false,false,false,false,false,false,false,false,false] (by kernel_rfl) rfl rfl ⟨(blk_cell BK385.out 0).trans rfl,(blk_cell BK385.out 1).trans rfl,(blk_cell BK385.out 2).trans rfl,(blk_cell BK385.out 3).trans rfl,(blk_cell BK385.out 4).trans rfl,(blk_cell BK385.out 5).trans rfl,(blk_cell BK385.out 6).trans rfl,(blk_cell BK385.out 7).trans rfl⟩ (fun hHeld => ?_);refine with_tabW spec_UriOf.tab18 spec_UriOf.bits18 (fun HT_ HW_ => ?_)
              generalize w127.drew = w128 at BK384 BK385 HB hHeld ⊢
              refine pure_ (i := 1) (N := some 113) (v := ?_) (a' := ?_) #[false,true,false,false,false,false,false,false,false] rfl rfl (any_of HT_.out (by kernel_rfl)) (fun _ _ _ h => h) (Or.inl ⟨by rfl,?_⟩) ?_ ?_
              rotate_left
              ·
               intro w'
               go_simp
               with_reducible rfl
              rotate_left
              ·
               simp only [Act.put,List.setIfInBounds_toArray,List.set_cons_zero,List.set_cons_succ,i64_w,i32_w]
               rfl
              refine pure_ (i := 2) (N := some 114) (v := ?_) (a' := ?_) #[false,true,true,false,false,false,false,false,false] rfl rfl (any_of HT_.out (by kernel_rfl)) (fun _ _ _ h => h) (Or.inl ⟨by rfl,?_⟩) ?_ ?_
              rotate_left
              ·
               intro w'
               go_simp
               with_reducible rfl
              rotate_left
              ·
               simp only [Act.put,List.setIfInBounds_toArray,List.set_cons_zero,List.set_cons_succ,i64_w,i32_w]
               rfl
              refine pure_ (i := 3) (N := some 115) (v := ?_) (a' := ?_) #[false,true,true,true,false,false,false,false,false] rfl rfl (any_of HT_.out (by kernel_rfl)) (fun _ _ _ h => h) (Or.inl ⟨by rfl,?_⟩) ?_ ?_
              rotate_left
              ·
               intro w'
               go_simp
               with_reducible rfl
              rotate_left
              ·
               simp only [Act.put,List.setIfInBounds_toArray,List.set_cons_zero,List.set_cons_succ,i64_w,i32_w]
               rfl
              refine take_ (i := 0) (N := some 112) (v := ?_) (a' := ?_) #[true,true,true,true,false,false,false,false,false] rfl rfl (take_ofW HT_.out HW_.out (by kernel_rfl)) (fun _ _ _ h => h) (Or.inl ⟨by rfl,?_⟩) hHeld ?_ ?_
              rotate_left
              ·
               rintro w' ⟨s0,s1,s2,s3,s4,s5,s6,s7⟩
               go_simp
               with_reducible rfl
              rotate_left
              ·
               simp only [Act.put,List.setIfInBounds_toArray,List.set_cons_zero,List.set_cons_succ,i64_w,i32_w]
               rfl
              refine one_ (i := 4) (N := some 116) #[true,true,true,true,true,false,false,false,false] rfl rfl (one_of HT_.out (by kernel_rfl)) (by decide) (fun K hK => ?_)
              refine goes_ Try.func41 (by kernel_rfl) rfl #[.agg #[.string t412,.string t413,.string t414,.string t415,.string t416,.string t417,.string t418,.string t419],.string ((a1.extract ((ji82) : Int).toNat a1.size).extract (t411 : Int).toNat (a1.extract ((ji82) : Int).toNat a1.size).size)] (by rfl) rfl rfl (by (try simp only [List.map_toArray,List.map_cons,List.map_nil]);first|done|(simp only [hji82];rfl)|rfl|(simp only [ByteArray.size_extract,Nat.min_self];first|done|rfl)|(simp only [List.length_drop,List.length_take];rfl)) ?_
              with_reducible refine (spec_Uri_request.calls kj14 t412 t413 t414 t415 t416 t417 t418 t419 ((a1.extract ((ji82) : Int).toNat a1.size).extract (t411 : Int).toNat (a1.extract ((ji82) : Int).toNat a1.size).size) t421 t422 t423 t424 t425 t426 t427 t428 t429 _ A112.out).mono ?_
              rintro e w129 ⟨rfl,hb⟩
              refine ⟨_,rfl,?_⟩
              have n0_ := Aside0.mk (blk_below (g := gb384) (bk_ BK384.out) hb)
              have n1_ := Aside0.mk (blk_below (g := gb385) (bk_ BK385.out) hb)
              have n2_ := Aside0.mk (below_step (bl2_ HB.out GE384.out GE385.out) hb)
              clear BK384
              clear BK385
              clear HB
              have BK384 := n0_
              have BK385 := n1_
              have HB := n2_
              clear n0_ n1_ n2_
              (try clear hb)
              (try clear hb2)
              (try clear hk)
              (try clear hi)
              refine hK.out _ _ ⟨(blk_cell BK385.out 0).trans rfl,(blk_cell BK385.out 1).trans rfl,(blk_cell BK385.out 2).trans rfl,(blk_cell BK385.out 3).trans rfl,(blk_cell BK385.out 4).trans rfl,(blk_cell BK385.out 5).trans rfl,(blk_cell BK385.out 6).trans rfl,(blk_cell BK385.out 7).trans rfl⟩ (fun hHeld => ?_)
              clear hK K
              refine norm_ (a' := ?_) ?_ ?_
              rotate_left
              ·
               show Act.put _ (some 116) _ = _
               simp only [Act.put,List.setIfInBounds_toArray,List.set_cons_zero,List.set_cons_succ,i64_w,i32_w]
               rfl
              refine pure_ (i := 5) (N := some 117) (v := ?_) (a' := ?_) #[true,true,true,true,true,true,false,false,false] rfl rfl (any_of HT_.out (by kernel_rfl)) (fun _ _ _ h => h) (Or.inl ⟨by rfl,?_⟩) ?_ ?_
              rotate_left
              ·
               intro w'
               go_simp
               with_reducible rfl
              rotate_left
              ·
               simp only [Act.put,List.setIfInBounds_toArray,List.set_cons_zero,List.set_cons_succ,i64_w,i32_w]
               rfl
              refine pure_ (i := 6) (N := some 118) (v := ?_) (a' := ?_) #[true,true,true,true,true,true,true,false,false] rfl rfl (any_of HT_.out (by kernel_rfl)) (fun _ _ _ h => h) (Or.inl ⟨by rfl,?_⟩) ?_ ?_
              rotate_left
              ·
               intro w'
               go_simp
               with_reducible rfl
              rotate_left
              ·
               simp only [Act.put,List.setIfInBounds_toArray,List.set_cons_zero,List.set_cons_succ,i64_w,i32_w]
               rfl
              refine one_ (i := 7) (N := none) #[true,true,true,true,true,true,true,true,false] rfl rfl (one_of HT_.out (by kernel_rfl)) (by decide) (fun K hK => ?_)
              have hs130 : w129.cell? ⟨gb384,0,none⟩ = some (.string ⟨#[]⟩) := (blk_cell BK384.out 0).trans rfl
              have hfs130 := blk_frozen BK384.out 0
              have hns130_1 := NB385_384.out
              have hms130_1 := NB384_385.out
              have hs131 : w129.cell? ⟨gb384,1,none⟩ = some (.string ⟨#[]⟩) := (blk_cell BK384.out 1).trans rfl
              have hfs131 := blk_frozen BK384.out 1
              have hns131_1 := NB385_384.out
              have hms131_1 := NB384_385.out
              have hs132 : w129.cell? ⟨gb384,2,none⟩ = some (.string ⟨#[]⟩) := (blk_cell BK384.out 2).trans rfl
              have hfs132 := blk_frozen BK384.out 2
              have hns132_1 := NB385_384.out
              have hms132_1 := NB384_385.out
              have hs133 : w129.cell? ⟨gb384,3,none⟩ = some (.string ⟨#[]⟩) := (blk_cell BK384.out 3).trans rfl
              have hfs133 := blk_frozen BK384.out 3
              have hns133_1 := NB385_384.out
              have hms133_1 := NB384_385.out
              have hs134 : w129.cell? ⟨gb384,4,none⟩ = some (.string ⟨#[]⟩) := (blk_cell BK384.out 4).trans rfl
              have hfs134 := blk_frozen BK384.out 4
              have hns134_1 := NB385_384.out
              have hms134_1 := NB384_385.out
              have hs135 : w129.cell? ⟨gb384,5,none⟩ = some (.string ⟨#[]⟩) := (blk_cell BK384.out 5).trans rfl
              have hfs135 := blk_frozen BK384.out 5
              have hns135_1 := NB385_384.out
              have hms135_1 := NB384_385.out
              have hs136 : w129.cell? ⟨gb384,6,none⟩ = some (.string ⟨#[]⟩) := (blk_cell BK384.out 6).trans rfl
              have hfs136 := blk_frozen BK384.out 6
              have hns136_1 := NB385_384.out
              have hms136_1 := NB384_385.out
              have hs137 : w129.cell? ⟨gb384,7,none⟩ = some (.string ⟨#[]⟩) := (blk_cell BK384.out 7).trans rfl
              have hfs137 := blk_frozen BK384.out 7
              have hns137_1 := NB385_384.out
              have hms137_1 := NB384_385.out
              refine skip_ (w1 := ?_) (by rfl) rfl ?_ ?_
              rotate_left
              ·
               go_simp
               rfl
              refine hK.out _ _ ⟨((cell_far (p := ⟨gb384,_,none⟩) NB385_384.out _).trans (((cell_far (p := ⟨gb384,_,none⟩) NB385_384.out _).trans (((cell_far (p := ⟨gb384,_,none⟩) NB385_384.out _).trans (((cell_far (p := ⟨gb384,_,none⟩) NB385_384.out _).trans (((cell_far (p := ⟨gb384,_,none⟩) NB385_384.out _).trans (((cell_far (p := ⟨gb384,_,none⟩) NB385_384.out _).trans (((cell_far (p := ⟨gb384,_,none⟩) NB385_384.out _).trans (((cell_far (p := ⟨gb384,_,none⟩) NB385_384.out _).trans (hHeld.1)))))))))))))))),((cell_far (p := ⟨gb384,_,none⟩) NB385_384.out _).trans (((cell_far (p := ⟨gb384,_,none⟩) NB385_384.out _).trans (((cell_far (p := ⟨gb384,_,none⟩) NB385_384.out _).trans (((cell_far (p := ⟨gb384,_,none⟩) NB385_384.out _).trans (((cell_far (p := ⟨gb384,_,none⟩) NB385_384.out _).trans (((cell_far (p := ⟨gb384,_,none⟩) NB385_384.out _).trans (((cell_far (p := ⟨gb384,_,none⟩) NB385_384.out _).trans (((cell_far (p := ⟨gb384,_,none⟩) NB385_384.out _).trans (hHeld.2.1)))))))))))))))),((cell_far (p := ⟨gb384,_,none⟩) NB385_384.out _).trans (((cell_far (p := ⟨gb384,_,none⟩) NB385_384.out _).trans (((cell_far (p := ⟨gb384,_,none⟩) NB385_384.out _).trans (((cell_far (p := ⟨gb384,_,none⟩) NB385_384.out _).trans (((cell_far (p := ⟨gb384,_,none⟩) NB385_384.out _).trans (((cell_far (p := ⟨gb384,_,none⟩) NB385_384.out _).trans (((cell_far (p := ⟨gb384,_,none⟩) NB385_384.out _).trans (((cell_far (p := ⟨gb384,_,none⟩) NB385_384.out _).trans (hHeld.2.2.1)))))))))))))))),((cell_far (p := ⟨gb384,_,none⟩) NB385_384.out _).trans (((cell_far (p := ⟨gb384,_,none⟩) NB385_384.out _).trans (((cell_far (p := ⟨gb384,_,none⟩) NB385_384.out _).trans (((cell_far (p := ⟨gb384,_,none⟩) NB385_384.out _).trans (((cell_far (p := ⟨gb384,_,none⟩) NB385_384.out _).trans (((cell_far (p := ⟨gb384,_,none⟩) NB385_384.out _).trans (((cell_far (p := ⟨gb384,_,none⟩) NB385_384.out _).trans (((cell_far (p := ⟨gb384,_,none⟩) NB385_384.out _).trans (hHeld.2.2.2.1)))))))))))))))),((cell_far (p := ⟨gb384,_,none⟩) NB385_384.out _).trans (((cell_far (p := ⟨gb384,_,none⟩) NB385_384.out _).trans (((cell_far (p := ⟨gb384,_,none⟩) NB385_384.out _).trans (((cell_far (p := ⟨gb384,_,none⟩) NB385_384.out _).trans (((cell_far (p := ⟨gb384,_,none⟩) NB385_384.out _).trans (((cell_far (p := ⟨gb384,_,none⟩) NB385_384.out _).trans (((cell_far (p := ⟨gb384,_,none⟩) NB385_384.out _).trans (((cell_far (p := ⟨gb384,_,none⟩) NB385_384.out _).trans (hHeld.2.2.2.2.1)))))))))))))))),((cell_far (p := ⟨gb384,_,none⟩) NB385_384.out _).trans (((cell_far (p := ⟨gb384,_,none⟩) NB385_384.out _).trans (((cell_far (p := ⟨gb384,_,none⟩) NB385_384.out _).trans (((cell_far (p := ⟨gb384,_,none⟩) NB385_384.out _).trans (((cell_far (p := ⟨gb384,_,none⟩) NB385_384.out _).trans (((cell_far (p := ⟨gb384,_,none⟩) NB385_384.out _).trans (((cell_far (p := ⟨gb384,_,none⟩) NB385_384.out _).trans (((cell_far (p := ⟨gb384,_,none⟩) NB385_384.out _).trans (hHeld.2.2.2.2.2.1)))))))))))))))),((cell_far (p := ⟨gb384,_,none⟩) NB385_384.out _).trans (((cell_far (p := ⟨gb384,_,none⟩) NB385_384.out _).trans (((cell_far (p := ⟨gb384,_,none⟩) NB385_384.out _).trans (((cell_far (p := ⟨gb384,_,none⟩) NB385_384.out _).trans (((cell_far (p := ⟨gb384,_,none⟩) NB385_384.out _).trans (((cell_far (p := ⟨gb384,_,none⟩) NB385_384.out _).trans (((cell_far (p := ⟨gb384,_,none⟩) NB385_384.out _).trans (((cell_far (p := ⟨gb384,_,none⟩) NB385_384.out _).trans (hHeld.2.2.2.2.2.2.1)))))))))))))))),((cell_far (p := ⟨gb384,_,none⟩) NB385_384.out _).trans (((cell_far (p := ⟨gb384,_,none⟩) NB385_384.out _).trans (((cell_far (p := ⟨gb384,_,none⟩) NB385_384.out _).trans (((cell_far (p := ⟨gb384,_,none⟩) NB385_384.out _).trans (((cell_far (p := ⟨gb384,_,none⟩) NB385_384.out _).trans (((cell_far (p := ⟨gb384,_,none⟩) NB385_384.out _).trans (((cell_far (p := ⟨gb384,_,none⟩) NB385_384.out _).trans (((cell_far (p := ⟨gb384,_,none⟩) NB385_384.out _).trans (hHeld.2.2.2.2.2.2.2))))))))))))))))⟩ (fun hHeld => ?_)
              clear hK K
              refine pure_ (i := 8) (N := some 5) (v := ?_) (a' := ?_) #[true,true,true,true,true,true,true,true,true] rfl rfl (any_of HT_.out (by kernel_rfl)) (fun _ _ _ h => h) (Or.inl ⟨by rfl,?_⟩) ?_ ?_
              rotate_left
              ·
               intro w'
               go_simp
               with_reducible rfl
              rotate_left
              ·
               simp only [Act.put,List.setIfInBounds_toArray,List.set_cons_zero,List.set_cons_succ,i64_w,i32_w]
               rfl
              refine done_ (done_of HT_.out (by kernel_rfl)) ?_
              try go_wp2
              refine bodyPost_ret (results_ct rfl _ _ gb384 37 #[.string t421,.string t422,.string t423,.string t424,.string t425,.string t426,.string t427,.string t428] (0,0) _ rfl (by (with_reducible repeat (first|apply q1|apply q2|apply q3));refine blk_put (cs := #[.string t421,.string t422,.string t423,.string t424,.string t425,.string t426,.string t427,.string ⟨#[]⟩]) ?_ 7 _ rfl;(with_reducible repeat (first|apply q1|apply q2|apply q3));refine blk_put (cs := #[.string t421,.string t422,.string t423,.string t424,.string t425,.string t426,.string ⟨#[]⟩,.string ⟨#[]⟩]) ?_ 6 _ rfl;(with_reducible repeat (first|apply q1|apply q2|apply q3));refine blk_put (cs := #[.string t421,.string t422,.string t423,.string t424,.string t425,.string ⟨#[]⟩,.string ⟨#[]⟩,.string ⟨#[]⟩]) ?_ 5 _ rfl;(with_reducible repeat (first|apply q1|apply q2|apply q3));refine blk_put (cs := #[.string t421,.string t422,.string t423,.string t424,.string ⟨#[]⟩,.string ⟨#[]⟩,.string ⟨#[]⟩,.string ⟨#[]⟩]) ?_ 4 _ rfl;(with_reducible repeat (first|apply q1|apply q2|apply q3));refine blk_put (cs := #[.string t421,.string t422,.string t423,.string ⟨#[]⟩,.string ⟨#[]⟩,.string ⟨#[]⟩,.string ⟨#[]⟩,.string ⟨#[]⟩]) ?_ 3 _ rfl;(with_reducible repeat (first|apply q1|apply q2|apply q3));refine blk_put (cs := #[.string t421,.string t422,.string ⟨#[]⟩,.string ⟨#[]⟩,.string ⟨#[]⟩,.string ⟨#[]⟩,.string ⟨#[]⟩,.string ⟨#[]⟩]) ?_ 2 _ rfl;(with_reducible repeat (first|apply q1|apply q2|apply q3));refine blk_put (cs := #[.string t421,.string ⟨#[]⟩,.string ⟨#[]⟩,.string ⟨#[]⟩,.string ⟨#[]⟩,.string ⟨#[]⟩,.string ⟨#[]⟩,.string ⟨#[]⟩]) ?_ 1 _ rfl;(with_reducible repeat (first|apply q1|apply q2|apply q3));refine blk_put (cs := #[.string ⟨#[]⟩,.string ⟨#[]⟩,.string ⟨#[]⟩,.string ⟨#[]⟩,.string ⟨#[]⟩,.string ⟨#[]⟩,.string ⟨#[]⟩,.string ⟨#[]⟩]) ?_ 0 _ rfl;(with_reducible repeat (first|apply q1|apply q2|apply q3));exact BK384.out) Try.underlying37 rfl (by kernel_rfl)) rfl ?_
              exact ⟨by first|rfl|(simp [errW_none,errW_some] <;> rfl)|(simp only [← hji82];first|rfl|(simp [errW_none,errW_some] <;> rfl))|(simp [*,errW_none,errW_some] <;> rfl),bl2_ HB.out GE384.out GE385.out⟩
             rw [if_neg c109] at H
             have c109b0 : ((bt (a1.extract ((ji82) : Int).toNat a1.size) t411) == 47) = false := beq_eq_false_iff_ne.mpr c109
             have c109b1 : ((bt (a1.extract ((ji82) : Int).toNat a1.size) t411) != 47) = true := bne_iff_ne.mpr c109
             simp only [Option.some.injEq,Prod.mk.injEq] at H
             obtain ⟨rfl,rfl,rfl,rfl,rfl,rfl,rfl,rfl,rfl⟩ := H
             try go_wp2_with (first|((with_reducible refine gate_callee (f := 39) rfl ?_);refine goesL_ (some 74) rfl rfl Try.func39 (by kernel_rfl) rfl #[.string a1] rfl (by (try simp only [List.map_toArray,List.map_cons,List.map_nil]);first|done|rfl|(simp only [ByteArray.size_extract,Nat.min_self];first|done|rfl)|(simp only [List.length_drop,List.length_take];rfl)) ?_;(with_reducible refine (spec_schemeOf.calls kj14 a1 t409 _ A74.out).mono ?_);rintro e w' ⟨rfl,⟨nd,rfl⟩⟩;refine ⟨_,rfl,?_⟩;(try (rw [drewN_self wc];generalize hq_ : World.drewN wc _ = wc;have n0_ : Aside0 (wc.heap[gb384]? = some (.cells #[.string ⟨#[]⟩,.string ⟨#[]⟩,.string ⟨#[]⟩,.string ⟨#[]⟩,.string ⟨#[]⟩,.string ⟨#[]⟩,.string ⟨#[]⟩,.string ⟨#[]⟩] 37 (0,0))) := ⟨by rw [← hq_];exact (bk_ BK384.out)⟩;have n1_ : Aside0 (wc.heap[gb385]? = some (.cells #[.string ⟨#[104,116,116,112]⟩,.string ⟨#[]⟩,.string ⟨#[]⟩,.string ⟨#[]⟩,.string ⟨#[]⟩,.string ⟨#[]⟩,.string ⟨#[]⟩,.string ⟨#[]⟩] 37 (0,0))) := ⟨by rw [← hq_];exact (bk_ BK385.out)⟩;have n2_ : Aside0 (Below w.heap.size w wc) := ⟨by rw [← hq_];exact (bl2_ HB.out GE384.out GE385.out)⟩;clear BK384 BK385 HB hq_;have BK384 := n0_;have BK385 := n1_;have HB := n2_;clear n0_ n1_ n2_)))|((with_reducible refine gate_callee (f := 42) rfl ?_);refine goesL_ (some 81) rfl rfl Try.func42 (by kernel_rfl) rfl #[.string (a1.extract 0 (t409 : Int).toNat)] rfl (by (try simp only [List.map_toArray,List.map_cons,List.map_nil]);first|done|rfl|(simp only [ByteArray.size_extract,Nat.min_self];first|done|rfl)|(simp only [List.length_drop,List.length_take];rfl)) ?_;(with_reducible refine (spec_Lower.calls (a1.extract 0 (t409 : Int).toNat) t410 _ A81.out).mono ?_);rintro e w138 ⟨rfl,hb⟩;refine ⟨_,rfl,?_⟩;have n0_ := Aside0.mk (blk_below (g := gb384) (bk_ BK384.out) hb);have n1_ := Aside0.mk (blk_below (g := gb385) (bk_ BK385.out) hb);have n2_ := Aside0.mk (below_step (bl2_ HB.out GE384.out GE385.out) hb);clear BK384;clear BK385;clear HB;have BK384 := n0_;have BK385 := n1_;have HB := n2_;clear n0_ n1_ n2_;(try clear hb);(try clear hb2);(try clear hk);(try clear hi);have hnb139 := NB385_384.out;have hnc139 := NB384_385.out;have hcz140_0 : w138.cell? ⟨gb385,0,none⟩ = some (.string ⟨#[104,116,116,112]⟩) := (blk_cell BK385.out 0).trans rfl;have hcz140_1 : w138.cell? ⟨gb385,1,none⟩ = some (.string ⟨#[]⟩) := (blk_cell BK385.out 1).trans rfl;have hcz140_2 : w138.cell? ⟨gb385,2,none⟩ = some (.string ⟨#[]⟩) := (blk_cell BK385.out 2).trans rfl;have hcz140_3 : w138.cell? ⟨gb385,3,none⟩ = some (.string ⟨#[]⟩) := (blk_cell BK385.out 3).trans rfl;have hcz140_4 : w138.cell? ⟨gb385,4,none⟩ = some (.string ⟨#[]⟩) := (blk_cell BK385.out 4).trans rfl;have hcz140_5 : w138.cell? ⟨gb385,5,none⟩ = some (.string ⟨#[]⟩) := (blk_cell BK385.out 5).trans rfl;have hcz140_6 : w138.cell? ⟨gb385,6,none⟩ = some (.string ⟨#[]⟩) := (blk_cell BK385.out 6).trans rfl;have hcz140_7 : w138.cell? ⟨gb385,7,none⟩ = some (.string ⟨#[]⟩) := (blk_cell BK385.out 7).trans rfl;have hfz140_0 := blk_frozen BK385.out 0;have hfz140_1 := blk_frozen BK385.out 1;have hfz140_2 := blk_frozen BK385.out 2;have hfz140_3 := blk_frozen BK385.out 3;have hfz140_4 := blk_frozen BK385.out 4;have hfz140_5 := blk_frozen BK385.out 5;have hfz140_6 := blk_frozen BK385.out 6;have hfz140_7 := blk_frozen BK385.out 7)|((with_reducible refine gate_callee (f := 43) rfl ?_);refine goesL_ (some 88) rfl rfl Try.func43 (by kernel_rfl) rfl #[.string (a1.extract ((ji82) : Int).toNat a1.size)] rfl (by (try simp only [List.map_toArray,List.map_cons,List.map_nil]);first|done|(simp only [hji82];rfl)|rfl|(simp only [ByteArray.size_extract,Nat.min_self];first|done|rfl)|(simp only [List.length_drop,List.length_take];rfl)) ?_;(with_reducible refine (spec_until.calls kj14 (a1.extract ((ji82) : Int).toNat a1.size) t411 _ A85.out).mono ?_);rintro e w' ⟨rfl,⟨nd,rfl⟩⟩;refine ⟨_,rfl,?_⟩))
             have n0_ : Aside0 ((w138.setCell ⟨gb385,0,none⟩ (.string t410)).heap[gb384]? = some (.cells #[.string ⟨#[]⟩,.string ⟨#[]⟩,.string ⟨#[]⟩,.string ⟨#[]⟩,.string ⟨#[]⟩,.string ⟨#[]⟩,.string ⟨#[]⟩,.string ⟨#[]⟩] 37 (0,0))) := ⟨by (with_reducible repeat (first|apply q1|apply q2|apply q3));refine blk_far ?_ NB384_385.out _;(with_reducible repeat (first|apply q1|apply q2|apply q3));exact BK384.out⟩
             have n1_ : Aside0 ((w138.setCell ⟨gb385,0,none⟩ (.string t410)).heap[gb385]? = some (.cells #[.string t410,.string ⟨#[]⟩,.string ⟨#[]⟩,.string ⟨#[]⟩,.string ⟨#[]⟩,.string ⟨#[]⟩,.string ⟨#[]⟩,.string ⟨#[]⟩] 37 (0,0))) := ⟨by (with_reducible repeat (first|apply q1|apply q2|apply q3));refine blk_put (cs := #[.string ⟨#[104,116,116,112]⟩,.string ⟨#[]⟩,.string ⟨#[]⟩,.string ⟨#[]⟩,.string ⟨#[]⟩,.string ⟨#[]⟩,.string ⟨#[]⟩,.string ⟨#[]⟩]) ?_ 0 _ rfl;(with_reducible repeat (first|apply q1|apply q2|apply q3));exact BK385.out⟩
             have n2_ : Aside0 (Below w.heap.size w (w138.setCell ⟨gb385,0,none⟩ (.string t410))) := ⟨bl2_ HB.out GE384.out GE385.out⟩
             (try clear BK384)
             (try clear BK385)
             (try clear HB)
             generalize (w138.setCell ⟨gb385,0,none⟩ (.string t410)) = w141 at n0_ n1_ n2_ ⊢
             have BK384 := n0_
             have BK385 := n1_
             have HB := n2_
             clear n0_ n1_ n2_
             (try (rw [drewN_self w141];generalize hq_ : World.drewN w141 _ = w141;have n0_ : Aside0 (w141.heap[gb384]? = some (.cells #[.string ⟨#[]⟩,.string ⟨#[]⟩,.string ⟨#[]⟩,.string ⟨#[]⟩,.string ⟨#[]⟩,.string ⟨#[]⟩,.string ⟨#[]⟩,.string ⟨#[]⟩] 37 (0,0))) := ⟨by rw [← hq_];exact (bk_ BK384.out)⟩;have n1_ : Aside0 (w141.heap[gb385]? = some (.cells #[.string t410,.string ⟨#[]⟩,.string ⟨#[]⟩,.string ⟨#[]⟩,.string ⟨#[]⟩,.string ⟨#[]⟩,.string ⟨#[]⟩,.string ⟨#[]⟩] 37 (0,0))) := ⟨by rw [← hq_];exact (bk_ BK385.out)⟩;have n2_ : Aside0 (Below w.heap.size w w141) := ⟨by rw [← hq_];exact (bl2_ HB.out GE384.out GE385.out)⟩;clear BK384 BK385 HB hq_;have BK384 := n0_;have BK385 := n1_;have HB := n2_;clear n0_ n1_ n2_))
             have n0_ := Aside0.mk (blk_drew BK384.out)
             have n1_ := Aside0.mk (blk_drew BK385.out)
             have n2_ := Aside0.mk (below_drew1 HB.out)
             clear BK384
             clear BK385
             clear HB
             have BK384 := n0_
             have BK385 := n1_
             have HB := n2_
             clear n0_ n1_ n2_
             refine start_ (n := 10) (S := fun w' => w'.cell? ⟨gb385,0,none⟩ = some (.string t410) ∧ w'.cell? ⟨gb385,1,none⟩ = some (.string ⟨#[]⟩) ∧ w'.cell? ⟨gb385,2,none⟩ = some (.string ⟨#[]⟩) ∧ w'.cell? ⟨gb385,3,none⟩ = some (.string ⟨#[]⟩) ∧ w'.cell? ⟨gb385,4,none⟩ = some (.string ⟨#[]⟩) ∧ w'.cell? ⟨gb385,5,none⟩ = some (.string ⟨#[]⟩) ∧ w'.cell? ⟨gb385,6,none⟩ = some (.string ⟨#[]⟩) ∧ w'.cell? ⟨gb385,7,none⟩ = some (.string ⟨#[]⟩)) (ds := [8]) #[false,false,false,false,false,false,false,false,false,false] (by kernel_rfl) rfl rfl ⟨(blk_cell BK385.out 0).trans rfl,(blk_cell BK385.out 1).trans rfl,(blk_cell BK385.out 2).trans rfl,(blk_cell BK385.out 3).trans rfl,(blk_cell BK385.out 4).trans rfl,(blk_cell BK385.out 5).trans rfl,(blk_cell BK385.out 6).trans rfl,(blk_cell BK385.out 7).trans rfl⟩ (fun hHeld => ?_);refine with_tabW spec_UriOf.tab15 spec_UriOf.bits15 (fun HT_ HW_ => ?_)
             generalize w141.drew = w142 at BK384 BK385 HB hHeld ⊢
             refine pure_ (i := 1) (N := some 91) (v := ?_) (a' := ?_) #[false,true,false,false,false,false,false,false,false,false] rfl rfl (any_of HT_.out (by kernel_rfl)) (fun _ _ _ h => h) (Or.inl ⟨by rfl,?_⟩) ?_ ?_
             rotate_left
             ·
              intro w'
              go_simp
              with_reducible rfl
             rotate_left
             ·
              simp only [Act.put,List.setIfInBounds_toArray,List.set_cons_zero,List.set_cons_succ,i64_w,i32_w]
              rfl
             refine pure_ (i := 2) (N := some 92) (v := ?_) (a' := ?_) #[false,true,true,false,false,false,false,false,false,false] rfl rfl (any_of HT_.out (by kernel_rfl)) (fun _ _ _ h => h) (Or.inl ⟨by rfl,?_⟩) ?_ ?_
             rotate_left
             ·
              intro w'
              go_simp
              with_reducible rfl
             rotate_left
             ·
              simp only [Act.put,List.setIfInBounds_toArray,List.set_cons_zero,List.set_cons_succ,i64_w,i32_w]
              rfl
             refine pure_ (i := 3) (N := some 93) (v := ?_) (a' := ?_) #[false,true,true,true,false,false,false,false,false,false] rfl rfl (any_of HT_.out (by kernel_rfl)) (fun _ _ _ h => h) (Or.inl ⟨by rfl,?_⟩) ?_ ?_
             rotate_left
             ·
              intro w'
              go_simp
              with_reducible rfl
             rotate_left
             ·
              simp only [Act.put,List.setIfInBounds_toArray,List.set_cons_zero,List.set_cons_succ,i64_w,i32_w]
              rfl
             refine take_ (i := 0) (N := some 90) (v := ?_) (a' := ?_) #[true,true,true,true,false,false,false,false,false,false] rfl rfl (take_ofW HT_.out HW_.out (by kernel_rfl)) (fun _ _ _ h => h) (Or.inl ⟨by rfl,?_⟩) hHeld ?_ ?_
             rotate_left
             ·
              rintro w' ⟨s0,s1,s2,s3,s4,s5,s6,s7⟩
              go_simp
              with_reducible rfl
             rotate_left
             ·
              simp only [Act.put,List.setIfInBounds_toArray,List.set_cons_zero,List.set_cons_succ,i64_w,i32_w]
              rfl
             refine one_ (i := 4) (N := some 94) #[true,true,true,true,true,false,false,false,false,false] rfl rfl (one_of HT_.out (by kernel_rfl)) (by decide) (fun K hK => ?_)
             refine goes_ Try.func38 (by kernel_rfl) rfl #[.agg #[.string t410,.string ⟨#[]⟩,.string ⟨#[]⟩,.string ⟨#[]⟩,.string ⟨#[]⟩,.string ⟨#[]⟩,.string ⟨#[]⟩,.string ⟨#[]⟩],.string ((a1.extract ((ji82) : Int).toNat a1.size).extract 0 (t411 : Int).toNat)] (by rfl) rfl rfl (by (try simp only [List.map_toArray,List.map_cons,List.map_nil]);first|done|(simp only [hji82];rfl)|rfl|(simp only [ByteArray.size_extract,Nat.min_self];first|done|rfl)|(simp only [List.length_drop,List.length_take];rfl)) ?_
             with_reducible refine (spec_Uri_authority.calls kj14 t410 ⟨#[]⟩ ⟨#[]⟩ ⟨#[]⟩ ⟨#[]⟩ ⟨#[]⟩ ⟨#[]⟩ ⟨#[]⟩ ((a1.extract ((ji82) : Int).toNat a1.size).extract 0 (t411 : Int).toNat) t412 t413 t414 t415 t416 t417 t418 t419 t420 _ A88.out).mono ?_
             rintro e w143 ⟨rfl,hb⟩
             refine ⟨_,rfl,?_⟩
             have n0_ := Aside0.mk (blk_below (g := gb384) (bk_ BK384.out) hb)
             have n1_ := Aside0.mk (blk_below (g := gb385) (bk_ BK385.out) hb)
             have n2_ := Aside0.mk (below_step (bl2_ HB.out GE384.out GE385.out) hb)
             clear BK384
             clear BK385
             clear HB
             have BK384 := n0_
             have BK385 := n1_
             have HB := n2_
             clear n0_ n1_ n2_
             (try clear hb)
             (try clear hb2)
             (try clear hk)
             (try clear hi)
             refine hK.out _ _ ⟨(blk_cell BK385.out 0).trans rfl,(blk_cell BK385.out 1).trans rfl,(blk_cell BK385.out 2).trans rfl,(blk_cell BK385.out 3).trans rfl,(blk_cell BK385.out 4).trans rfl,(blk_cell BK385.out 5).trans rfl,(blk_cell BK385.out 6).trans rfl,(blk_cell BK385.out 7).trans rfl⟩ (fun hHeld => ?_)
             clear hK K
             refine norm_ (a' := ?_) ?_ ?_
             rotate_left
             ·
              show Act.put _ (some 94) _ = _
              simp only [Act.put,List.setIfInBounds_toArray,List.set_cons_zero,List.set_cons_succ,i64_w,i32_w]
              rfl
             refine pure_ (i := 5) (N := some 89) (v := ?_) (a' := ?_) #[true,true,true,true,true,true,false,false,false,false] rfl rfl (any_of HT_.out (by kernel_rfl)) (fun _ _ _ h => h) (Or.inl ⟨by rfl,?_⟩) ?_ ?_
             rotate_left
             ·
              intro w'
              go_simp
              with_reducible rfl
             rotate_left
             ·
              simp only [Act.put,List.setIfInBounds_toArray,List.set_cons_zero,List.set_cons_succ,i64_w,i32_w]
              rfl
             refine pure_ (i := 6) (N := some 95) (v := ?_) (a' := ?_) #[true,true,true,true,true,true,true,false,false,false] rfl rfl (any_of HT_.out (by kernel_rfl)) (fun _ _ _ h => h) (Or.inl ⟨by rfl,?_⟩) ?_ ?_
             rotate_left
             ·
              intro w'
              go_simp
              with_reducible rfl
             rotate_left
             ·
              simp only [Act.put,List.setIfInBounds_toArray,List.set_cons_zero,List.set_cons_succ,i64_w,i32_w]
              rfl
             refine pure_ (i := 7) (N := some 96) (v := ?_) (a' := ?_) #[true,true,true,true,true,true,true,true,false,false] rfl rfl (any_of HT_.out (by kernel_rfl)) (fun _ _ _ h => h) (Or.inl ⟨by rfl,?_⟩) ?_ ?_
             rotate_left
             ·
              intro w'
              go_simp
              with_reducible rfl
             rotate_left
             ·
              simp only [Act.put,List.setIfInBounds_toArray,List.set_cons_zero,List.set_cons_succ,i64_w,i32_w]
              rfl
             refine last_ (i := 8) (N := none) #[true,true,true,true,true,true,true,true,true,false] rfl rfl (one_of HT_.out (by kernel_rfl)) (by decide) (fun K hK => ?_)
             have hs144 : w143.cell? ⟨gb385,0,none⟩ = some (.string t410) := (blk_cell BK385.out 0).trans rfl
             have hfs144 := blk_frozen BK385.out 0
             have hns144_0 := NB384_385.out
             have hms144_0 := NB385_384.out
             have hs145 : w143.cell? ⟨gb385,1,none⟩ = some (.string ⟨#[]⟩) := (blk_cell BK385.out 1).trans rfl
             have hfs145 := blk_frozen BK385.out 1
             have hns145_0 := NB384_385.out
             have hms145_0 := NB385_384.out
             have hs146 : w143.cell? ⟨gb385,2,none⟩ = some (.string ⟨#[]⟩) := (blk_cell BK385.out 2).trans rfl
             have hfs146 := blk_frozen BK385.out 2
             have hns146_0 := NB384_385.out
             have hms146_0 := NB385_384.out
             have hs147 : w143.cell? ⟨gb385,3,none⟩ = some (.string ⟨#[]⟩) := (blk_cell BK385.out 3).trans rfl
             have hfs147 := blk_frozen BK385.out 3
             have hns147_0 := NB384_385.out
             have hms147_0 := NB385_384.out
             have hs148 : w143.cell? ⟨gb385,4,none⟩ = some (.string ⟨#[]⟩) := (blk_cell BK385.out 4).trans rfl
             have hfs148 := blk_frozen BK385.out 4
             have hns148_0 := NB384_385.out
             have hms148_0 := NB385_384.out
             have hs149 : w143.cell? ⟨gb385,5,none⟩ = some (.string ⟨#[]⟩) := (blk_cell BK385.out 5).trans rfl
             have hfs149 := blk_frozen BK385.out 5
             have hns149_0 := NB384_385.out
             have hms149_0 := NB385_384.out
             have hs150 : w143.cell? ⟨gb385,6,none⟩ = some (.string ⟨#[]⟩) := (blk_cell BK385.out 6).trans rfl
             have hfs150 := blk_frozen BK385.out 6
             have hns150_0 := NB384_385.out
             have hms150_0 := NB385_384.out
             have hs151 : w143.cell? ⟨gb385,7,none⟩ = some (.string ⟨#[]⟩) := (blk_cell BK385.out 7).trans rfl
             have hfs151 := blk_frozen BK385.out 7
             have hns151_0 := NB384_385.out
             have hms151_0 := NB385_384.out
             refine skip_ (w1 := ?_) (by rfl) rfl ?_ ?_
             rotate_left
             ·
              go_simp
              rfl
             refine hK.out _ _ ?_
             clear hK K
             refine pure_ (i := 9) (N := some 11) (v := ?_) (a' := ?_) #[true,true,true,true,true,true,true,true,true,true] rfl rfl (any_of HT_.out (by kernel_rfl)) (fun _ _ _ h => h) (Or.inl ⟨by rfl,?_⟩) ?_ ?_
             rotate_left
             ·
              intro w'
              go_simp
              with_reducible rfl
             rotate_left
             ·
              simp only [Act.put,List.setIfInBounds_toArray,List.set_cons_zero,List.set_cons_succ,i64_w,i32_w]
              rfl
             refine done_ (done_of HT_.out (by kernel_rfl)) ?_
             have p108 : 0 ≤ (t411 : Int) := odt_
             have q108 : t411 < ((a1.extract ((ji82) : Int).toNat a1.size).size : Int) := odt_
             have hx108 := bt_at (a1.extract ((ji82) : Int).toNat a1.size) t411
             replace p108 := eq_true p108
             replace q108 := eq_true q108
             have hcz152_0 : w143.cell? ⟨gb385,0,none⟩ = some (.string t410) := (blk_cell BK385.out 0).trans rfl
             have hcz152_1 : w143.cell? ⟨gb385,1,none⟩ = some (.string ⟨#[]⟩) := (blk_cell BK385.out 1).trans rfl
             have hcz152_2 : w143.cell? ⟨gb385,2,none⟩ = some (.string ⟨#[]⟩) := (blk_cell BK385.out 2).trans rfl
             have hcz152_3 : w143.cell? ⟨gb385,3,none⟩ = some (.string ⟨#[]⟩) := (blk_cell BK385.out 3).trans rfl
             have hcz152_4 : w143.cell? ⟨gb385,4,none⟩ = some (.string ⟨#[]⟩) := (blk_cell BK385.out 4).trans rfl
             have hcz152_5 : w143.cell? ⟨gb385,5,none⟩ = some (.string ⟨#[]⟩) := (blk_cell BK385.out 5).trans rfl
             have hcz152_6 : w143.cell? ⟨gb385,6,none⟩ = some (.string ⟨#[]⟩) := (blk_cell BK385.out 6).trans rfl
             have hcz152_7 : w143.cell? ⟨gb385,7,none⟩ = some (.string ⟨#[]⟩) := (blk_cell BK385.out 7).trans rfl
             have hfz152_0 := blk_frozen BK385.out 0
             have hfz152_1 := blk_frozen BK385.out 1
             have hfz152_2 := blk_frozen BK385.out 2
             have hfz152_3 := blk_frozen BK385.out 3
             have hfz152_4 := blk_frozen BK385.out 4
             have hfz152_5 := blk_frozen BK385.out 5
             have hfz152_6 := blk_frozen BK385.out 6
             have hfz152_7 := blk_frozen BK385.out 7
             have hcz153_0 : w143.cell? ⟨gb384,0,none⟩ = some (.string ⟨#[]⟩) := (blk_cell BK384.out 0).trans rfl
             have hcz153_1 : w143.cell? ⟨gb384,1,none⟩ = some (.string ⟨#[]⟩) := (blk_cell BK384.out 1).trans rfl
             have hcz153_2 : w143.cell? ⟨gb384,2,none⟩ = some (.string ⟨#[]⟩) := (blk_cell BK384.out 2).trans rfl
             have hcz153_3 : w143.cell? ⟨gb384,3,none⟩ = some (.string ⟨#[]⟩) := (blk_cell BK384.out 3).trans rfl
             have hcz153_4 : w143.cell? ⟨gb384,4,none⟩ = some (.string ⟨#[]⟩) := (blk_cell BK384.out 4).trans rfl
             have hcz153_5 : w143.cell? ⟨gb384,5,none⟩ = some (.string ⟨#[]⟩) := (blk_cell BK384.out 5).trans rfl
             have hcz153_6 : w143.cell? ⟨gb384,6,none⟩ = some (.string ⟨#[]⟩) := (blk_cell BK384.out 6).trans rfl
             have hcz153_7 : w143.cell? ⟨gb384,7,none⟩ = some (.string ⟨#[]⟩) := (blk_cell BK384.out 7).trans rfl
             have hfz153_0 := blk_frozen BK384.out 0
             have hfz153_1 := blk_frozen BK384.out 1
             have hfz153_2 := blk_frozen BK384.out 2
             have hfz153_3 := blk_frozen BK384.out 3
             have hfz153_4 := blk_frozen BK384.out 4
             have hfz153_5 := blk_frozen BK384.out 5
             have hfz153_6 := blk_frozen BK384.out 6
             have hfz153_7 := blk_frozen BK384.out 7
             try go_wp2
             refine bodyPost_ret (results_ct rfl _ _ gb384 37 #[.string t412,.string t413,.string t414,.string t415,.string t416,.string t417,.string t418,.string t419] (0,0) _ rfl (by (with_reducible repeat (first|apply q1|apply q2|apply q3));refine blk_put (cs := #[.string t412,.string t413,.string t414,.string t415,.string t416,.string t417,.string t418,.string ⟨#[]⟩]) ?_ 7 _ rfl;(with_reducible repeat (first|apply q1|apply q2|apply q3));refine blk_put (cs := #[.string t412,.string t413,.string t414,.string t415,.string t416,.string t417,.string ⟨#[]⟩,.string ⟨#[]⟩]) ?_ 6 _ rfl;(with_reducible repeat (first|apply q1|apply q2|apply q3));refine blk_put (cs := #[.string t412,.string t413,.string t414,.string t415,.string t416,.string ⟨#[]⟩,.string ⟨#[]⟩,.string ⟨#[]⟩]) ?_ 5 _ rfl;(with_reducible repeat (first|apply q1|apply q2|apply q3));refine blk_put (cs := #[.string t412,.string t413,.string t414,.string t415,.string ⟨#[]⟩,.string ⟨#[]⟩,.string ⟨#[]⟩,.string ⟨#[]⟩]) ?_ 4 _ rfl;(with_reducible repeat (first|apply q1|apply q2|apply q3));refine blk_put (cs := #[.string t412,.string t413,.string t414,.string ⟨#[]⟩,.string ⟨#[]⟩,.string ⟨#[]⟩,.string ⟨#[]⟩,.string ⟨#[]⟩]) ?_ 3 _ rfl;(with_reducible repeat (first|apply q1|apply q2|apply q3));refine blk_put (cs := #[.string t412,.string t413,.string ⟨#[]⟩,.string ⟨#[]⟩,.string ⟨#[]⟩,.string ⟨#[]⟩,.string ⟨#[]⟩,.string ⟨#[]⟩]) ?_ 2 _ rfl;(with_reducible repeat (first|apply q1|apply q2|apply q3));refine blk_put (cs := #[.string t412,.string ⟨#[]⟩,.string ⟨#[]⟩,.string ⟨#[]⟩,.string ⟨#[]⟩,.string ⟨#[]⟩,.string ⟨#[]⟩,.string ⟨#[]⟩]) ?_ 1 _ rfl;(with_reducible repeat (first|apply q1|apply q2|apply q3));refine blk_put (cs := #[.string ⟨#[]⟩,.string ⟨#[]⟩,.string ⟨#[]⟩,.string ⟨#[]⟩,.string ⟨#[]⟩,.string ⟨#[]⟩,.string ⟨#[]⟩,.string ⟨#[]⟩]) ?_ 0 _ rfl;(with_reducible repeat (first|apply q1|apply q2|apply q3));refine blk_far ?_ NB384_385.out _;(with_reducible repeat (first|apply q1|apply q2|apply q3));refine blk_far ?_ NB384_385.out _;(with_reducible repeat (first|apply q1|apply q2|apply q3));refine blk_far ?_ NB384_385.out _;(with_reducible repeat (first|apply q1|apply q2|apply q3));refine blk_far ?_ NB384_385.out _;(with_reducible repeat (first|apply q1|apply q2|apply q3));refine blk_far ?_ NB384_385.out _;(with_reducible repeat (first|apply q1|apply q2|apply q3));refine blk_far ?_ NB384_385.out _;(with_reducible repeat (first|apply q1|apply q2|apply q3));refine blk_far ?_ NB384_385.out _;(with_reducible repeat (first|apply q1|apply q2|apply q3));refine blk_far ?_ NB384_385.out _;(with_reducible repeat (first|apply q1|apply q2|apply q3));exact BK384.out) Try.underlying37 rfl (by kernel_rfl)) rfl ?_
             exact ⟨by first|rfl|(simp [errW_none,errW_some] <;> rfl)|(simp only [← hji82];first|rfl|(simp [errW_none,errW_some] <;> rfl))|(simp [*,errW_none,errW_some] <;> rfl),bl2_ HB.out GE384.out GE385.out⟩
            rw [if_neg c107] at H
            exact absurd H (by simp)
           rw [if_neg c89] at H
           have c89b0 : (t420 == 1) = false := beq_eq_false_iff_ne.mpr c89
           have c89b1 : (t420 != 1) = true := bne_iff_ne.mpr c89
           simp only [Option.some.injEq,Prod.mk.injEq] at H
           obtain ⟨rfl,rfl,rfl,rfl,rfl,rfl,rfl,rfl,rfl⟩ := H
           try go_wp2_with (first|((with_reducible refine gate_callee (f := 39) rfl ?_);refine goesL_ (some 74) rfl rfl Try.func39 (by kernel_rfl) rfl #[.string a1] rfl (by (try simp only [List.map_toArray,List.map_cons,List.map_nil]);first|done|rfl|(simp only [ByteArray.size_extract,Nat.min_self];first|done|rfl)|(simp only [List.length_drop,List.length_take];rfl)) ?_;(with_reducible refine (spec_schemeOf.calls kj14 a1 t409 _ A74.out).mono ?_);rintro e w' ⟨rfl,⟨nd,rfl⟩⟩;refine ⟨_,rfl,?_⟩;(try (rw [drewN_self wc];generalize hq_ : World.drewN wc _ = wc;have n0_ : Aside0 (wc.heap[gb384]? = some (.cells #[.string ⟨#[]⟩,.string ⟨#[]⟩,.string ⟨#[]⟩,.string ⟨#[]⟩,.string ⟨#[]⟩,.string ⟨#[]⟩,.string ⟨#[]⟩,.string ⟨#[]⟩] 37 (0,0))) := ⟨by rw [← hq_];exact (bk_ BK384.out)⟩;have n1_ : Aside0 (wc.heap[gb385]? = some (.cells #[.string ⟨#[104,116,116,112]⟩,.string ⟨#[]⟩,.string ⟨#[]⟩,.string ⟨#[]⟩,.string ⟨#[]⟩,.string ⟨#[]⟩,.string ⟨#[]⟩,.string ⟨#[]⟩] 37 (0,0))) := ⟨by rw [← hq_];exact (bk_ BK385.out)⟩;have n2_ : Aside0 (Below w.heap.size w wc) := ⟨by rw [← hq_];exact (bl2_ HB.out GE384.out GE385.out)⟩;clear BK384 BK385 HB hq_;have BK384 := n0_;have BK385 := n1_;have HB := n2_;clear n0_ n1_ n2_)))|((with_reducible refine gate_callee (f := 42) rfl ?_);refine goesL_ (some 81) rfl rfl Try.func42 (by kernel_rfl) rfl #[.string (a1.extract 0 (t409 : Int).toNat)] rfl (by (try simp only [List.map_toArray,List.map_cons,List.map_nil]);first|done|rfl|(simp only [ByteArray.size_extract,Nat.min_self];first|done|rfl)|(simp only [List.length_drop,List.length_take];rfl)) ?_;(with_reducible refine (spec_Lower.calls (a1.extract 0 (t409 : Int).toNat) t410 _ A81.out).mono ?_);rintro e w154 ⟨rfl,hb⟩;refine ⟨_,rfl,?_⟩;have n0_ := Aside0.mk (blk_below (g := gb384) (bk_ BK384.out) hb);have n1_ := Aside0.mk (blk_below (g := gb385) (bk_ BK385.out) hb);have n2_ := Aside0.mk (below_step (bl2_ HB.out GE384.out GE385.out) hb);clear BK384;clear BK385;clear HB;have BK384 := n0_;have BK385 := n1_;have HB := n2_;clear n0_ n1_ n2_;(try clear hb);(try clear hb2);(try clear hk);(try clear hi);have hnb155 := NB385_384.out;have hnc155 := NB384_385.out;have hcz156_0 : w154.cell? ⟨gb385,0,none⟩ = some (.string ⟨#[104,116,116,112]⟩) := (blk_cell BK385.out 0).trans rfl;have hcz156_1 : w154.cell? ⟨gb385,1,none⟩ = some (.string ⟨#[]⟩) := (blk_cell BK385.out 1).trans rfl;have hcz156_2 : w154.cell? ⟨gb385,2,none⟩ = some (.string ⟨#[]⟩) := (blk_cell BK385.out 2).trans rfl;have hcz156_3 : w154.cell? ⟨gb385,3,none⟩ = some (.string ⟨#[]⟩) := (blk_cell BK385.out 3).trans rfl;have hcz156_4 : w154.cell? ⟨gb385,4,none⟩ = some (.string ⟨#[]⟩) := (blk_cell BK385.out 4).trans rfl;have hcz156_5 : w154.cell? ⟨gb385,5,none⟩ = some (.string ⟨#[]⟩) := (blk_cell BK385.out 5).trans rfl;have hcz156_6 : w154.cell? ⟨gb385,6,none⟩ = some (.string ⟨#[]⟩) := (blk_cell BK385.out 6).trans rfl;have hcz156_7 : w154.cell? ⟨gb385,7,none⟩ = some (.string ⟨#[]⟩) := (blk_cell BK385.out 7).trans rfl;have hfz156_0 := blk_frozen BK385.out 0;have hfz156_1 := blk_frozen BK385.out 1;have hfz156_2 := blk_frozen BK385.out 2;have hfz156_3 := blk_frozen BK385.out 3;have hfz156_4 := blk_frozen BK385.out 4;have hfz156_5 := blk_frozen BK385.out 5;have hfz156_6 := blk_frozen BK385.out 6;have hfz156_7 := blk_frozen BK385.out 7)|((with_reducible refine gate_callee (f := 43) rfl ?_);refine goesL_ (some 88) rfl rfl Try.func43 (by kernel_rfl) rfl #[.string (a1.extract ((ji82) : Int).toNat a1.size)] rfl (by (try simp only [List.map_toArray,List.map_cons,List.map_nil]);first|done|(simp only [hji82];rfl)|rfl|(simp only [ByteArray.size_extract,Nat.min_self];first|done|rfl)|(simp only [List.length_drop,List.length_take];rfl)) ?_;(with_reducible refine (spec_until.calls kj14 (a1.extract ((ji82) : Int).toNat a1.size) t411 _ A85.out).mono ?_);rintro e w' ⟨rfl,⟨nd,rfl⟩⟩;refine ⟨_,rfl,?_⟩))
           have n0_ : Aside0 ((w154.setCell ⟨gb385,0,none⟩ (.string t410)).heap[gb384]? = some (.cells #[.string ⟨#[]⟩,.string ⟨#[]⟩,.string ⟨#[]⟩,.string ⟨#[]⟩,.string ⟨#[]⟩,.string ⟨#[]⟩,.string ⟨#[]⟩,.string ⟨#[]⟩] 37 (0,0))) := ⟨by (with_reducible repeat (first|apply q1|apply q2|apply q3));refine blk_far ?_ NB384_385.out _;(with_reducible repeat (first|apply q1|apply q2|apply q3));exact BK384.out⟩
           have n1_ : Aside0 ((w154.setCell ⟨gb385,0,none⟩ (.string t410)).heap[gb385]? = some (.cells #[.string t410,.string ⟨#[]⟩,.string ⟨#[]⟩,.string ⟨#[]⟩,.string ⟨#[]⟩,.string ⟨#[]⟩,.string ⟨#[]⟩,.string ⟨#[]⟩] 37 (0,0))) := ⟨by (with_reducible repeat (first|apply q1|apply q2|apply q3));refine blk_put (cs := #[.string ⟨#[104,116,116,112]⟩,.string ⟨#[]⟩,.string ⟨#[]⟩,.string ⟨#[]⟩,.string ⟨#[]⟩,.string ⟨#[]⟩,.string ⟨#[]⟩,.string ⟨#[]⟩]) ?_ 0 _ rfl;(with_reducible repeat (first|apply q1|apply q2|apply q3));exact BK385.out⟩
           have n2_ : Aside0 (Below w.heap.size w (w154.setCell ⟨gb385,0,none⟩ (.string t410))) := ⟨bl2_ HB.out GE384.out GE385.out⟩
           (try clear BK384)
           (try clear BK385)
           (try clear HB)
           generalize (w154.setCell ⟨gb385,0,none⟩ (.string t410)) = w157 at n0_ n1_ n2_ ⊢
           have BK384 := n0_
           have BK385 := n1_
           have HB := n2_
           clear n0_ n1_ n2_
           (try (rw [drewN_self w157];generalize hq_ : World.drewN w157 _ = w157;have n0_ : Aside0 (w157.heap[gb384]? = some (.cells #[.string ⟨#[]⟩,.string ⟨#[]⟩,.string ⟨#[]⟩,.string ⟨#[]⟩,.string ⟨#[]⟩,.string ⟨#[]⟩,.string ⟨#[]⟩,.string ⟨#[]⟩] 37 (0,0))) := ⟨by rw [← hq_];exact (bk_ BK384.out)⟩;have n1_ : Aside0 (w157.heap[gb385]? = some (.cells #[.string t410,.string ⟨#[]⟩,.string ⟨#[]⟩,.string ⟨#[]⟩,.string ⟨#[]⟩,.string ⟨#[]⟩,.string ⟨#[]⟩,.string ⟨#[]⟩] 37 (0,0))) := ⟨by rw [← hq_];exact (bk_ BK385.out)⟩;have n2_ : Aside0 (Below w.heap.size w w157) := ⟨by rw [← hq_];exact (bl2_ HB.out GE384.out GE385.out)⟩;clear BK384 BK385 HB hq_;have BK384 := n0_;have BK385 := n1_;have HB := n2_;clear n0_ n1_ n2_))
           have n0_ := Aside0.mk (blk_drew BK384.out)
           have n1_ := Aside0.mk (blk_drew BK385.out)
           have n2_ := Aside0.mk (below_drew1 HB.out)
           clear BK384
           clear BK385
           clear HB
           have BK384 := n0_
           have BK385 := n1_
           have HB := n2_
           clear n0_ n1_ n2_
           refine start_ (n := 10) (S := fun w' => w'.cell? ⟨gb385,0,none⟩ = some (.string t410) ∧ w'.cell? ⟨gb385,1,none⟩ = some (.string ⟨#[]⟩) ∧ w'.cell? ⟨gb385,2,none⟩ = some (.string ⟨#[]⟩) ∧ w'.cell? ⟨gb385,3,none⟩ = some (.string ⟨#[]⟩) ∧ w'.cell? ⟨gb385,4,none⟩ = some (.string ⟨#[]⟩) ∧ w'.cell? ⟨gb385,5,none⟩ = some (.string ⟨#[]⟩) ∧ w'.cell? ⟨gb385,6,none⟩ = some (.string ⟨#[]⟩) ∧ w'.cell? ⟨gb385,7,none⟩ = some (.string ⟨#[]⟩)) (ds := [8]) #[false,false,false,false,false,false,false,false,false,false] (by kernel_rfl) rfl rfl ⟨(blk_cell BK385.out 0).trans rfl,(blk_cell BK385.out 1).trans rfl,(blk_cell BK385.out 2).trans rfl,(blk_cell BK385.out 3).trans rfl,(blk_cell BK385.out 4).trans rfl,(blk_cell BK385.out 5).trans rfl,(blk_cell BK385.out 6).trans rfl,(blk_cell BK385.out 7).trans rfl⟩ (fun hHeld => ?_);refine with_tabW spec_UriOf.tab15 spec_UriOf.bits15 (fun HT_ HW_ => ?_)
           generalize w157.drew = w158 at BK384 BK385 HB hHeld ⊢
           refine pure_ (i := 1) (N := some 91) (v := ?_) (a' := ?_) #[false,true,false,false,false,false,false,false,false,false] rfl rfl (any_of HT_.out (by kernel_rfl)) (fun _ _ _ h => h) (Or.inl ⟨by rfl,?_⟩) ?_ ?_
           rotate_left
           ·
            intro w'
            go_simp
            with_reducible rfl
           rotate_left
           ·
            simp only [Act.put,List.setIfInBounds_toArray,List.set_cons_zero,List.set_cons_succ,i64_w,i32_w]
            rfl
           refine pure_ (i := 2) (N := some 92) (v := ?_) (a' := ?_) #[false,true,true,false,false,false,false,false,false,false] rfl rfl (any_of HT_.out (by kernel_rfl)) (fun _ _ _ h => h) (Or.inl ⟨by rfl,?_⟩) ?_ ?_
           rotate_left
           ·
            intro w'
            go_simp
            with_reducible rfl
           rotate_left
           ·
            simp only [Act.put,List.setIfInBounds_toArray,List.set_cons_zero,List.set_cons_succ,i64_w,i32_w]
            rfl
           refine pure_ (i := 3) (N := some 93) (v := ?_) (a' := ?_) #[false,true,true,true,false,false,false,false,false,false] rfl rfl (any_of HT_.out (by kernel_rfl)) (fun _ _ _ h => h) (Or.inl ⟨by rfl,?_⟩) ?_ ?_
           rotate_left
           ·
            intro w'
            go_simp
            with_reducible rfl
           rotate_left
           ·
            simp only [Act.put,List.setIfInBounds_toArray,List.set_cons_zero,List.set_cons_succ,i64_w,i32_w]
            rfl
           refine take_ (i := 0) (N := some 90) (v := ?_) (a' := ?_) #[true,true,true,true,false,false,false,false,false,false] rfl rfl (take_ofW HT_.out HW_.out (by kernel_rfl)) (fun _ _ _ h => h) (Or.inl ⟨by rfl,?_⟩) hHeld ?_ ?_
           rotate_left
           ·
            rintro w' ⟨s0,s1,s2,s3,s4,s5,s6,s7⟩
            go_simp
            with_reducible rfl
           rotate_left
           ·
            simp only [Act.put,List.setIfInBounds_toArray,List.set_cons_zero,List.set_cons_succ,i64_w,i32_w]
            rfl
           refine one_ (i := 4) (N := some 94) #[true,true,true,true,true,false,false,false,false,false] rfl rfl (one_of HT_.out (by kernel_rfl)) (by decide) (fun K hK => ?_)
           refine goes_ Try.func38 (by kernel_rfl) rfl #[.agg #[.string t410,.string ⟨#[]⟩,.string ⟨#[]⟩,.string ⟨#[]⟩,.string ⟨#[]⟩,.string ⟨#[]⟩,.string ⟨#[]⟩,.string ⟨#[]⟩],.string ((a1.extract ((ji82) : Int).toNat a1.size).extract 0 (t411 : Int).toNat)] (by rfl) rfl rfl (by (try simp only [List.map_toArray,List.map_cons,List.map_nil]);first|done|(simp only [hji82];rfl)|rfl|(simp only [ByteArray.size_extract,Nat.min_self];first|done|rfl)|(simp only [List.length_drop,List.length_take];rfl)) ?_
           with_reducible refine (spec_Uri_authority.calls kj14 t410 ⟨#[]⟩ ⟨#[]⟩ ⟨#[]⟩ ⟨#[]⟩ ⟨#[]⟩ ⟨#[]⟩ ⟨#[]⟩ ((a1.extract ((ji82) : Int).toNat a1.size).extract 0 (t411 : Int).toNat) t412 t413 t414 t415 t416 t417 t418 t419 t420 _ A88.out).mono ?_
           rintro e w159 ⟨rfl,hb⟩
           refine ⟨_,rfl,?_⟩
           have n0_ := Aside0.mk (blk_below (g := gb384) (bk_ BK384.out) hb)
           have n1_ := Aside0.mk (blk_below (g := gb385) (bk_ BK385.out) hb)
           have n2_ := Aside0.mk (below_step (bl2_ HB.out GE384.out GE385.out) hb)
           clear BK384
           clear BK385
           clear HB
           have BK384 := n0_
           have BK385 := n1_
           have HB := n2_
           clear n0_ n1_ n2_
           (try clear hb)
           (try clear hb2)
           (try clear hk)
           (try clear hi)
           refine hK.out _ _ ⟨(blk_cell BK385.out 0).trans rfl,(blk_cell BK385.out 1).trans rfl,(blk_cell BK385.out 2).trans rfl,(blk_cell BK385.out 3).trans rfl,(blk_cell BK385.out 4).trans rfl,(blk_cell BK385.out 5).trans rfl,(blk_cell BK385.out 6).trans rfl,(blk_cell BK385.out 7).trans rfl⟩ (fun hHeld => ?_)
           clear hK K
           refine norm_ (a' := ?_) ?_ ?_
           rotate_left
           ·
            show Act.put _ (some 94) _ = _
            simp only [Act.put,List.setIfInBounds_toArray,List.set_cons_zero,List.set_cons_succ,i64_w,i32_w]
            rfl
           refine pure_ (i := 5) (N := some 89) (v := ?_) (a' := ?_) #[true,true,true,true,true,true,false,false,false,false] rfl rfl (any_of HT_.out (by kernel_rfl)) (fun _ _ _ h => h) (Or.inl ⟨by rfl,?_⟩) ?_ ?_
           rotate_left
           ·
            intro w'
            go_simp
            with_reducible rfl
           rotate_left
           ·
            simp only [Act.put,List.setIfInBounds_toArray,List.set_cons_zero,List.set_cons_succ,i64_w,i32_w]
            rfl
           refine pure_ (i := 6) (N := some 95) (v := ?_) (a' := ?_) #[true,true,true,true,true,true,true,false,false,false] rfl rfl (any_of HT_.out (by kernel_rfl)) (fun _ _ _ h => h) (Or.inl ⟨by rfl,?_⟩) ?_ ?_
           rotate_left
           ·
            intro w'
            go_simp
            with_reducible rfl
           rotate_left
           ·
            simp only [Act.put,List.setIfInBounds_toArray,List.set_cons_zero,List.set_cons_succ,i64_w,i32_w]
            rfl
           refine pure_ (i := 7) (N := some 96) (v := ?_) (a' := ?_) #[true,true,true,true,true,true,true,true,false,false] rfl rfl (any_of HT_.out (by kernel_rfl)) (fun _ _ _ h => h) (Or.inl ⟨by rfl,?_⟩) ?_ ?_
           rotate_left
           ·
            intro w'
            go_simp
            with_reducible rfl
           rotate_left
           ·
            simp only [Act.put,List.setIfInBounds_toArray,List.set_cons_zero,List.set_cons_succ,i64_w,i32_w]
            rfl
           refine last_ (i := 8) (N := none) #[true,true,true,true,true,true,true,true,true,false] rfl rfl (one_of HT_.out (by kernel_rfl)) (by decide) (fun K hK => ?_)
           have hs160 : w159.cell? ⟨gb385,0,none⟩ = some (.string t410) := (blk_cell BK385.out 0).trans rfl
           have hfs160 := blk_frozen BK385.out 0
           have hns160_0 := NB384_385.out
           have hms160_0 := NB385_384.out
           have hs161 : w159.cell? ⟨gb385,1,none⟩ = some (.string ⟨#[]⟩) := (blk_cell BK385.out 1).trans rfl
           have hfs161 := blk_frozen BK385.out 1
           have hns161_0 := NB384_385.out
           have hms161_0 := NB385_384.out
           have hs162 : w159.cell? ⟨gb385,2,none⟩ = some (.string ⟨#[]⟩) := (blk_cell BK385.out 2).trans rfl
           have hfs162 := blk_frozen BK385.out 2
           have hns162_0 := NB384_385.out
           have hms162_0 := NB385_384.out
           have hs163 : w159.cell? ⟨gb385,3,none⟩ = some (.string ⟨#[]⟩) := (blk_cell BK385.out 3).trans rfl
           have hfs163 := blk_frozen BK385.out 3
           have hns163_0 := NB384_385.out
           have hms163_0 := NB385_384.out
           have hs164 : w159.cell? ⟨gb385,4,none⟩ = some (.string ⟨#[]⟩) := (blk_cell BK385.out 4).trans rfl
           have hfs164 := blk_frozen BK385.out 4
           have hns164_0 := NB384_385.out
           have hms164_0 := NB385_384.out
           have hs165 : w159.cell? ⟨gb385,5,none⟩ = some (.string ⟨#[]⟩) := (blk_cell BK385.out 5).trans rfl
           have hfs165 := blk_frozen BK385.out 5
           have hns165_0 := NB384_385.out
           have hms165_0 := NB385_384.out
           have hs166 : w159.cell? ⟨gb385,6,none⟩ = some (.string ⟨#[]⟩) := (blk_cell BK385.out 6).trans rfl
           have hfs166 := blk_frozen BK385.out 6
           have hns166_0 := NB384_385.out
           have hms166_0 := NB385_384.out
           have hs167 : w159.cell? ⟨gb385,7,none⟩ = some (.string ⟨#[]⟩) := (blk_cell BK385.out 7).trans rfl
           have hfs167 := blk_frozen BK385.out 7
           have hns167_0 := NB384_385.out
           have hms167_0 := NB385_384.out
           refine skip_ (w1 := ?_) (by rfl) rfl ?_ ?_
           rotate_left
           ·
            go_simp
            rfl
           refine hK.out _ _ ?_
           clear hK K
           refine pure_ (i := 9) (N := some 11) (v := ?_) (a' := ?_) #[true,true,true,true,true,true,true,true,true,true] rfl rfl (any_of HT_.out (by kernel_rfl)) (fun _ _ _ h => h) (Or.inl ⟨by rfl,?_⟩) ?_ ?_
           rotate_left
           ·
            intro w'
            go_simp
            with_reducible rfl
           rotate_left
           ·
            simp only [Act.put,List.setIfInBounds_toArray,List.set_cons_zero,List.set_cons_succ,i64_w,i32_w]
            rfl
           refine done_ (done_of HT_.out (by kernel_rfl)) ?_
           have hcz168_0 : w159.cell? ⟨gb385,0,none⟩ = some (.string t410) := (blk_cell BK385.out 0).trans rfl
           have hcz168_1 : w159.cell? ⟨gb385,1,none⟩ = some (.string ⟨#[]⟩) := (blk_cell BK385.out 1).trans rfl
           have hcz168_2 : w159.cell? ⟨gb385,2,none⟩ = some (.string ⟨#[]⟩) := (blk_cell BK385.out 2).trans rfl
           have hcz168_3 : w159.cell? ⟨gb385,3,none⟩ = some (.string ⟨#[]⟩) := (blk_cell BK385.out 3).trans rfl
           have hcz168_4 : w159.cell? ⟨gb385,4,none⟩ = some (.string ⟨#[]⟩) := (blk_cell BK385.out 4).trans rfl
           have hcz168_5 : w159.cell? ⟨gb385,5,none⟩ = some (.string ⟨#[]⟩) := (blk_cell BK385.out 5).trans rfl
           have hcz168_6 : w159.cell? ⟨gb385,6,none⟩ = some (.string ⟨#[]⟩) := (blk_cell BK385.out 6).trans rfl
           have hcz168_7 : w159.cell? ⟨gb385,7,none⟩ = some (.string ⟨#[]⟩) := (blk_cell BK385.out 7).trans rfl
           have hfz168_0 := blk_frozen BK385.out 0
           have hfz168_1 := blk_frozen BK385.out 1
           have hfz168_2 := blk_frozen BK385.out 2
           have hfz168_3 := blk_frozen BK385.out 3
           have hfz168_4 := blk_frozen BK385.out 4
           have hfz168_5 := blk_frozen BK385.out 5
           have hfz168_6 := blk_frozen BK385.out 6
           have hfz168_7 := blk_frozen BK385.out 7
           have hcz169_0 : w159.cell? ⟨gb384,0,none⟩ = some (.string ⟨#[]⟩) := (blk_cell BK384.out 0).trans rfl
           have hcz169_1 : w159.cell? ⟨gb384,1,none⟩ = some (.string ⟨#[]⟩) := (blk_cell BK384.out 1).trans rfl
           have hcz169_2 : w159.cell? ⟨gb384,2,none⟩ = some (.string ⟨#[]⟩) := (blk_cell BK384.out 2).trans rfl
           have hcz169_3 : w159.cell? ⟨gb384,3,none⟩ = some (.string ⟨#[]⟩) := (blk_cell BK384.out 3).trans rfl
           have hcz169_4 : w159.cell? ⟨gb384,4,none⟩ = some (.string ⟨#[]⟩) := (blk_cell BK384.out 4).trans rfl
           have hcz169_5 : w159.cell? ⟨gb384,5,none⟩ = some (.string ⟨#[]⟩) := (blk_cell BK384.out 5).trans rfl
           have hcz169_6 : w159.cell? ⟨gb384,6,none⟩ = some (.string ⟨#[]⟩) := (blk_cell BK384.out 6).trans rfl
           have hcz169_7 : w159.cell? ⟨gb384,7,none⟩ = some (.string ⟨#[]⟩) := (blk_cell BK384.out 7).trans rfl
           have hfz169_0 := blk_frozen BK384.out 0
           have hfz169_1 := blk_frozen BK384.out 1
           have hfz169_2 := blk_frozen BK384.out 2
           have hfz169_3 := blk_frozen BK384.out 3
           have hfz169_4 := blk_frozen BK384.out 4
           have hfz169_5 := blk_frozen BK384.out 5
           have hfz169_6 := blk_frozen BK384.out 6
           have hfz169_7 := blk_frozen BK384.out 7
           try go_wp2
           refine bodyPost_ret (results_ct rfl _ _ gb384 37 #[.string t412,.string t413,.string t414,.string t415,.string t416,.string t417,.string t418,.string t419] (0,0) _ rfl (by (with_reducible repeat (first|apply q1|apply q2|apply q3));refine blk_put (cs := #[.string t412,.string t413,.string t414,.string t415,.string t416,.string t417,.string t418,.string ⟨#[]⟩]) ?_ 7 _ rfl;(with_reducible repeat (first|apply q1|apply q2|apply q3));refine blk_put (cs := #[.string t412,.string t413,.string t414,.string t415,.string t416,.string t417,.string ⟨#[]⟩,.string ⟨#[]⟩]) ?_ 6 _ rfl;(with_reducible repeat (first|apply q1|apply q2|apply q3));refine blk_put (cs := #[.string t412,.string t413,.string t414,.string t415,.string t416,.string ⟨#[]⟩,.string ⟨#[]⟩,.string ⟨#[]⟩]) ?_ 5 _ rfl;(with_reducible repeat (first|apply q1|apply q2|apply q3));refine blk_put (cs := #[.string t412,.string t413,.string t414,.string t415,.string ⟨#[]⟩,.string ⟨#[]⟩,.string ⟨#[]⟩,.string ⟨#[]⟩]) ?_ 4 _ rfl;(with_reducible repeat (first|apply q1|apply q2|apply q3));refine blk_put (cs := #[.string t412,.string t413,.string t414,.string ⟨#[]⟩,.string ⟨#[]⟩,.string ⟨#[]⟩,.string ⟨#[]⟩,.string ⟨#[]⟩]) ?_ 3 _ rfl;(with_reducible repeat (first|apply q1|apply q2|apply q3));refine blk_put (cs := #[.string t412,.string t413,.string ⟨#[]⟩,.string ⟨#[]⟩,.string ⟨#[]⟩,.string ⟨#[]⟩,.string ⟨#[]⟩,.string ⟨#[]⟩]) ?_ 2 _ rfl;(with_reducible repeat (first|apply q1|apply q2|apply q3));refine blk_put (cs := #[.string t412,.string ⟨#[]⟩,.string ⟨#[]⟩,.string ⟨#[]⟩,.string ⟨#[]⟩,.string ⟨#[]⟩,.string ⟨#[]⟩,.string ⟨#[]⟩]) ?_ 1 _ rfl;(with_reducible repeat (first|apply q1|apply q2|apply q3));refine blk_put (cs := #[.string ⟨#[]⟩,.string ⟨#[]⟩,.string ⟨#[]⟩,.string ⟨#[]⟩,.string ⟨#[]⟩,.string ⟨#[]⟩,.string ⟨#[]⟩,.string ⟨#[]⟩]) ?_ 0 _ rfl;(with_reducible repeat (first|apply q1|apply q2|apply q3));refine blk_far ?_ NB384_385.out _;(with_reducible repeat (first|apply q1|apply q2|apply q3));refine blk_far ?_ NB384_385.out _;(with_reducible repeat (first|apply q1|apply q2|apply q3));refine blk_far ?_ NB384_385.out _;(with_reducible repeat (first|apply q1|apply q2|apply q3));refine blk_far ?_ NB384_385.out _;(with_reducible repeat (first|apply q1|apply q2|apply q3));refine blk_far ?_ NB384_385.out _;(with_reducible repeat (first|apply q1|apply q2|apply q3));refine blk_far ?_ NB384_385.out _;(with_reducible repeat (first|apply q1|apply q2|apply q3));refine blk_far ?_ NB384_385.out _;(with_reducible repeat (first|apply q1|apply q2|apply q3));refine blk_far ?_ NB384_385.out _;(with_reducible repeat (first|apply q1|apply q2|apply q3));exact BK384.out) Try.underlying37 rfl (by kernel_rfl)) rfl ?_
           exact ⟨by first|rfl|(simp [errW_none,errW_some] <;> rfl)|(simp only [← hji82];first|rfl|(simp [errW_none,errW_some] <;> rfl))|(simp [*,errW_none,errW_some] <;> rfl),bl2_ HB.out GE384.out GE385.out⟩
          rw [if_neg c87] at H
          exact absurd H (by simp)
         rw [if_neg c86] at H
         exact absurd H (by simp)
        rw [if_neg c84] at H
        exact absurd H (by simp)
       rw [if_neg c83] at H
       exact absurd H (by simp)
      rw [if_neg c80] at H
      exact absurd H (by simp)
     rw [if_neg c79] at H
     exact absurd H (by simp)
end Go.Proofs.Ytbkeakeldegkeaa.Q
end
