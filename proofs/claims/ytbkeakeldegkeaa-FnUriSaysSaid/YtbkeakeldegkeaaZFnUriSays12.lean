/- FnUriSays: the law's function, called with any arguments, returns true and leaves its arguments as they were: every input, no condition. Part 13 of 16. -/
import Derived.Test.YtbkeakeldegkeaaZFnUriSays1
import Derived.Test.YtbkeakeldegkeaaZFnUriSays10
import Derived.Test.YtbkeakeldegkeaaZFnUriSays11
import Derived.Test.YtbkeakeldegkeaaZFnUriSays8
set_option linter.unusedVariables false
set_option linter.unusedSimpArgs false
section
namespace Go.Proofs.Ytbkeakeldegkeaa.Q
open Go.RowKit Go.Proofs.YtbkeakeldegkeaaW.PrintWords Go.Proofs.YtbkeakeldegkeaaW.PrintLast Go.Proofs.YtbkeakeldegkeaaW.PrintMore
attribute [local go_sem] max2_int min2_int max_two min_two max_three min_three max_four min_four
def spec_CleanPath.f (k : Nat) (a0 : ByteArray) : Option (ByteArray × Int) := (spec_Sound.f k a0).bind fun t372 => (if t372 = true then ((spec_Decoded.f k a0 false).bind fun t373 => ((spec_Cleaned.f k t373).bind fun bt374 => (some (bt374.1,bt374.2)))) else (some (⟨#[]⟩,2)))
set_option maxHeartbeats 8000000 in
set_option maxRecDepth 100000 in
theorem spec_CleanPath.calls (k : Nat) (a0 : ByteArray) (r1 : ByteArray) (r2 : Int) (w : World) (h : spec_CleanPath.f k a0 = some (r1,r2)) :
  Calls Try.prog 72 #[.string a0] w fun e w' => e = .returned (.tuple #[.string r1,.int .i64 r2]) ∧ Below w.heap.size w w' := by
 have HB := Aside0.mk (Below.refl w.heap.size w)
 have H : ((spec_Sound.f k a0).bind fun t372 => (if t372 = true then ((spec_Decoded.f k a0 false).bind fun t373 => ((spec_Cleaned.f k t373).bind fun bt374 => (some (bt374.1,bt374.2)))) else (some (⟨#[]⟩,2)))) = some (r1,r2) := h
 clear h
 replace H := Option.bind_eq_some_iff.mp H
 obtain ⟨t372,A20,H⟩ := H
 replace H : (if t372 = true then ((spec_Decoded.f k a0 false).bind fun t373 => ((spec_Cleaned.f k t373).bind fun bt374 => (some (bt374.1,bt374.2)))) else (some (⟨#[]⟩,2))) = some (r1,r2) := H
 have A2 := Aside0.mk A20
 clear A20
 by_cases c3 : t372 = true
 ·
  subst c3
  have H1 : ((spec_Decoded.f k a0 false).bind fun t373 => ((spec_Cleaned.f k t373).bind fun bt374 => (some (bt374.1,bt374.2)))) = some (r1,r2) := by rw [if_pos rfl] at H;exact H
  clear H
  have H := H1
  clear H1
  replace H := Option.bind_eq_some_iff.mp H
  obtain ⟨t373,A40,H⟩ := H
  replace H : ((spec_Cleaned.f k t373).bind fun bt374 => (some (bt374.1,bt374.2))) = some (r1,r2) := H
  have A4 := Aside0.mk A40
  clear A40
  replace H := Option.bind_eq_some_iff.mp H
  obtain ⟨⟨t374,t375⟩,A50,H⟩ := H
  replace H : (some (t374,t375)) = some (r1,r2) := H
  have A5 := Aside0.mk A50
  clear A50
  simp only [Option.some.injEq,Prod.mk.injEq] at H
  obtain ⟨rfl,rfl⟩ := H
  go_enter Try.func72,Try.ntmps72
  go_wp2_with (first|((with_reducible refine gate_callee (f := 53) rfl ?_);refine goesL_ (some 5) rfl rfl Try.func53 (by kernel_rfl) rfl #[.string a0] rfl (by (try simp only [List.map_toArray,List.map_cons,List.map_nil]);first|done|rfl|(simp only [List.length_drop,List.length_take];rfl)) ?_;(with_reducible refine (spec_Sound.calls k a0 true _ A2.out).mono ?_);rintro e w' ⟨rfl,⟨nd,rfl⟩⟩;refine ⟨_,rfl,?_⟩)|((with_reducible refine gate_callee (f := 55) rfl ?_);refine goesL_ (some 8) rfl rfl Try.func55 (by kernel_rfl) rfl #[.string a0,.bool false] rfl (by (try simp only [List.map_toArray,List.map_cons,List.map_nil]);first|done|rfl|(simp only [List.length_drop,List.length_take];rfl)) ?_;(with_reducible refine (spec_Decoded.calls k a0 false t373 _ A4.out).mono ?_);rintro e w6 ⟨rfl,hb⟩;refine ⟨_,rfl,?_⟩;have n0_ := Aside0.mk (below_step (bl_ HB.out) hb);clear HB;have HB := n0_;clear n0_;(try clear hb);(try clear hb2);(try clear hk);(try clear hi))|((with_reducible refine gate_callee (f := 54) rfl ?_);refine goesL_ (some 9) rfl rfl Try.func54 (by kernel_rfl) rfl #[.string t373] rfl (by (try simp only [List.map_toArray,List.map_cons,List.map_nil]);first|done|rfl|(simp only [List.length_drop,List.length_take];rfl)) ?_;(with_reducible refine (spec_Cleaned.calls k t373 t374 t375 _ A5.out).mono ?_);rintro e w7 ⟨rfl,hb⟩;refine ⟨_,rfl,?_⟩;have n0_ := Aside0.mk (below_step (bl_ HB.out) hb);clear HB;have HB := n0_;clear n0_;(try clear hb);(try clear hb2);(try clear hk);(try clear hi)))
  go_ret2
  exact ⟨by first|rfl|(simp [errW_none,errW_some] <;> rfl)|(simp [*,errW_none,errW_some] <;> rfl),bl_ HB.out⟩
 replace c3 := Bool.eq_false_iff.mpr c3
 subst c3
 have H1 : (some (⟨#[]⟩,2)) = some (r1,r2) := by rw [if_neg (show ¬ (false = true) by decide)] at H;exact H
 clear H
 have H := H1
 clear H1
 simp only [Option.some.injEq,Prod.mk.injEq] at H
 obtain ⟨rfl,rfl⟩ := H
 go_enter Try.func72,Try.ntmps72
 go_wp2_with (first|((with_reducible refine gate_callee (f := 53) rfl ?_);refine goesL_ (some 5) rfl rfl Try.func53 (by kernel_rfl) rfl #[.string a0] rfl (by (try simp only [List.map_toArray,List.map_cons,List.map_nil]);first|done|rfl|(simp only [List.length_drop,List.length_take];rfl)) ?_;(with_reducible refine (spec_Sound.calls k a0 false _ A2.out).mono ?_);rintro e w' ⟨rfl,⟨nd,rfl⟩⟩;refine ⟨_,rfl,?_⟩))
 go_ret2
 exact ⟨by first|rfl|(simp [errW_none,errW_some] <;> rfl)|(simp [*,errW_none,errW_some] <;> rfl),bl_ HB.out⟩
end Go.Proofs.Ytbkeakeldegkeaa.Q
namespace Go.Proofs.Ytbkeakeldegkeaa.Q
open Go.RowKit Go.Proofs.YtbkeakeldegkeaaW.PrintWords Go.Proofs.YtbkeakeldegkeaaW.PrintLast Go.Proofs.YtbkeakeldegkeaaW.PrintMore
attribute [local go_sem] max2_int min2_int max_two min_two max_three min_three max_four min_four
def spec_Uri_request.j0 : Nat → ByteArray → ByteArray → ByteArray → ByteArray → ByteArray → ByteArray → ByteArray → ByteArray → ByteArray → Option (ByteArray × ByteArray × ByteArray × ByteArray × ByteArray × ByteArray × ByteArray × ByteArray × Int)
 | 0,_,_,_,_,_,_,_,_,_ => none
 | k + 1,x1,x377000,x377001,x377002,x377003,x377004,x377005,x377006,x377007 => (spec_indexOf.f k x1 63).bind fun t379 => (if t379 ≥ 0 then (if 0 ≤ t379 then (if t379 ≤ (x1.size : Int) then (if 0 ≤ (wrap64 (t379 + 1)) then (if (wrap64 (t379 + 1)) ≤ (x1.size : Int) then ((spec_CleanPath.f k (x1.extract 0 (t379 : Int).toNat)).bind fun bt380 => (some (x377000,x377001,bt380.1,x1.extract 0 (t379 : Int).toNat,x1.extract ((wrap64 (t379 + 1)) : Int).toNat x1.size,x377005,x377006,x377007,bt380.2))) else (none)) else (none)) else (none)) else (none)) else ((spec_CleanPath.f k x1).bind fun bt382 => (some (x377000,x377001,bt382.1,x1,x377004,x377005,x377006,x377007,bt382.2))))
def spec_Uri_request.f (k : Nat) (a0_0 : ByteArray) (a0_1 : ByteArray) (a0_2 : ByteArray) (a0_3 : ByteArray) (a0_4 : ByteArray) (a0_5 : ByteArray) (a0_6 : ByteArray) (a0_7 : ByteArray) (a1 : ByteArray) : Option (ByteArray × ByteArray × ByteArray × ByteArray × ByteArray × ByteArray × ByteArray × ByteArray × Int) := (spec_indexOf.f k a1 35).bind fun t378 => (if t378 ≥ 0 then (if 0 ≤ t378 then (if t378 ≤ (a1.size : Int) then (if 0 ≤ (wrap64 (t378 + 1)) then (if (wrap64 (t378 + 1)) ≤ (a1.size : Int) then (spec_Uri_request.j0 k (a1.extract 0 (t378 : Int).toNat) a0_0 a0_1 a0_2 a0_3 ⟨#[]⟩ (a1.extract ((wrap64 (t378 + 1)) : Int).toNat a1.size) a0_6 a0_7) else (none)) else (none)) else (none)) else (none)) else (spec_Uri_request.j0 k a1 a0_0 a0_1 a0_2 a0_3 ⟨#[]⟩ ⟨#[]⟩ a0_6 a0_7))
def spec_Uri_request.T4 : Bool × List (List Nat × List Nat) := (true,[([],[]),([],[]),([0,1],[0,1]),([],[]),([],[]),([4],[4]),([3,5],[3,5]),([2,0,1,2,3],[0,2,3]),([0,1,2,3,4,5,6,7],[]),([8,6,7,0,1,2,3,4,5,6,7],[6,8])])
def spec_Uri_request.B4 : List Nat := [0,0,3,0,0,16,56,15,255,511]
theorem spec_Uri_request.tab4 : rtab .any (opsOf Try.f41 4) = spec_Uri_request.T4 := by kernel_rfl
theorem spec_Uri_request.bits4 : waitsOk spec_Uri_request.T4.2 spec_Uri_request.B4 = true := by kernel_rfl
def spec_Uri_request.T7 : Bool × List (List Nat × List Nat) := (true,[([],[]),([],[]),([0,1],[0,1]),([],[]),([],[]),([4],[4]),([3,5],[3,5]),([2,0,1,2,3],[0,2,3]),([0,1,2,3,4,5,6,7],[]),([8,6,7,0,1,2,3,4,5,6,7],[6,8])])
def spec_Uri_request.B7 : List Nat := [0,0,3,0,0,16,56,15,255,511]
theorem spec_Uri_request.tab7 : rtab .any (opsOf Try.f41 7) = spec_Uri_request.T7 := by kernel_rfl
theorem spec_Uri_request.bits7 : waitsOk spec_Uri_request.T7.2 spec_Uri_request.B7 = true := by kernel_rfl
set_option maxHeartbeats 8000000 in
set_option maxRecDepth 100000 in
theorem spec_Uri_request.calls (k : Nat) (a0_0 : ByteArray) (a0_1 : ByteArray) (a0_2 : ByteArray) (a0_3 : ByteArray) (a0_4 : ByteArray) (a0_5 : ByteArray) (a0_6 : ByteArray) (a0_7 : ByteArray) (a1 : ByteArray) (r1 : ByteArray) (r2 : ByteArray) (r3 : ByteArray) (r4 : ByteArray) (r5 : ByteArray) (r6 : ByteArray) (r7 : ByteArray) (r8 : ByteArray) (r9 : Int) (w : World) (h : spec_Uri_request.f k a0_0 a0_1 a0_2 a0_3 a0_4 a0_5 a0_6 a0_7 a1 = some (r1,r2,r3,r4,r5,r6,r7,r8,r9)) :
  Calls Try.prog 41 #[.agg #[.string a0_0,.string a0_1,.string a0_2,.string a0_3,.string a0_4,.string a0_5,.string a0_6,.string a0_7],.string a1] w fun e w' => e = .returned (.tuple #[.agg #[.string r1,.string r2,.string r3,.string r4,.string r5,.string r6,.string r7,.string r8],.int .i64 r9]) ∧ Below w.heap.size w w' := by
 have hu37 := Try.underlying37
 have HB := Aside0.mk (Below.refl w.heap.size w)
 have H : ((spec_indexOf.f k a1 35).bind fun t378 => (if t378 ≥ 0 then (if 0 ≤ t378 then (if t378 ≤ (a1.size : Int) then (if 0 ≤ (wrap64 (t378 + 1)) then (if (wrap64 (t378 + 1)) ≤ (a1.size : Int) then (spec_Uri_request.j0 k (a1.extract 0 (t378 : Int).toNat) a0_0 a0_1 a0_2 a0_3 ⟨#[]⟩ (a1.extract ((wrap64 (t378 + 1)) : Int).toNat a1.size) a0_6 a0_7) else (none)) else (none)) else (none)) else (none)) else (spec_Uri_request.j0 k a1 a0_0 a0_1 a0_2 a0_3 ⟨#[]⟩ ⟨#[]⟩ a0_6 a0_7))) = some (r1,r2,r3,r4,r5,r6,r7,r8,r9) := h
 clear h
 replace H := Option.bind_eq_some_iff.mp H
 obtain ⟨t378,A30,H⟩ := H
 replace H : (if t378 ≥ 0 then (if 0 ≤ t378 then (if t378 ≤ (a1.size : Int) then (if 0 ≤ (wrap64 (t378 + 1)) then (if (wrap64 (t378 + 1)) ≤ (a1.size : Int) then (spec_Uri_request.j0 k (a1.extract 0 (t378 : Int).toNat) a0_0 a0_1 a0_2 a0_3 ⟨#[]⟩ (a1.extract ((wrap64 (t378 + 1)) : Int).toNat a1.size) a0_6 a0_7) else (none)) else (none)) else (none)) else (none)) else (spec_Uri_request.j0 k a1 a0_0 a0_1 a0_2 a0_3 ⟨#[]⟩ ⟨#[]⟩ a0_6 a0_7)) = some (r1,r2,r3,r4,r5,r6,r7,r8,r9) := H
 have A3 := Aside0.mk A30
 clear A30
 have HC4 := Aside0.mk H
 clear H
 go_enter Try.func41,Try.ntmps41
 go_upto_if 15 with (first|((with_reducible refine gate_dst (N := 2) rfl ?_);refine box_event ?hg (N := 2) ?hd (cs := #[.string a0_0,.string a0_1,.string a0_2,.string a0_3,.string a0_4,.string a0_5,.string a0_6,.string a0_7]) (t := 37) ?hr ?_;(case hd => rfl);(case hg => rfl);(case hr => first|(go_simp;done)|(go_simp;rfl));intro gb376 hg w5 hbox hb;have n0_ := Aside0.mk (below_step (bl_ HB.out) hb);have n1_ := Aside0.mk (hbox);have n2_ := Aside0.mk ((by rw [hg];exact (below_size (bl_ HB.out)) : w.heap.size ≤ gb376));have n3_ := Aside0.mk ((by rw [hg];exact (below_size (bl_ HB.out)) : w.heap.size ≤ gb376));clear HB;have HB := n0_;have BK376 := n1_;have GW376 := n2_;have GE376 := n3_;clear n0_ n1_ n2_ n3_;clear hb hbox hg)|((with_reducible refine gate_dst (N := 4) rfl ?_);refine box_event ?hg (N := 4) ?hd (cs := #[.string ⟨#[]⟩,.string ⟨#[]⟩,.string ⟨#[]⟩,.string ⟨#[]⟩,.string ⟨#[]⟩,.string ⟨#[]⟩,.string ⟨#[]⟩,.string ⟨#[]⟩]) (t := 37) ?hr ?_;(case hd => rfl);(case hg => rfl);(case hr => first|(go_simp;done)|(go_simp;rfl));intro gb377 hg w6 hbox hb;have n0_ := Aside0.mk (blk_below (g := gb376) (bk_ BK376.out) hb);have n1_ := Aside0.mk (below_step (bl1_ HB.out GE376.out) hb);have n2_ := Aside0.mk (hbox);have n3_ := Aside0.mk ((by rw [hg];exact (below_size (bl1_ HB.out GE376.out)) : w.heap.size ≤ gb377));have n4_ := Aside0.mk ((by rw [hg];exact (below_size (bl1_ HB.out GE376.out)) : w.heap.size ≤ gb377));have n5_ := Aside0.mk ((by rw [hg];exact Nat.ne_of_lt (blk_lt (g := gb376) (bk_ BK376.out)) : gb376 ≠ gb377));have n6_ := Aside0.mk ((by rw [hg];exact Nat.ne_of_gt (blk_lt (g := gb376) (bk_ BK376.out)) : gb377 ≠ gb376));clear BK376;clear HB;have BK376 := n0_;have HB := n1_;have BK377 := n2_;have GW377 := n3_;have GE377 := n4_;have NB376_377 := n5_;have NB377_376 := n6_;clear n0_ n1_ n2_ n3_ n4_ n5_ n6_;clear hb hbox hg;have hnb7 := NB376_377.out;have hnc7 := NB377_376.out;have hcz8_0 : w6.cell? ⟨gb376,0,none⟩ = some (.string a0_0) := (blk_cell BK376.out 0).trans rfl;have hcz8_1 : w6.cell? ⟨gb376,1,none⟩ = some (.string a0_1) := (blk_cell BK376.out 1).trans rfl;have hcz8_2 : w6.cell? ⟨gb376,2,none⟩ = some (.string a0_2) := (blk_cell BK376.out 2).trans rfl;have hcz8_3 : w6.cell? ⟨gb376,3,none⟩ = some (.string a0_3) := (blk_cell BK376.out 3).trans rfl;have hcz8_4 : w6.cell? ⟨gb376,4,none⟩ = some (.string a0_4) := (blk_cell BK376.out 4).trans rfl;have hcz8_5 : w6.cell? ⟨gb376,5,none⟩ = some (.string a0_5) := (blk_cell BK376.out 5).trans rfl;have hcz8_6 : w6.cell? ⟨gb376,6,none⟩ = some (.string a0_6) := (blk_cell BK376.out 6).trans rfl;have hcz8_7 : w6.cell? ⟨gb376,7,none⟩ = some (.string a0_7) := (blk_cell BK376.out 7).trans rfl;have hfz8_0 := blk_frozen BK376.out 0;have hfz8_1 := blk_frozen BK376.out 1;have hfz8_2 := blk_frozen BK376.out 2;have hfz8_3 := blk_frozen BK376.out 3;have hfz8_4 := blk_frozen BK376.out 4;have hfz8_5 := blk_frozen BK376.out 5;have hfz8_6 := blk_frozen BK376.out 6;have hfz8_7 := blk_frozen BK376.out 7)|((with_reducible refine gate_callee (f := 40) rfl ?_);refine goesL_ (some 13) rfl rfl Try.func40 (by kernel_rfl) rfl #[.string a1,.int .u8 35] rfl (by (try simp only [List.map_toArray,List.map_cons,List.map_nil]);first|done|rfl|(simp only [List.length_drop,List.length_take];rfl)) ?_;(with_reducible refine (spec_indexOf.calls k a1 35 t378 _ A3.out).mono ?_);rintro e w' ⟨rfl,⟨nd,rfl⟩⟩;refine ⟨_,rfl,?_⟩))
 (try simp only [Act.put,List.setIfInBounds_toArray,List.set_cons_zero,List.set_cons_succ])
 go_cut [1] (fun v1 wc => ∃ (kq : Nat) (x1_3 : ByteArray) (x377005_3 : ByteArray),v1 = .string x1_3 ∧ Aside0 (spec_Uri_request.j0 kq x1_3 a0_0 a0_1 a0_2 a0_3 ⟨#[]⟩ x377005_3 a0_6 a0_7 = some (r1,r2,r3,r4,r5,r6,r7,r8,r9)) ∧ Aside0 (kq ≤ k) ∧ Aside0 (wc.heap[gb376]? = some (.cells #[.string a0_0,.string a0_1,.string a0_2,.string a0_3,.string ⟨#[]⟩,.string x377005_3,.string a0_6,.string a0_7] 37 (0,0))) ∧ Aside0 (wc.heap[gb377]? = some (.cells #[.string ⟨#[]⟩,.string ⟨#[]⟩,.string ⟨#[]⟩,.string ⟨#[]⟩,.string ⟨#[]⟩,.string ⟨#[]⟩,.string ⟨#[]⟩,.string ⟨#[]⟩] 37 (0,0))) ∧ Aside0 (Below w.heap.size w wc))
 case first =>
  have H := HC4.out
  clear HC4
  by_cases c9 : t378 ≥ 0
  ·
   rw [if_pos c9] at H
   have c9b0 : decide (0 ≤ t378) = true := decide_eq_true c9
   clear c9
   (first|rw [c9b0]|(simp only [i64_w,i32_w];rw [c9b0])|(rw [YtbkeakeldegkeaaX.isEmpty_eq];rw [c9b0])|skip)
   by_cases c10 : 0 ≤ t378
   ·
    rw [if_pos c10] at H
    have c10b0 := eq_true c10
    have c10b1 : decide (0 ≤ t378) = true := decide_eq_true c10
    clear c10
    by_cases c11 : t378 ≤ (a1.size : Int)
    ·
     rw [if_pos c11] at H
     have c11b0 := eq_true c11
     have c11b1 : decide (t378 ≤ (a1.size : Int)) = true := decide_eq_true c11
     clear c11
     obtain ⟨ji12,hji12⟩ : ∃ j_ : Int,(wrap64 (t378 + 1)) = j_ := ⟨_,rfl⟩
     replace H : (if 0 ≤ (ji12) then (if (ji12) ≤ (a1.size : Int) then (spec_Uri_request.j0 k (a1.extract 0 (t378 : Int).toNat) a0_0 a0_1 a0_2 a0_3 ⟨#[]⟩ (a1.extract ((ji12) : Int).toNat a1.size) a0_6 a0_7) else (none)) else (none)) = some (r1,r2,r3,r4,r5,r6,r7,r8,r9) := by first|(rw [hji12] at H;exact H)|(simp only [hji12] at H ⊢;exact H)
     have hji12w : (IntKind.i64.wrap (t378 + 1)) = ji12 := (i64_w _).trans hji12
     by_cases c13 : 0 ≤ (ji12)
     ·
      rw [if_pos c13] at H
      have c13b0 := eq_true c13
      have c13b1 : decide (0 ≤ (ji12)) = true := decide_eq_true c13
      clear c13
      by_cases c14 : (ji12) ≤ (a1.size : Int)
      ·
       rw [if_pos c14] at H
       have c14b0 := eq_true c14
       have c14b1 : decide ((ji12) ≤ (a1.size : Int)) = true := decide_eq_true c14
       clear c14
       have H' := Aside0.mk H
       clear H
       try go_wp2
       have n0_ : Aside0 (((w6.setCell ⟨gb376,4,none⟩ (.string ⟨#[]⟩)).setCell ⟨gb376,5,none⟩ (.string ⟨#[]⟩)).heap[gb376]? = some (.cells #[.string a0_0,.string a0_1,.string a0_2,.string a0_3,.string ⟨#[]⟩,.string ⟨#[]⟩,.string a0_6,.string a0_7] 37 (0,0))) := ⟨by (with_reducible repeat (first|apply q1|apply q2|apply q3));refine blk_put (cs := #[.string a0_0,.string a0_1,.string a0_2,.string a0_3,.string ⟨#[]⟩,.string a0_5,.string a0_6,.string a0_7]) ?_ 5 _ rfl;(with_reducible repeat (first|apply q1|apply q2|apply q3));refine blk_put (cs := #[.string a0_0,.string a0_1,.string a0_2,.string a0_3,.string a0_4,.string a0_5,.string a0_6,.string a0_7]) ?_ 4 _ rfl;(with_reducible repeat (first|apply q1|apply q2|apply q3));exact BK376.out⟩
       have n1_ : Aside0 (((w6.setCell ⟨gb376,4,none⟩ (.string ⟨#[]⟩)).setCell ⟨gb376,5,none⟩ (.string ⟨#[]⟩)).heap[gb377]? = some (.cells #[.string ⟨#[]⟩,.string ⟨#[]⟩,.string ⟨#[]⟩,.string ⟨#[]⟩,.string ⟨#[]⟩,.string ⟨#[]⟩,.string ⟨#[]⟩,.string ⟨#[]⟩] 37 (0,0))) := ⟨by (with_reducible repeat (first|apply q1|apply q2|apply q3));refine blk_far ?_ NB377_376.out _;(with_reducible repeat (first|apply q1|apply q2|apply q3));refine blk_far ?_ NB377_376.out _;(with_reducible repeat (first|apply q1|apply q2|apply q3));exact BK377.out⟩
       have n2_ : Aside0 (Below w.heap.size w ((w6.setCell ⟨gb376,4,none⟩ (.string ⟨#[]⟩)).setCell ⟨gb376,5,none⟩ (.string ⟨#[]⟩))) := ⟨bl2_ HB.out GE376.out GE377.out⟩
       (try clear BK376)
       (try clear BK377)
       (try clear HB)
       generalize ((w6.setCell ⟨gb376,4,none⟩ (.string ⟨#[]⟩)).setCell ⟨gb376,5,none⟩ (.string ⟨#[]⟩)) = w15 at n0_ n1_ n2_ ⊢
       have BK376 := n0_
       have BK377 := n1_
       have HB := n2_
       clear n0_ n1_ n2_
       have n0_ := Aside0.mk (blk_drew (blk_drewN BK376.out nd))
       have n1_ := Aside0.mk (blk_drew (blk_drewN BK377.out nd))
       have n2_ := Aside0.mk (below_drew1 (pw_below_drewN HB.out nd))
       clear BK376
       clear BK377
       clear HB
       have BK376 := n0_
       have BK377 := n1_
       have HB := n2_
       clear n0_ n1_ n2_
       refine start_ (n := 10) (S := fun w' => True) (ds := []) #[false,false,false,false,false,false,false,false,false,false] (by kernel_rfl) rfl rfl trivial (fun hHeld => ?_);refine with_tabW spec_Uri_request.tab4 spec_Uri_request.bits4 (fun HT_ HW_ => ?_)
       generalize (World.drewN w15 nd).drew = w16 at BK376 BK377 HB hHeld ⊢
       refine pure_ (i := 0) (N := some 16) (v := ?_) (a' := ?_) #[true,false,false,false,false,false,false,false,false,false] rfl rfl (any_of HT_.out (by kernel_rfl)) (fun _ _ _ h => h) (Or.inl ⟨by rfl,?_⟩) ?_ ?_
       rotate_left
       ·
        intro w'
        go_simp
        with_reducible rfl
       rotate_left
       ·
        simp only [Act.put,List.setIfInBounds_toArray,List.set_cons_zero,List.set_cons_succ,i64_w,i32_w]
        rfl
       refine pure_ (i := 1) (N := some 17) (v := ?_) (a' := ?_) #[true,true,false,false,false,false,false,false,false,false] rfl rfl (any_of HT_.out (by kernel_rfl)) (fun _ _ _ h => h) (Or.inl ⟨by rfl,?_⟩) ?_ ?_
       rotate_left
       ·
        intro w'
        go_simp
        with_reducible rfl
       rotate_left
       ·
        simp only [Act.put,List.setIfInBounds_toArray,List.set_cons_zero,List.set_cons_succ,i64_w,i32_w]
        rfl
       refine pure_ (i := 2) (N := some 18) (v := ?_) (a' := ?_) #[true,true,true,false,false,false,false,false,false,false] rfl rfl (any_of HT_.out (by kernel_rfl)) (fun _ _ _ h => h) (Or.inl ⟨by rfl,?_⟩) ?_ ?_
       rotate_left
       ·
        intro w'
        go_simp
        with_reducible rfl
       rotate_left
       ·
        simp only [Act.put,List.setIfInBounds_toArray,List.set_cons_zero,List.set_cons_succ,i64_w,i32_w]
        rfl
       refine pure_ (i := 3) (N := some 19) (v := ?_) (a' := ?_) #[true,true,true,true,false,false,false,false,false,false] rfl rfl (any_of HT_.out (by kernel_rfl)) (fun _ _ _ h => h) (Or.inl ⟨by rfl,?_⟩) ?_ ?_
       rotate_left
       ·
        intro w'
        go_simp
        with_reducible rfl
       rotate_left
       ·
        simp only [Act.put,List.setIfInBounds_toArray,List.set_cons_zero,List.set_cons_succ,i64_w,i32_w]
        rfl
       refine pure_ (i := 4) (N := some 20) (v := ?_) (a' := ?_) #[true,true,true,true,true,false,false,false,false,false] rfl rfl (any_of HT_.out (by kernel_rfl)) (fun _ _ _ h => h) (Or.inl ⟨by rfl,?_⟩) ?_ ?_
       rotate_left
       ·
        intro w'
        go_simp
        with_reducible rfl
       rotate_left
       ·
        simp only [Act.put,List.setIfInBounds_toArray,List.set_cons_zero,List.set_cons_succ,i64_w,i32_w]
        rfl
       refine pure_ (i := 5) (N := some 21) (v := ?_) (a' := ?_) #[true,true,true,true,true,true,false,false,false,false] rfl rfl (any_of HT_.out (by kernel_rfl)) (fun _ _ _ h => h) (Or.inl ⟨by rfl,?_⟩) ?_ ?_
       rotate_left
       ·
        intro w'
        go_simp
        with_reducible rfl
       rotate_left
       ·
        simp only [Act.put,List.setIfInBounds_toArray,List.set_cons_zero,List.set_cons_succ,i64_w,i32_w]
        rfl
       refine pure_ (i := 6) (N := some 22) (v := ?_) (a' := ?_) #[true,true,true,true,true,true,true,false,false,false] rfl rfl (any_of HT_.out (by kernel_rfl)) (fun _ _ _ h => h) (Or.inl ⟨by rfl,?_⟩) ?_ ?_
       rotate_left
       ·
        intro w'
        go_simp
        with_reducible rfl
       rotate_left
       ·
        simp only [Act.put,List.setIfInBounds_toArray,List.set_cons_zero,List.set_cons_succ,i64_w,i32_w]
        rfl
       refine pure_ (i := 7) (N := some 1) (v := ?_) (a' := ?_) #[true,true,true,true,true,true,true,true,false,false] rfl rfl (any_of HT_.out (by kernel_rfl)) (fun _ _ _ h => h) (Or.inl ⟨by rfl,?_⟩) ?_ ?_
       rotate_left
       ·
        intro w'
        go_simp
        with_reducible rfl
       rotate_left
       ·
        simp only [Act.put,List.setIfInBounds_toArray,List.set_cons_zero,List.set_cons_succ,i64_w,i32_w]
        rfl
       refine pure_ (i := 8) (N := some 23) (v := ?_) (a' := ?_) #[true,true,true,true,true,true,true,true,true,false] rfl rfl (any_of HT_.out (by kernel_rfl)) (fun _ _ _ h => h) (Or.inl ⟨by rfl,?_⟩) ?_ ?_
       rotate_left
       ·
        intro w'
        go_simp
        with_reducible rfl
       rotate_left
       ·
        simp only [Act.put,List.setIfInBounds_toArray,List.set_cons_zero,List.set_cons_succ,i64_w,i32_w]
        rfl
       refine one_ (i := 9) (N := none) #[true,true,true,true,true,true,true,true,true,true] rfl rfl (one_of HT_.out (by kernel_rfl)) (by decide) (fun K hK => ?_)
       have hs17 : w16.cell? ⟨gb376,5,none⟩ = some (.string ⟨#[]⟩) := (blk_cell BK376.out 5).trans rfl
       have hfs17 := blk_frozen BK376.out 5
       have hns17_1 := NB377_376.out
       have hms17_1 := NB376_377.out
       refine skip_ (w1 := ?_) (by rfl) rfl ?_ ?_
       rotate_left
       ·
        go_simp
        rfl
       refine hK.out _ _ trivial (fun hHeld => ?_)
       clear hK K
       refine done_ (done_of HT_.out (by kernel_rfl)) ?_
       try go_wp2
       go_meet
       case rel => exact ⟨_,(a1.extract 0 (t378 : Int).toNat),(a1.extract ((ji12) : Int).toNat a1.size),(rs_),H',⟨by first|omega|exact Nat.le_refl _⟩,⟨by (with_reducible repeat (first|apply q1|apply q2|apply q3));refine blk_put (cs := #[.string a0_0,.string a0_1,.string a0_2,.string a0_3,.string ⟨#[]⟩,.string ⟨#[]⟩,.string a0_6,.string a0_7]) ?_ 5 _ rfl;(with_reducible repeat (first|apply q1|apply q2|apply q3));exact BK376.out⟩,⟨by (with_reducible repeat (first|apply q1|apply q2|apply q3));refine blk_far ?_ NB377_376.out _;(with_reducible repeat (first|apply q1|apply q2|apply q3));exact BK377.out⟩,⟨bl2_ HB.out GE376.out GE377.out⟩⟩
      rw [if_neg c14] at H
      exact absurd H (by simp)
     rw [if_neg c13] at H
     exact absurd H (by simp)
    rw [if_neg c11] at H
    exact absurd H (by simp)
   rw [if_neg c10] at H
   exact absurd H (by simp)
  rw [if_neg c9] at H
  have c9b0 : decide (0 ≤ t378) = false := decide_eq_false c9
  clear c9
  (first|rw [c9b0]|(simp only [i64_w,i32_w];rw [c9b0])|(rw [YtbkeakeldegkeaaX.isEmpty_eq];rw [c9b0])|skip)
  have H' := Aside0.mk H
  clear H
  go_wp2
  go_meet
  case rel => exact ⟨_,(a1),(⟨#[]⟩),(rs_),H',⟨by first|omega|exact Nat.le_refl _⟩,⟨by (with_reducible repeat (first|apply q1|apply q2|apply q3));refine blk_put (cs := #[.string a0_0,.string a0_1,.string a0_2,.string a0_3,.string ⟨#[]⟩,.string a0_5,.string a0_6,.string a0_7]) ?_ 5 _ rfl;(with_reducible repeat (first|apply q1|apply q2|apply q3));refine blk_put (cs := #[.string a0_0,.string a0_1,.string a0_2,.string a0_3,.string a0_4,.string a0_5,.string a0_6,.string a0_7]) ?_ 4 _ rfl;(with_reducible repeat (first|apply q1|apply q2|apply q3));exact BK376.out⟩,⟨by (with_reducible repeat (first|apply q1|apply q2|apply q3));refine blk_far ?_ NB377_376.out _;(with_reducible repeat (first|apply q1|apply q2|apply q3));refine blk_far ?_ NB377_376.out _;(with_reducible repeat (first|apply q1|apply q2|apply q3));exact BK377.out⟩,⟨bl2_ HB.out GE376.out GE377.out⟩⟩
 case rest =>
  clear HC4
  try clear c1
  try clear p2
  try clear c4
  try clear p6
  try clear c7
  try clear c9
  try clear c9b0
  try clear c10
  try clear c10b0
  try clear c10b1
  try clear c11
  try clear c11b0
  try clear c11b1
  try clear c13
  try clear c13b0
  try clear c13b1
  try clear c14
  try clear c14b0
  try clear c14b1
  try clear hcz8_0
  try clear hcz8_1
  try clear hcz8_2
  try clear hcz8_3
  try clear hcz8_4
  try clear hcz8_5
  try clear hcz8_6
  try clear hcz8_7
  try clear hfz8_0
  try clear hfz8_1
  try clear hfz8_2
  try clear hfz8_3
  try clear hfz8_4
  try clear hfz8_5
  try clear hfz8_6
  try clear hfz8_7
  obtain ⟨kq,x1_3,x377005_3,rfl,HA,HJ3,BK376,BK377,HB⟩ := hcut
  cases kq with
  | zero => exact absurd HA.out (by simp [spec_Uri_request.j0])
  | succ kj3 =>
   have H := HA.out
   clear HA
   simp only [spec_Uri_request.j0] at H
   replace H := Option.bind_eq_some_iff.mp H
   obtain ⟨t379,A180,H⟩ := H
   replace H : (if t379 ≥ 0 then (if 0 ≤ t379 then (if t379 ≤ (x1_3.size : Int) then (if 0 ≤ (wrap64 (t379 + 1)) then (if (wrap64 (t379 + 1)) ≤ (x1_3.size : Int) then ((spec_CleanPath.f kj3 (x1_3.extract 0 (t379 : Int).toNat)).bind fun bt380 => (some (a0_0,a0_1,bt380.1,x1_3.extract 0 (t379 : Int).toNat,x1_3.extract ((wrap64 (t379 + 1)) : Int).toNat x1_3.size,x377005_3,a0_6,a0_7,bt380.2))) else (none)) else (none)) else (none)) else (none)) else ((spec_CleanPath.f kj3 x1_3).bind fun bt382 => (some (a0_0,a0_1,bt382.1,x1_3,⟨#[]⟩,x377005_3,a0_6,a0_7,bt382.2)))) = some (r1,r2,r3,r4,r5,r6,r7,r8,r9) := H
   have A18 := Aside0.mk A180
   clear A180
   by_cases c19 : t379 ≥ 0
   ·
    rw [if_pos c19] at H
    have c19b0 : decide (0 ≤ t379) = true := decide_eq_true c19
    clear c19
    by_cases c20 : 0 ≤ t379
    ·
     rw [if_pos c20] at H
     have c20b0 := eq_true c20
     have c20b1 : decide (0 ≤ t379) = true := decide_eq_true c20
     clear c20
     by_cases c21 : t379 ≤ (x1_3.size : Int)
     ·
      rw [if_pos c21] at H
      have c21b0 := eq_true c21
      have c21b1 : decide (t379 ≤ (x1_3.size : Int)) = true := decide_eq_true c21
      clear c21
      obtain ⟨ji22,hji22⟩ : ∃ j_ : Int,(wrap64 (t379 + 1)) = j_ := ⟨_,rfl⟩
      replace H : (if 0 ≤ (ji22) then (if (ji22) ≤ (x1_3.size : Int) then ((spec_CleanPath.f kj3 (x1_3.extract 0 (t379 : Int).toNat)).bind fun bt380 => (some (a0_0,a0_1,bt380.1,x1_3.extract 0 (t379 : Int).toNat,x1_3.extract ((ji22) : Int).toNat x1_3.size,x377005_3,a0_6,a0_7,bt380.2))) else (none)) else (none)) = some (r1,r2,r3,r4,r5,r6,r7,r8,r9) := by first|(rw [hji22] at H;exact H)|(simp only [hji22] at H ⊢;exact H)
      (try rw [hji22] at A18)
      have hji22w : (IntKind.i64.wrap (t379 + 1)) = ji22 := (i64_w _).trans hji22
      by_cases c23 : 0 ≤ (ji22)
      ·
       rw [if_pos c23] at H
       have c23b0 := eq_true c23
       have c23b1 : decide (0 ≤ (ji22)) = true := decide_eq_true c23
       clear c23
       by_cases c24 : (ji22) ≤ (x1_3.size : Int)
       ·
        rw [if_pos c24] at H
        have c24b0 := eq_true c24
        have c24b1 : decide ((ji22) ≤ (x1_3.size : Int)) = true := decide_eq_true c24
        clear c24
        replace H := Option.bind_eq_some_iff.mp H
        obtain ⟨⟨t380,t381⟩,A250,H⟩ := H
        replace H : (some (a0_0,a0_1,t380,x1_3.extract 0 (t379 : Int).toNat,x1_3.extract ((ji22) : Int).toNat x1_3.size,x377005_3,a0_6,a0_7,t381)) = some (r1,r2,r3,r4,r5,r6,r7,r8,r9) := H
        have A25 := Aside0.mk A250
        clear A250
        simp only [Option.some.injEq,Prod.mk.injEq] at H
        obtain ⟨rfl,rfl,rfl,rfl,rfl,rfl,rfl,rfl,rfl⟩ := H
        try go_wp2_with (first|((with_reducible refine gate_callee (f := 40) rfl ?_);refine goesL_ (some 25) rfl rfl Try.func40 (by kernel_rfl) rfl #[.string x1_3,.int .u8 63] rfl (by (try simp only [List.map_toArray,List.map_cons,List.map_nil]);first|done|rfl|(simp only [List.length_drop,List.length_take];rfl)) ?_;(with_reducible refine (spec_indexOf.calls kj3 x1_3 63 t379 _ A18.out).mono ?_);rintro e w' ⟨rfl,⟨nd,rfl⟩⟩;refine ⟨_,rfl,?_⟩;(try (rw [drewN_self wc];generalize hq_ : World.drewN wc _ = wc;have n0_ : Aside0 (wc.heap[gb376]? = some (.cells #[.string a0_0,.string a0_1,.string a0_2,.string a0_3,.string ⟨#[]⟩,.string x377005_3,.string a0_6,.string a0_7] 37 (0,0))) := ⟨by rw [← hq_];exact (bk_ BK376.out)⟩;have n1_ : Aside0 (wc.heap[gb377]? = some (.cells #[.string ⟨#[]⟩,.string ⟨#[]⟩,.string ⟨#[]⟩,.string ⟨#[]⟩,.string ⟨#[]⟩,.string ⟨#[]⟩,.string ⟨#[]⟩,.string ⟨#[]⟩] 37 (0,0))) := ⟨by rw [← hq_];exact (bk_ BK377.out)⟩;have n2_ : Aside0 (Below w.heap.size w wc) := ⟨by rw [← hq_];exact (bl2_ HB.out GE376.out GE377.out)⟩;clear BK376 BK377 HB hq_;have BK376 := n0_;have BK377 := n1_;have HB := n2_;clear n0_ n1_ n2_))))
        have n0_ := Aside0.mk (blk_drew BK376.out)
        have n1_ := Aside0.mk (blk_drew BK377.out)
        have n2_ := Aside0.mk (below_drew1 HB.out)
        clear BK376
        clear BK377
        clear HB
        have BK376 := n0_
        have BK377 := n1_
        have HB := n2_
        clear n0_ n1_ n2_
        refine start_ (n := 10) (S := fun w' => True) (ds := []) #[false,false,false,false,false,false,false,false,false,false] (by kernel_rfl) rfl rfl trivial (fun hHeld => ?_);refine with_tabW spec_Uri_request.tab7 spec_Uri_request.bits7 (fun HT_ HW_ => ?_)
        generalize wc.drew = w26 at BK376 BK377 HB hHeld ⊢
        refine pure_ (i := 0) (N := some 28) (v := ?_) (a' := ?_) #[true,false,false,false,false,false,false,false,false,false] rfl rfl (any_of HT_.out (by kernel_rfl)) (fun _ _ _ h => h) (Or.inl ⟨by rfl,?_⟩) ?_ ?_
        rotate_left
        ·
         intro w'
         go_simp
         with_reducible rfl
        rotate_left
        ·
         simp only [Act.put,List.setIfInBounds_toArray,List.set_cons_zero,List.set_cons_succ,i64_w,i32_w]
         rfl
        refine pure_ (i := 1) (N := some 29) (v := ?_) (a' := ?_) #[true,true,false,false,false,false,false,false,false,false] rfl rfl (any_of HT_.out (by kernel_rfl)) (fun _ _ _ h => h) (Or.inl ⟨by rfl,?_⟩) ?_ ?_
        rotate_left
        ·
         intro w'
         go_simp
         with_reducible rfl
        rotate_left
        ·
         simp only [Act.put,List.setIfInBounds_toArray,List.set_cons_zero,List.set_cons_succ,i64_w,i32_w]
         rfl
        refine pure_ (i := 2) (N := some 30) (v := ?_) (a' := ?_) #[true,true,true,false,false,false,false,false,false,false] rfl rfl (any_of HT_.out (by kernel_rfl)) (fun _ _ _ h => h) (Or.inl ⟨by rfl,?_⟩) ?_ ?_
        rotate_left
        ·
         intro w'
         go_simp
         with_reducible rfl
        rotate_left
        ·
         simp only [Act.put,List.setIfInBounds_toArray,List.set_cons_zero,List.set_cons_succ,i64_w,i32_w]
         rfl
        refine pure_ (i := 3) (N := some 31) (v := ?_) (a' := ?_) #[true,true,true,true,false,false,false,false,false,false] rfl rfl (any_of HT_.out (by kernel_rfl)) (fun _ _ _ h => h) (Or.inl ⟨by rfl,?_⟩) ?_ ?_
        rotate_left
        ·
         intro w'
         go_simp
         with_reducible rfl
        rotate_left
        ·
         simp only [Act.put,List.setIfInBounds_toArray,List.set_cons_zero,List.set_cons_succ,i64_w,i32_w]
         rfl
        refine pure_ (i := 4) (N := some 32) (v := ?_) (a' := ?_) #[true,true,true,true,true,false,false,false,false,false] rfl rfl (any_of HT_.out (by kernel_rfl)) (fun _ _ _ h => h) (Or.inl ⟨by rfl,?_⟩) ?_ ?_
        rotate_left
        ·
         intro w'
         go_simp
         with_reducible rfl
        rotate_left
        ·
         simp only [Act.put,List.setIfInBounds_toArray,List.set_cons_zero,List.set_cons_succ,i64_w,i32_w]
         rfl
        refine pure_ (i := 5) (N := some 33) (v := ?_) (a' := ?_) #[true,true,true,true,true,true,false,false,false,false] rfl rfl (any_of HT_.out (by kernel_rfl)) (fun _ _ _ h => h) (Or.inl ⟨by rfl,?_⟩) ?_ ?_
        rotate_left
        ·
         intro w'
         go_simp
         with_reducible rfl
        rotate_left
        ·
         simp only [Act.put,List.setIfInBounds_toArray,List.set_cons_zero,List.set_cons_succ,i64_w,i32_w]
         rfl
        refine pure_ (i := 6) (N := some 34) (v := ?_) (a' := ?_) #[true,true,true,true,true,true,true,false,false,false] rfl rfl (any_of HT_.out (by kernel_rfl)) (fun _ _ _ h => h) (Or.inl ⟨by rfl,?_⟩) ?_ ?_
        rotate_left
        ·
         intro w'
         go_simp
         with_reducible rfl
        rotate_left
        ·
         simp only [Act.put,List.setIfInBounds_toArray,List.set_cons_zero,List.set_cons_succ,i64_w,i32_w]
         rfl
        refine pure_ (i := 7) (N := some 1) (v := ?_) (a' := ?_) #[true,true,true,true,true,true,true,true,false,false] rfl rfl (any_of HT_.out (by kernel_rfl)) (fun _ _ _ h => h) (Or.inl ⟨by rfl,?_⟩) ?_ ?_
        rotate_left
        ·
         intro w'
         go_simp
         with_reducible rfl
        rotate_left
        ·
         simp only [Act.put,List.setIfInBounds_toArray,List.set_cons_zero,List.set_cons_succ,i64_w,i32_w]
         rfl
        refine pure_ (i := 8) (N := some 35) (v := ?_) (a' := ?_) #[true,true,true,true,true,true,true,true,true,false] rfl rfl (any_of HT_.out (by kernel_rfl)) (fun _ _ _ h => h) (Or.inl ⟨by rfl,?_⟩) ?_ ?_
        rotate_left
        ·
         intro w'
         go_simp
         with_reducible rfl
        rotate_left
        ·
         simp only [Act.put,List.setIfInBounds_toArray,List.set_cons_zero,List.set_cons_succ,i64_w,i32_w]
         rfl
        refine one_ (i := 9) (N := none) #[true,true,true,true,true,true,true,true,true,true] rfl rfl (one_of HT_.out (by kernel_rfl)) (by decide) (fun K hK => ?_)
        have hs27 : w26.cell? ⟨gb376,4,none⟩ = some (.string ⟨#[]⟩) := (blk_cell BK376.out 4).trans rfl
        have hfs27 := blk_frozen BK376.out 4
        have hns27_1 := NB377_376.out
        have hms27_1 := NB376_377.out
        refine skip_ (w1 := ?_) (by rfl) rfl ?_ ?_
        rotate_left
        ·
         go_simp
         rfl
        refine hK.out _ _ trivial (fun hHeld => ?_)
        clear hK K
        refine done_ (done_of HT_.out (by kernel_rfl)) ?_
        try go_wp2_with (first|((with_reducible refine gate_callee (f := 72) rfl ?_);refine goesL_ (some 38) rfl rfl Try.func72 (by kernel_rfl) rfl #[.string (x1_3.extract 0 (t379 : Int).toNat)] rfl (by (try simp only [List.map_toArray,List.map_cons,List.map_nil]);first|done|rfl|(simp only [List.length_drop,List.length_take];rfl)) ?_;(with_reducible refine (spec_CleanPath.calls kj3 (x1_3.extract 0 (t379 : Int).toNat) t380 t381 _ A25.out).mono ?_);rintro e w28 ⟨rfl,hb⟩;refine ⟨_,rfl,?_⟩;have n0_ := Aside0.mk (blk_below (g := gb376) (o := .cells #[.string a0_0,.string a0_1,.string a0_2,.string a0_3,.string (x1_3.extract ((ji22) : Int).toNat x1_3.size),.string x377005_3,.string a0_6,.string a0_7] 37 (0,0)) (by (with_reducible repeat (first|apply q1|apply q2|apply q3));refine blk_put (cs := #[.string a0_0,.string a0_1,.string a0_2,.string a0_3,.string ⟨#[]⟩,.string x377005_3,.string a0_6,.string a0_7]) ?_ 4 _ rfl;(with_reducible repeat (first|apply q1|apply q2|apply q3));exact BK376.out) hb);have n1_ := Aside0.mk (blk_below (g := gb377) (o := .cells #[.string ⟨#[]⟩,.string ⟨#[]⟩,.string ⟨#[]⟩,.string ⟨#[]⟩,.string ⟨#[]⟩,.string ⟨#[]⟩,.string ⟨#[]⟩,.string ⟨#[]⟩] 37 (0,0)) (by (with_reducible repeat (first|apply q1|apply q2|apply q3));refine blk_far ?_ NB377_376.out _;(with_reducible repeat (first|apply q1|apply q2|apply q3));exact BK377.out) hb);have n2_ := Aside0.mk (below_step (bl2_ HB.out GE376.out GE377.out) hb);clear BK376;clear BK377;clear HB;have BK376 := n0_;have BK377 := n1_;have HB := n2_;clear n0_ n1_ n2_;(try clear hb);(try clear hb2);(try clear hk);(try clear hi);have hnb29 := NB376_377.out;have hnc29 := NB377_376.out;have hcz30_0 : w28.cell? ⟨gb376,0,none⟩ = some (.string a0_0) := (blk_cell BK376.out 0).trans rfl;have hcz30_1 : w28.cell? ⟨gb376,1,none⟩ = some (.string a0_1) := (blk_cell BK376.out 1).trans rfl;have hcz30_2 : w28.cell? ⟨gb376,2,none⟩ = some (.string a0_2) := (blk_cell BK376.out 2).trans rfl;have hcz30_3 : w28.cell? ⟨gb376,3,none⟩ = some (.string a0_3) := (blk_cell BK376.out 3).trans rfl;have hcz30_4 : w28.cell? ⟨gb376,4,none⟩ = some (.string (x1_3.extract ((ji22) : Int).toNat x1_3.size)) := (blk_cell BK376.out 4).trans rfl;have hcz30_5 : w28.cell? ⟨gb376,5,none⟩ = some (.string x377005_3) := (blk_cell BK376.out 5).trans rfl;have hcz30_6 : w28.cell? ⟨gb376,6,none⟩ = some (.string a0_6) := (blk_cell BK376.out 6).trans rfl;have hcz30_7 : w28.cell? ⟨gb376,7,none⟩ = some (.string a0_7) := (blk_cell BK376.out 7).trans rfl;have hfz30_0 := blk_frozen BK376.out 0;have hfz30_1 := blk_frozen BK376.out 1;have hfz30_2 := blk_frozen BK376.out 2;have hfz30_3 := blk_frozen BK376.out 3;have hfz30_4 := blk_frozen BK376.out 4;have hfz30_5 := blk_frozen BK376.out 5;have hfz30_6 := blk_frozen BK376.out 6;have hfz30_7 := blk_frozen BK376.out 7;have hcz31_0 : w28.cell? ⟨gb377,0,none⟩ = some (.string ⟨#[]⟩) := (blk_cell BK377.out 0).trans rfl;have hcz31_1 : w28.cell? ⟨gb377,1,none⟩ = some (.string ⟨#[]⟩) := (blk_cell BK377.out 1).trans rfl;have hcz31_2 : w28.cell? ⟨gb377,2,none⟩ = some (.string ⟨#[]⟩) := (blk_cell BK377.out 2).trans rfl;have hcz31_3 : w28.cell? ⟨gb377,3,none⟩ = some (.string ⟨#[]⟩) := (blk_cell BK377.out 3).trans rfl;have hcz31_4 : w28.cell? ⟨gb377,4,none⟩ = some (.string ⟨#[]⟩) := (blk_cell BK377.out 4).trans rfl;have hcz31_5 : w28.cell? ⟨gb377,5,none⟩ = some (.string ⟨#[]⟩) := (blk_cell BK377.out 5).trans rfl;have hcz31_6 : w28.cell? ⟨gb377,6,none⟩ = some (.string ⟨#[]⟩) := (blk_cell BK377.out 6).trans rfl;have hcz31_7 : w28.cell? ⟨gb377,7,none⟩ = some (.string ⟨#[]⟩) := (blk_cell BK377.out 7).trans rfl;have hfz31_0 := blk_frozen BK377.out 0;have hfz31_1 := blk_frozen BK377.out 1;have hfz31_2 := blk_frozen BK377.out 2;have hfz31_3 := blk_frozen BK377.out 3;have hfz31_4 := blk_frozen BK377.out 4;have hfz31_5 := blk_frozen BK377.out 5;have hfz31_6 := blk_frozen BK377.out 6;have hfz31_7 := blk_frozen BK377.out 7))
        refine bodyPost_ret (results_ct rfl _ _ gb377 37 #[.string a0_0,.string a0_1,.string t380,.string (x1_3.extract 0 (t379 : Int).toNat),.string (x1_3.extract ((ji22) : Int).toNat x1_3.size),.string x377005_3,.string a0_6,.string a0_7] (0,0) _ rfl (by (with_reducible repeat (first|apply q1|apply q2|apply q3));refine blk_put (cs := #[.string a0_0,.string a0_1,.string t380,.string (x1_3.extract 0 (t379 : Int).toNat),.string (x1_3.extract ((ji22) : Int).toNat x1_3.size),.string x377005_3,.string a0_6,.string ⟨#[]⟩]) ?_ 7 _ rfl;(with_reducible repeat (first|apply q1|apply q2|apply q3));refine blk_put (cs := #[.string a0_0,.string a0_1,.string t380,.string (x1_3.extract 0 (t379 : Int).toNat),.string (x1_3.extract ((ji22) : Int).toNat x1_3.size),.string x377005_3,.string ⟨#[]⟩,.string ⟨#[]⟩]) ?_ 6 _ rfl;(with_reducible repeat (first|apply q1|apply q2|apply q3));refine blk_put (cs := #[.string a0_0,.string a0_1,.string t380,.string (x1_3.extract 0 (t379 : Int).toNat),.string (x1_3.extract ((ji22) : Int).toNat x1_3.size),.string ⟨#[]⟩,.string ⟨#[]⟩,.string ⟨#[]⟩]) ?_ 5 _ rfl;(with_reducible repeat (first|apply q1|apply q2|apply q3));refine blk_put (cs := #[.string a0_0,.string a0_1,.string t380,.string (x1_3.extract 0 (t379 : Int).toNat),.string ⟨#[]⟩,.string ⟨#[]⟩,.string ⟨#[]⟩,.string ⟨#[]⟩]) ?_ 4 _ rfl;(with_reducible repeat (first|apply q1|apply q2|apply q3));refine blk_put (cs := #[.string a0_0,.string a0_1,.string t380,.string ⟨#[]⟩,.string ⟨#[]⟩,.string ⟨#[]⟩,.string ⟨#[]⟩,.string ⟨#[]⟩]) ?_ 3 _ rfl;(with_reducible repeat (first|apply q1|apply q2|apply q3));refine blk_put (cs := #[.string a0_0,.string a0_1,.string ⟨#[]⟩,.string ⟨#[]⟩,.string ⟨#[]⟩,.string ⟨#[]⟩,.string ⟨#[]⟩,.string ⟨#[]⟩]) ?_ 2 _ rfl;(with_reducible repeat (first|apply q1|apply q2|apply q3));refine blk_put (cs := #[.string a0_0,.string ⟨#[]⟩,.string ⟨#[]⟩,.string ⟨#[]⟩,.string ⟨#[]⟩,.string ⟨#[]⟩,.string ⟨#[]⟩,.string ⟨#[]⟩]) ?_ 1 _ rfl;(with_reducible repeat (first|apply q1|apply q2|apply q3));refine blk_put (cs := #[.string ⟨#[]⟩,.string ⟨#[]⟩,.string ⟨#[]⟩,.string ⟨#[]⟩,.string ⟨#[]⟩,.string ⟨#[]⟩,.string ⟨#[]⟩,.string ⟨#[]⟩]) ?_ 0 _ rfl;(with_reducible repeat (first|apply q1|apply q2|apply q3));refine blk_far ?_ NB377_376.out _;(with_reducible repeat (first|apply q1|apply q2|apply q3));refine blk_far ?_ NB377_376.out _;(with_reducible repeat (first|apply q1|apply q2|apply q3));exact BK377.out) Try.underlying37 rfl (by kernel_rfl)) rfl ?_
        exact ⟨by first|rfl|(simp [errW_none,errW_some] <;> rfl)|(simp only [← hji22];first|rfl|(simp [errW_none,errW_some] <;> rfl))|(simp [*,errW_none,errW_some] <;> rfl),bl2_ HB.out GE376.out GE377.out⟩
       rw [if_neg c24] at H
       exact absurd H (by simp)
      rw [if_neg c23] at H
      exact absurd H (by simp)
     rw [if_neg c21] at H
     exact absurd H (by simp)
    rw [if_neg c20] at H
    exact absurd H (by simp)
   rw [if_neg c19] at H
   have c19b0 : decide (0 ≤ t379) = false := decide_eq_false c19
   clear c19
   replace H := Option.bind_eq_some_iff.mp H
   obtain ⟨⟨t382,t383⟩,A320,H⟩ := H
   replace H : (some (a0_0,a0_1,t382,x1_3,⟨#[]⟩,x377005_3,a0_6,a0_7,t383)) = some (r1,r2,r3,r4,r5,r6,r7,r8,r9) := H
   have A32 := Aside0.mk A320
   clear A320
   simp only [Option.some.injEq,Prod.mk.injEq] at H
   obtain ⟨rfl,rfl,rfl,rfl,rfl,rfl,rfl,rfl,rfl⟩ := H
   go_wp2_with (first|((with_reducible refine gate_callee (f := 40) rfl ?_);refine goesL_ (some 25) rfl rfl Try.func40 (by kernel_rfl) rfl #[.string x1_3,.int .u8 63] rfl (by (try simp only [List.map_toArray,List.map_cons,List.map_nil]);first|done|rfl|(simp only [List.length_drop,List.length_take];rfl)) ?_;(with_reducible refine (spec_indexOf.calls kj3 x1_3 63 t379 _ A18.out).mono ?_);rintro e w' ⟨rfl,⟨nd,rfl⟩⟩;refine ⟨_,rfl,?_⟩;(try (rw [drewN_self wc];generalize hq_ : World.drewN wc _ = wc;have n0_ : Aside0 (wc.heap[gb376]? = some (.cells #[.string a0_0,.string a0_1,.string a0_2,.string a0_3,.string ⟨#[]⟩,.string x377005_3,.string a0_6,.string a0_7] 37 (0,0))) := ⟨by rw [← hq_];exact (bk_ BK376.out)⟩;have n1_ : Aside0 (wc.heap[gb377]? = some (.cells #[.string ⟨#[]⟩,.string ⟨#[]⟩,.string ⟨#[]⟩,.string ⟨#[]⟩,.string ⟨#[]⟩,.string ⟨#[]⟩,.string ⟨#[]⟩,.string ⟨#[]⟩] 37 (0,0))) := ⟨by rw [← hq_];exact (bk_ BK377.out)⟩;have n2_ : Aside0 (Below w.heap.size w wc) := ⟨by rw [← hq_];exact (bl2_ HB.out GE376.out GE377.out)⟩;clear BK376 BK377 HB hq_;have BK376 := n0_;have BK377 := n1_;have HB := n2_;clear n0_ n1_ n2_)))|((with_reducible refine gate_callee (f := 72) rfl ?_);refine goesL_ (some 38) rfl rfl Try.func72 (by kernel_rfl) rfl #[.string x1_3] rfl (by (try simp only [List.map_toArray,List.map_cons,List.map_nil]);first|done|rfl|(simp only [List.length_drop,List.length_take];rfl)) ?_;(with_reducible refine (spec_CleanPath.calls kj3 x1_3 t382 t383 _ A32.out).mono ?_);rintro e w33 ⟨rfl,hb⟩;refine ⟨_,rfl,?_⟩;have n0_ := Aside0.mk (blk_below (g := gb376) (bk_ BK376.out) hb);have n1_ := Aside0.mk (blk_below (g := gb377) (bk_ BK377.out) hb);have n2_ := Aside0.mk (below_step (bl2_ HB.out GE376.out GE377.out) hb);clear BK376;clear BK377;clear HB;have BK376 := n0_;have BK377 := n1_;have HB := n2_;clear n0_ n1_ n2_;(try clear hb);(try clear hb2);(try clear hk);(try clear hi);have hnb34 := NB376_377.out;have hnc34 := NB377_376.out;have hcz35_0 : w33.cell? ⟨gb376,0,none⟩ = some (.string a0_0) := (blk_cell BK376.out 0).trans rfl;have hcz35_1 : w33.cell? ⟨gb376,1,none⟩ = some (.string a0_1) := (blk_cell BK376.out 1).trans rfl;have hcz35_2 : w33.cell? ⟨gb376,2,none⟩ = some (.string a0_2) := (blk_cell BK376.out 2).trans rfl;have hcz35_3 : w33.cell? ⟨gb376,3,none⟩ = some (.string a0_3) := (blk_cell BK376.out 3).trans rfl;have hcz35_4 : w33.cell? ⟨gb376,4,none⟩ = some (.string ⟨#[]⟩) := (blk_cell BK376.out 4).trans rfl;have hcz35_5 : w33.cell? ⟨gb376,5,none⟩ = some (.string x377005_3) := (blk_cell BK376.out 5).trans rfl;have hcz35_6 : w33.cell? ⟨gb376,6,none⟩ = some (.string a0_6) := (blk_cell BK376.out 6).trans rfl;have hcz35_7 : w33.cell? ⟨gb376,7,none⟩ = some (.string a0_7) := (blk_cell BK376.out 7).trans rfl;have hfz35_0 := blk_frozen BK376.out 0;have hfz35_1 := blk_frozen BK376.out 1;have hfz35_2 := blk_frozen BK376.out 2;have hfz35_3 := blk_frozen BK376.out 3;have hfz35_4 := blk_frozen BK376.out 4;have hfz35_5 := blk_frozen BK376.out 5;have hfz35_6 := blk_frozen BK376.out 6;have hfz35_7 := blk_frozen BK376.out 7;have hcz36_0 : w33.cell? ⟨gb377,0,none⟩ = some (.string ⟨#[]⟩) := (blk_cell BK377.out 0).trans rfl;have hcz36_1 : w33.cell? ⟨gb377,1,none⟩ = some (.string ⟨#[]⟩) := (blk_cell BK377.out 1).trans rfl;have hcz36_2 : w33.cell? ⟨gb377,2,none⟩ = some (.string ⟨#[]⟩) := (blk_cell BK377.out 2).trans rfl;have hcz36_3 : w33.cell? ⟨gb377,3,none⟩ = some (.string ⟨#[]⟩) := (blk_cell BK377.out 3).trans rfl;have hcz36_4 : w33.cell? ⟨gb377,4,none⟩ = some (.string ⟨#[]⟩) := (blk_cell BK377.out 4).trans rfl;have hcz36_5 : w33.cell? ⟨gb377,5,none⟩ = some (.string ⟨#[]⟩) := (blk_cell BK377.out 5).trans rfl;have hcz36_6 : w33.cell? ⟨gb377,6,none⟩ = some (.string ⟨#[]⟩) := (blk_cell BK377.out 6).trans rfl;have hcz36_7 : w33.cell? ⟨gb377,7,none⟩ = some (.string ⟨#[]⟩) := (blk_cell BK377.out 7).trans rfl;have hfz36_0 := blk_frozen BK377.out 0;have hfz36_1 := blk_frozen BK377.out 1;have hfz36_2 := blk_frozen BK377.out 2;have hfz36_3 := blk_frozen BK377.out 3;have hfz36_4 := blk_frozen BK377.out 4;have hfz36_5 := blk_frozen BK377.out 5;have hfz36_6 := blk_frozen BK377.out 6;have hfz36_7 := blk_frozen BK377.out 7))
   refine bodyPost_ret (results_ct rfl _ _ gb377 37 #[.string a0_0,.string a0_1,.string t382,.string x1_3,.string ⟨#[]⟩,.string x377005_3,.string a0_6,.string a0_7] (0,0) _ rfl (by (with_reducible repeat (first|apply q1|apply q2|apply q3));refine blk_put (cs := #[.string a0_0,.string a0_1,.string t382,.string x1_3,.string ⟨#[]⟩,.string x377005_3,.string a0_6,.string ⟨#[]⟩]) ?_ 7 _ rfl;(with_reducible repeat (first|apply q1|apply q2|apply q3));refine blk_put (cs := #[.string a0_0,.string a0_1,.string t382,.string x1_3,.string ⟨#[]⟩,.string x377005_3,.string ⟨#[]⟩,.string ⟨#[]⟩]) ?_ 6 _ rfl;(with_reducible repeat (first|apply q1|apply q2|apply q3));refine blk_put (cs := #[.string a0_0,.string a0_1,.string t382,.string x1_3,.string ⟨#[]⟩,.string ⟨#[]⟩,.string ⟨#[]⟩,.string ⟨#[]⟩]) ?_ 5 _ rfl;(with_reducible repeat (first|apply q1|apply q2|apply q3));refine blk_put (cs := #[.string a0_0,.string a0_1,.string t382,.string x1_3,.string ⟨#[]⟩,.string ⟨#[]⟩,.string ⟨#[]⟩,.string ⟨#[]⟩]) ?_ 4 _ rfl;(with_reducible repeat (first|apply q1|apply q2|apply q3));refine blk_put (cs := #[.string a0_0,.string a0_1,.string t382,.string ⟨#[]⟩,.string ⟨#[]⟩,.string ⟨#[]⟩,.string ⟨#[]⟩,.string ⟨#[]⟩]) ?_ 3 _ rfl;(with_reducible repeat (first|apply q1|apply q2|apply q3));refine blk_put (cs := #[.string a0_0,.string a0_1,.string ⟨#[]⟩,.string ⟨#[]⟩,.string ⟨#[]⟩,.string ⟨#[]⟩,.string ⟨#[]⟩,.string ⟨#[]⟩]) ?_ 2 _ rfl;(with_reducible repeat (first|apply q1|apply q2|apply q3));refine blk_put (cs := #[.string a0_0,.string ⟨#[]⟩,.string ⟨#[]⟩,.string ⟨#[]⟩,.string ⟨#[]⟩,.string ⟨#[]⟩,.string ⟨#[]⟩,.string ⟨#[]⟩]) ?_ 1 _ rfl;(with_reducible repeat (first|apply q1|apply q2|apply q3));refine blk_put (cs := #[.string ⟨#[]⟩,.string ⟨#[]⟩,.string ⟨#[]⟩,.string ⟨#[]⟩,.string ⟨#[]⟩,.string ⟨#[]⟩,.string ⟨#[]⟩,.string ⟨#[]⟩]) ?_ 0 _ rfl;(with_reducible repeat (first|apply q1|apply q2|apply q3));refine blk_far ?_ NB377_376.out _;(with_reducible repeat (first|apply q1|apply q2|apply q3));refine blk_far ?_ NB377_376.out _;(with_reducible repeat (first|apply q1|apply q2|apply q3));exact BK377.out) Try.underlying37 rfl (by kernel_rfl)) rfl ?_
   exact ⟨by first|rfl|(simp [errW_none,errW_some] <;> rfl)|(simp [*,errW_none,errW_some] <;> rfl),bl2_ HB.out GE376.out GE377.out⟩
end Go.Proofs.Ytbkeakeldegkeaa.Q
end
section
namespace Go.Proofs.Ytbkeakeldegkeaa.Q
open Go.RowKit Go.Proofs.YtbkeakeldegkeaaW.PrintWords Go.Proofs.YtbkeakeldegkeaaW.PrintLast Go.Proofs.YtbkeakeldegkeaaW.PrintMore
attribute [local go_sem] max2_int min2_int max_two min_two max_three min_three max_four min_four
def spec_until.l0 : Nat → ByteArray → Int → Option (Int)
 | 0,_,_ => none
 | k + 1,x0,x3 => if x3 < (x0.size : Int) then (if 0 ≤ x3 then (if (bt x0 x3) = 47 then (some x3) else (if (bt x0 x3) = 63 then (some x3) else (if (bt x0 x3) = 35 then (some x3) else (spec_until.l0 k x0 (wrap64 (x3 + 1)))))) else (none)) else (some x3)
def spec_until.f (k : Nat) (a0 : ByteArray) : Option (Int) := spec_until.l0 k a0 0
set_option maxHeartbeats 8000000 in
set_option maxRecDepth 100000 in
theorem spec_until.calls (k : Nat) (a0 : ByteArray) (r : Int) (w : World) (h : spec_until.f k a0 = some r) :
  Calls Try.prog 43 #[.string a0] w fun e w' => e = .returned (.int .i64 r) ∧ Drawn0 w w' := by
 have H : (spec_until.l0 k a0 0) = some r := h
 clear h
 have H' := Aside0.mk H
 clear H
 go_enter Try.func43,Try.ntmps43
 go_wp2
 go_loopg [3] k (fun kq v3 w' => ∃ (x3_1 : Int),v3 = .int .i64 x3_1 ∧ Aside0 (spec_until.l0 kq a0 x3_1 = some r) ∧ Aside0 (kq ≤ k) ∧ Drawn0 w w')
 case atStart => exact ⟨(0),(rs_),H',⟨Nat.le_refl _⟩,by repeat (first|exact Drawn0.refl _|apply Drawn0.step)⟩
 case round =>
  clear H'
  obtain ⟨x3_1,rfl,HA,HK1,⟨m1,rfl⟩⟩ := hrel
  cases gk with
  | zero => exact absurd HA.out (by simp [spec_until.l0])
  | succ k1 =>
   have H := HA.out
   clear HA
   simp only [spec_until.l0] at H
   by_cases c2 : x3_1 < (a0.size : Int)
   ·
    rw [if_pos c2] at H
    have c2b0 : decide (x3_1 < (a0.size : Int)) = true := decide_eq_true c2
    clear c2
    by_cases c3 : 0 ≤ x3_1
    ·
     rw [if_pos c3] at H
     have c3b0 : decide (0 ≤ x3_1) = true := decide_eq_true c3
     clear c3
     by_cases c5 : (bt a0 x3_1) = 47
     ·
      rw [if_pos c5] at H
      have c5b0 : ((bt a0 x3_1) == 47) = true := beq_iff_eq.mpr c5
      have c5b1 : ((bt a0 x3_1) != 47) = false := bne_eq_false_iff_eq.mpr c5
      clear c5
      obtain rfl := Option.some.inj H
      have p4 : 0 ≤ (x3_1 : Int) := odt_
      have q4 : x3_1 < (a0.size : Int) := odt_
      have hx4 := bt_at a0 x3_1
      replace p4 := eq_true p4
      replace q4 := eq_true q4
      go_wp2
      go_ret
      exact ⟨rs_,by repeat (first|exact Drawn0.refl _|apply Drawn0.step)⟩
     rw [if_neg c5] at H
     have c5b0 : ((bt a0 x3_1) == 47) = false := beq_eq_false_iff_ne.mpr c5
     have c5b1 : ((bt a0 x3_1) != 47) = true := bne_iff_ne.mpr c5
     by_cases c7 : (bt a0 x3_1) = 63
     ·
      rw [if_pos c7] at H
      have c7b0 : ((bt a0 x3_1) == 63) = true := beq_iff_eq.mpr c7
      have c7b1 : ((bt a0 x3_1) != 63) = false := bne_eq_false_iff_eq.mpr c7
      clear c7
      obtain rfl := Option.some.inj H
      have p4 : 0 ≤ (x3_1 : Int) := odt_
      have q4 : x3_1 < (a0.size : Int) := odt_
      have hx4 := bt_at a0 x3_1
      replace p4 := eq_true p4
      replace q4 := eq_true q4
      have p6 : 0 ≤ (x3_1 : Int) := odt_
      have q6 : x3_1 < (a0.size : Int) := odt_
      have hx6 := bt_at a0 x3_1
      replace p6 := eq_true p6
      replace q6 := eq_true q6
      go_wp2
      go_ret
      exact ⟨rs_,by repeat (first|exact Drawn0.refl _|apply Drawn0.step)⟩
     rw [if_neg c7] at H
     have c7b0 : ((bt a0 x3_1) == 63) = false := beq_eq_false_iff_ne.mpr c7
     have c7b1 : ((bt a0 x3_1) != 63) = true := bne_iff_ne.mpr c7
     by_cases c9 : (bt a0 x3_1) = 35
     ·
      rw [if_pos c9] at H
      have c9b0 : ((bt a0 x3_1) == 35) = true := beq_iff_eq.mpr c9
      have c9b1 : ((bt a0 x3_1) != 35) = false := bne_eq_false_iff_eq.mpr c9
      clear c9
      obtain rfl := Option.some.inj H
      have p4 : 0 ≤ (x3_1 : Int) := odt_
      have q4 : x3_1 < (a0.size : Int) := odt_
      have hx4 := bt_at a0 x3_1
      replace p4 := eq_true p4
      replace q4 := eq_true q4
      have p6 : 0 ≤ (x3_1 : Int) := odt_
      have q6 : x3_1 < (a0.size : Int) := odt_
      have hx6 := bt_at a0 x3_1
      replace p6 := eq_true p6
      replace q6 := eq_true q6
      have p8 : 0 ≤ (x3_1 : Int) := odt_
      have q8 : x3_1 < (a0.size : Int) := odt_
      have hx8 := bt_at a0 x3_1
      replace p8 := eq_true p8
      replace q8 := eq_true q8
      go_wp2
      go_ret
      exact ⟨rs_,by repeat (first|exact Drawn0.refl _|apply Drawn0.step)⟩
     rw [if_neg c9] at H
     have c9b0 : ((bt a0 x3_1) == 35) = false := beq_eq_false_iff_ne.mpr c9
     have c9b1 : ((bt a0 x3_1) != 35) = true := bne_iff_ne.mpr c9
     have H' := Aside0.mk H
     clear H
     have p4 : 0 ≤ (x3_1 : Int) := odt_
     have q4 : x3_1 < (a0.size : Int) := odt_
     have hx4 := bt_at a0 x3_1
     replace p4 := eq_true p4
     replace q4 := eq_true q4
     have p6 : 0 ≤ (x3_1 : Int) := odt_
     have q6 : x3_1 < (a0.size : Int) := odt_
     have hx6 := bt_at a0 x3_1
     replace p6 := eq_true p6
     replace q6 := eq_true q6
     have p8 : 0 ≤ (x3_1 : Int) := odt_
     have q8 : x3_1 < (a0.size : Int) := odt_
     have hx8 := bt_at a0 x3_1
     replace p8 := eq_true p8
     replace q8 := eq_true q8
     go_wp2
     go_roundg k1
     case measure => have := HK1.out;omega
     case rel => exact ⟨(wrap64 (x3_1 + 1)),(rs_),H',⟨by have := HK1.out;omega⟩,by repeat (first|exact Drawn0.refl _|apply Drawn0.step)⟩
    rw [if_neg c3] at H
    exact absurd H (by simp)
   rw [if_neg c2] at H
   have c2b0 : decide (x3_1 < (a0.size : Int)) = false := decide_eq_false c2
   clear c2
   obtain rfl := Option.some.inj H
   go_wp2
   go_ret
   exact ⟨rs_,by repeat (first|exact Drawn0.refl _|apply Drawn0.step)⟩
end Go.Proofs.Ytbkeakeldegkeaa.Q
end
