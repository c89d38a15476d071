/- FnUriSays: the law's function, called with any arguments, returns true and leaves its arguments as they were: every input, no condition. Part 10 of 16. -/
import Derived.Test.YtbkeakeldegkeaaZFnUriSays1
import Derived.Test.YtbkeakeldegkeaaZFnUriSays8
set_option linter.unusedVariables false
set_option linter.unusedSimpArgs false
section
namespace Go.Proofs.Ytbkeakeldegkeaa.Q
open Go.RowKit Go.Proofs.YtbkeakeldegkeaaW.PrintWords Go.Proofs.YtbkeakeldegkeaaW.PrintLast Go.Proofs.YtbkeakeldegkeaaW.PrintMore
attribute [local go_sem] max2_int min2_int max_two min_two max_three min_three max_four min_four
def spec_Uri_authority.j0 : Nat → ByteArray → ByteArray → ByteArray → ByteArray → ByteArray → ByteArray → ByteArray → ByteArray → ByteArray → Option (ByteArray × ByteArray × ByteArray × ByteArray × ByteArray × ByteArray × ByteArray × ByteArray × Int)
 | 0,_,_,_,_,_,_,_,_,_ => none
 | k + 1,x1,x323000,x323001,x323002,x323003,x323004,x323005,x323006,x323007 => if x1.toList = ([] : List UInt8) then (some (x323000,x323001,x323002,x323003,x323004,x323005,x323006,x323007,2)) else ((spec_indexOf.f k x1 64).bind fun t326 => (if t326 ≥ 0 then (some (x323000,x323001,x323002,x323003,x323004,x323005,x323006,x323007,2)) else (if x323006.size + x323007.size ≤ 9223372036854775807 then (if x323006.size + x323007.size + x1.size ≤ 9223372036854775807 then ((spec_indexOf.f k ((x323006 ++ x323007) ++ x1) 37).bind fun t327 => (if t327 ≥ 0 then (some (x323000,x323001,x323002,x323003,x323004,x323005,x323006,x323007,2)) else ((spec_indexOf.f k x1 91).bind fun t328 => (if t328 ≥ 0 then (some (x323000,x323001,x323002,x323003,x323004,x323005,x323006,x323007,2)) else ((spec_indexOf.f k x1 93).bind fun t329 => (if t329 ≥ 0 then (some (x323000,x323001,x323002,x323003,x323004,x323005,x323006,x323007,2)) else ((spec_Lower.f x1).bind fun t330 => (some (x323000,t330,x323002,x323003,x323004,x323005,x323006,x323007,1))))))))) else (none)) else (none))))
def spec_Uri_authority.f (k : Nat) (a0_0 : ByteArray) (a0_1 : ByteArray) (a0_2 : ByteArray) (a0_3 : ByteArray) (a0_4 : ByteArray) (a0_5 : ByteArray) (a0_6 : ByteArray) (a0_7 : ByteArray) (a1 : ByteArray) : Option (ByteArray × ByteArray × ByteArray × ByteArray × ByteArray × ByteArray × ByteArray × ByteArray × Int) := (spec_indexOf.f k a1 64).bind fun t324 => (if t324 ≥ 0 then (if 0 ≤ t324 then (if t324 ≤ (a1.size : Int) then ((spec_indexOf.f k (a1.extract 0 (t324 : Int).toNat) 58).bind fun t325 => (if t325 < 1 then (some (a0_0,a0_1,a0_2,a0_3,a0_4,a0_5,⟨#[]⟩,⟨#[]⟩,2)) else (if t325 = (wrap64 (t324 - 1)) then (some (a0_0,a0_1,a0_2,a0_3,a0_4,a0_5,⟨#[]⟩,⟨#[]⟩,2)) else (if 0 ≤ t325 then (if t325 ≤ (a1.size : Int) then (if 0 ≤ (wrap64 (t325 + 1)) then (if (wrap64 (t325 + 1)) ≤ t324 then (if 0 ≤ (wrap64 (t324 + 1)) then (if (wrap64 (t324 + 1)) ≤ (a1.size : Int) then (spec_Uri_authority.j0 k (a1.extract ((wrap64 (t324 + 1)) : Int).toNat a1.size) a0_0 a0_1 a0_2 a0_3 a0_4 a0_5 (a1.extract 0 (t325 : Int).toNat) (a1.extract ((wrap64 (t325 + 1)) : Int).toNat (t324 : Int).toNat)) else (none)) else (none)) else (none)) else (none)) else (none)) else (none))))) else (none)) else (none)) else (spec_Uri_authority.j0 k a1 a0_0 a0_1 a0_2 a0_3 a0_4 a0_5 ⟨#[]⟩ ⟨#[]⟩))
def spec_Uri_authority.T7 : Bool × List (List Nat × List Nat) := (true,[([],[]),([],[]),([0,1],[0,1]),([],[]),([],[]),([4],[4]),([],[]),([3,5,6],[3,5,6]),([0,1,2],[]),([8,2,0,1,2],[2,8]),([0,1,2,3,4,5,6,7,8,9],[]),([10,7,9,0,1,2,3,4,5,6,7,8,9],[7,10])])
def spec_Uri_authority.B7 : List Nat := [0,0,3,0,0,16,0,120,7,263,1023,2047]
theorem spec_Uri_authority.tab7 : rtab .any (opsOf Try.f38 7) = spec_Uri_authority.T7 := by kernel_rfl
theorem spec_Uri_authority.bits7 : waitsOk spec_Uri_authority.T7.2 spec_Uri_authority.B7 = true := by kernel_rfl
set_option maxHeartbeats 8000000 in
set_option maxRecDepth 100000 in
theorem spec_Uri_authority.calls (k : Nat) (a0_0 : ByteArray) (a0_1 : ByteArray) (a0_2 : ByteArray) (a0_3 : ByteArray) (a0_4 : ByteArray) (a0_5 : ByteArray) (a0_6 : ByteArray) (a0_7 : ByteArray) (a1 : ByteArray) (r1 : ByteArray) (r2 : ByteArray) (r3 : ByteArray) (r4 : ByteArray) (r5 : ByteArray) (r6 : ByteArray) (r7 : ByteArray) (r8 : ByteArray) (r9 : Int) (w : World) (h : spec_Uri_authority.f k a0_0 a0_1 a0_2 a0_3 a0_4 a0_5 a0_6 a0_7 a1 = some (r1,r2,r3,r4,r5,r6,r7,r8,r9)) :
  Calls Try.prog 38 #[.agg #[.string a0_0,.string a0_1,.string a0_2,.string a0_3,.string a0_4,.string a0_5,.string a0_6,.string a0_7],.string a1] w fun e w' => e = .returned (.tuple #[.agg #[.string r1,.string r2,.string r3,.string r4,.string r5,.string r6,.string r7,.string r8],.int .i64 r9]) ∧ Below w.heap.size w w' := by
 have hu37 := Try.underlying37
 have HB := Aside0.mk (Below.refl w.heap.size w)
 have H : ((spec_indexOf.f k a1 64).bind fun t324 => (if t324 ≥ 0 then (if 0 ≤ t324 then (if t324 ≤ (a1.size : Int) then ((spec_indexOf.f k (a1.extract 0 (t324 : Int).toNat) 58).bind fun t325 => (if t325 < 1 then (some (a0_0,a0_1,a0_2,a0_3,a0_4,a0_5,⟨#[]⟩,⟨#[]⟩,2)) else (if t325 = (wrap64 (t324 - 1)) then (some (a0_0,a0_1,a0_2,a0_3,a0_4,a0_5,⟨#[]⟩,⟨#[]⟩,2)) else (if 0 ≤ t325 then (if t325 ≤ (a1.size : Int) then (if 0 ≤ (wrap64 (t325 + 1)) then (if (wrap64 (t325 + 1)) ≤ t324 then (if 0 ≤ (wrap64 (t324 + 1)) then (if (wrap64 (t324 + 1)) ≤ (a1.size : Int) then (spec_Uri_authority.j0 k (a1.extract ((wrap64 (t324 + 1)) : Int).toNat a1.size) a0_0 a0_1 a0_2 a0_3 a0_4 a0_5 (a1.extract 0 (t325 : Int).toNat) (a1.extract ((wrap64 (t325 + 1)) : Int).toNat (t324 : Int).toNat)) else (none)) else (none)) else (none)) else (none)) else (none)) else (none))))) else (none)) else (none)) else (spec_Uri_authority.j0 k a1 a0_0 a0_1 a0_2 a0_3 a0_4 a0_5 ⟨#[]⟩ ⟨#[]⟩))) = some (r1,r2,r3,r4,r5,r6,r7,r8,r9) := h
 clear h
 replace H := Option.bind_eq_some_iff.mp H
 obtain ⟨t324,A30,H⟩ := H
 replace H : (if t324 ≥ 0 then (if 0 ≤ t324 then (if t324 ≤ (a1.size : Int) then ((spec_indexOf.f k (a1.extract 0 (t324 : Int).toNat) 58).bind fun t325 => (if t325 < 1 then (some (a0_0,a0_1,a0_2,a0_3,a0_4,a0_5,⟨#[]⟩,⟨#[]⟩,2)) else (if t325 = (wrap64 (t324 - 1)) then (some (a0_0,a0_1,a0_2,a0_3,a0_4,a0_5,⟨#[]⟩,⟨#[]⟩,2)) else (if 0 ≤ t325 then (if t325 ≤ (a1.size : Int) then (if 0 ≤ (wrap64 (t325 + 1)) then (if (wrap64 (t325 + 1)) ≤ t324 then (if 0 ≤ (wrap64 (t324 + 1)) then (if (wrap64 (t324 + 1)) ≤ (a1.size : Int) then (spec_Uri_authority.j0 k (a1.extract ((wrap64 (t324 + 1)) : Int).toNat a1.size) a0_0 a0_1 a0_2 a0_3 a0_4 a0_5 (a1.extract 0 (t325 : Int).toNat) (a1.extract ((wrap64 (t325 + 1)) : Int).toNat (t324 : Int).toNat)) else (none)) else (none)) else (none)) else (none)) else (none)) else (none))))) else (none)) else (none)) else (spec_Uri_authority.j0 k a1 a0_0 a0_1 a0_2 a0_3 a0_4 a0_5 ⟨#[]⟩ ⟨#[]⟩)) = some (r1,r2,r3,r4,r5,r6,r7,r8,r9) := H
 have A3 := Aside0.mk A30
 clear A30
 have HC4 := Aside0.mk H
 clear H
 go_enter Try.func38,Try.ntmps38
 go_upto_if 13 with (first|((with_reducible refine gate_dst (N := 2) rfl ?_);refine box_event ?hg (N := 2) ?hd (cs := #[.string a0_0,.string a0_1,.string a0_2,.string a0_3,.string a0_4,.string a0_5,.string a0_6,.string a0_7]) (t := 37) ?hr ?_;(case hd => rfl);(case hg => rfl);(case hr => first|(go_simp;done)|(go_simp;rfl));intro gb322 hg w5 hbox hb;have n0_ := Aside0.mk (below_step (bl_ HB.out) hb);have n1_ := Aside0.mk (hbox);have n2_ := Aside0.mk ((by rw [hg];exact (below_size (bl_ HB.out)) : w.heap.size ≤ gb322));have n3_ := Aside0.mk ((by rw [hg];exact (below_size (bl_ HB.out)) : w.heap.size ≤ gb322));clear HB;have HB := n0_;have BK322 := n1_;have GW322 := n2_;have GE322 := n3_;clear n0_ n1_ n2_ n3_;clear hb hbox hg)|((with_reducible refine gate_dst (N := 4) rfl ?_);refine box_event ?hg (N := 4) ?hd (cs := #[.string ⟨#[]⟩,.string ⟨#[]⟩,.string ⟨#[]⟩,.string ⟨#[]⟩,.string ⟨#[]⟩,.string ⟨#[]⟩,.string ⟨#[]⟩,.string ⟨#[]⟩]) (t := 37) ?hr ?_;(case hd => rfl);(case hg => rfl);(case hr => first|(go_simp;done)|(go_simp;rfl));intro gb323 hg w6 hbox hb;have n0_ := Aside0.mk (blk_below (g := gb322) (bk_ BK322.out) hb);have n1_ := Aside0.mk (below_step (bl1_ HB.out GE322.out) hb);have n2_ := Aside0.mk (hbox);have n3_ := Aside0.mk ((by rw [hg];exact (below_size (bl1_ HB.out GE322.out)) : w.heap.size ≤ gb323));have n4_ := Aside0.mk ((by rw [hg];exact (below_size (bl1_ HB.out GE322.out)) : w.heap.size ≤ gb323));have n5_ := Aside0.mk ((by rw [hg];exact Nat.ne_of_lt (blk_lt (g := gb322) (bk_ BK322.out)) : gb322 ≠ gb323));have n6_ := Aside0.mk ((by rw [hg];exact Nat.ne_of_gt (blk_lt (g := gb322) (bk_ BK322.out)) : gb323 ≠ gb322));clear BK322;clear HB;have BK322 := n0_;have HB := n1_;have BK323 := n2_;have GW323 := n3_;have GE323 := n4_;have NB322_323 := n5_;have NB323_322 := n6_;clear n0_ n1_ n2_ n3_ n4_ n5_ n6_;clear hb hbox hg;have hnb7 := NB322_323.out;have hnc7 := NB323_322.out;have hcz8_0 : w6.cell? ⟨gb322,0,none⟩ = some (.string a0_0) := (blk_cell BK322.out 0).trans rfl;have hcz8_1 : w6.cell? ⟨gb322,1,none⟩ = some (.string a0_1) := (blk_cell BK322.out 1).trans rfl;have hcz8_2 : w6.cell? ⟨gb322,2,none⟩ = some (.string a0_2) := (blk_cell BK322.out 2).trans rfl;have hcz8_3 : w6.cell? ⟨gb322,3,none⟩ = some (.string a0_3) := (blk_cell BK322.out 3).trans rfl;have hcz8_4 : w6.cell? ⟨gb322,4,none⟩ = some (.string a0_4) := (blk_cell BK322.out 4).trans rfl;have hcz8_5 : w6.cell? ⟨gb322,5,none⟩ = some (.string a0_5) := (blk_cell BK322.out 5).trans rfl;have hcz8_6 : w6.cell? ⟨gb322,6,none⟩ = some (.string a0_6) := (blk_cell BK322.out 6).trans rfl;have hcz8_7 : w6.cell? ⟨gb322,7,none⟩ = some (.string a0_7) := (blk_cell BK322.out 7).trans rfl;have hfz8_0 := blk_frozen BK322.out 0;have hfz8_1 := blk_frozen BK322.out 1;have hfz8_2 := blk_frozen BK322.out 2;have hfz8_3 := blk_frozen BK322.out 3;have hfz8_4 := blk_frozen BK322.out 4;have hfz8_5 := blk_frozen BK322.out 5;have hfz8_6 := blk_frozen BK322.out 6;have hfz8_7 := blk_frozen BK322.out 7)|((with_reducible refine gate_callee (f := 40) rfl ?_);refine goesL_ (some 11) rfl rfl Try.func40 (by kernel_rfl) rfl #[.string a1,.int .u8 64] rfl (by (try simp only [List.map_toArray,List.map_cons,List.map_nil]);first|done|rfl|(simp only [List.length_drop,List.length_take];rfl)) ?_;(with_reducible refine (spec_indexOf.calls k a1 64 t324 _ A3.out).mono ?_);rintro e w' ⟨rfl,⟨nd,rfl⟩⟩;refine ⟨_,rfl,?_⟩))
 (try simp only [Act.put,List.setIfInBounds_toArray,List.set_cons_zero,List.set_cons_succ])
 go_cut [1] (fun v1 wc => ∃ (kq : Nat) (x1_3 : ByteArray) (x323006_3 : ByteArray) (x323007_3 : ByteArray) (x324000_3 : ByteArray) (x324001_3 : ByteArray) (x324002_3 : ByteArray) (x324003_3 : ByteArray) (x324004_3 : ByteArray) (x324005_3 : ByteArray) (x324006_3 : ByteArray) (x324007_3 : ByteArray),v1 = .string x1_3 ∧ Aside0 (spec_Uri_authority.j0 kq x1_3 a0_0 a0_1 a0_2 a0_3 a0_4 a0_5 x323006_3 x323007_3 = some (r1,r2,r3,r4,r5,r6,r7,r8,r9)) ∧ Aside0 (kq ≤ k) ∧ Aside0 (wc.heap[gb322]? = some (.cells #[.string a0_0,.string a0_1,.string a0_2,.string a0_3,.string a0_4,.string a0_5,.string x323006_3,.string x323007_3] 37 (0,0))) ∧ Aside0 (wc.heap[gb323]? = some (.cells #[.string x324000_3,.string x324001_3,.string x324002_3,.string x324003_3,.string x324004_3,.string x324005_3,.string x324006_3,.string x324007_3] 37 (0,0))) ∧ Aside0 (Below w.heap.size w wc))
 case first =>
  have H := HC4.out
  clear HC4
  by_cases c9 : t324 ≥ 0
  ·
   rw [if_pos c9] at H
   have c9b0 : decide (0 ≤ t324) = true := decide_eq_true c9
   clear c9
   (first|rw [c9b0]|(simp only [i64_w,i32_w];rw [c9b0])|(rw [YtbkeakeldegkeaaX.isEmpty_eq];rw [c9b0])|skip)
   by_cases c10 : 0 ≤ t324
   ·
    rw [if_pos c10] at H
    have c10b0 := eq_true c10
    have c10b1 : decide (0 ≤ t324) = true := decide_eq_true c10
    clear c10
    by_cases c11 : t324 ≤ (a1.size : Int)
    ·
     rw [if_pos c11] at H
     have c11b0 := eq_true c11
     have c11b1 : decide (t324 ≤ (a1.size : Int)) = true := decide_eq_true c11
     clear c11
     replace H := Option.bind_eq_some_iff.mp H
     obtain ⟨t325,A120,H⟩ := H
     replace H : (if t325 < 1 then (some (a0_0,a0_1,a0_2,a0_3,a0_4,a0_5,⟨#[]⟩,⟨#[]⟩,2)) else (if t325 = (wrap64 (t324 - 1)) then (some (a0_0,a0_1,a0_2,a0_3,a0_4,a0_5,⟨#[]⟩,⟨#[]⟩,2)) else (if 0 ≤ t325 then (if t325 ≤ (a1.size : Int) then (if 0 ≤ (wrap64 (t325 + 1)) then (if (wrap64 (t325 + 1)) ≤ t324 then (if 0 ≤ (wrap64 (t324 + 1)) then (if (wrap64 (t324 + 1)) ≤ (a1.size : Int) then (spec_Uri_authority.j0 k (a1.extract ((wrap64 (t324 + 1)) : Int).toNat a1.size) a0_0 a0_1 a0_2 a0_3 a0_4 a0_5 (a1.extract 0 (t325 : Int).toNat) (a1.extract ((wrap64 (t325 + 1)) : Int).toNat (t324 : Int).toNat)) else (none)) else (none)) else (none)) else (none)) else (none)) else (none)))) = some (r1,r2,r3,r4,r5,r6,r7,r8,r9) := H
     have A12 := Aside0.mk A120
     clear A120
     by_cases c13 : t325 < 1
     ·
      rw [if_pos c13] at H
      have c13b0 : decide (t325 < 1) = true := decide_eq_true c13
      clear c13
      simp only [Option.some.injEq,Prod.mk.injEq] at H
      obtain ⟨rfl,rfl,rfl,rfl,rfl,rfl,rfl,rfl,rfl⟩ := H
      go_wp2_with (first|((with_reducible refine gate_callee (f := 40) rfl ?_);refine goesL_ (some 17) rfl rfl Try.func40 (by kernel_rfl) rfl #[.string (a1.extract 0 (t324 : Int).toNat),.int .u8 58] rfl (by (try simp only [List.map_toArray,List.map_cons,List.map_nil]);first|done|rfl|(simp only [List.length_drop,List.length_take];rfl)) ?_;(with_reducible refine (spec_indexOf.calls k (a1.extract 0 (t324 : Int).toNat) 58 t325 _ A12.out).mono ?_);rintro e w' ⟨rfl,⟨nd,rfl⟩⟩;refine ⟨_,rfl,?_⟩;have hnb14 := NB322_323.out;have hnc14 := NB323_322.out;have hcz15_0 : w6.cell? ⟨gb322,0,none⟩ = some (.string a0_0) := (blk_cell BK322.out 0).trans rfl;have hcz15_1 : w6.cell? ⟨gb322,1,none⟩ = some (.string a0_1) := (blk_cell BK322.out 1).trans rfl;have hcz15_2 : w6.cell? ⟨gb322,2,none⟩ = some (.string a0_2) := (blk_cell BK322.out 2).trans rfl;have hcz15_3 : w6.cell? ⟨gb322,3,none⟩ = some (.string a0_3) := (blk_cell BK322.out 3).trans rfl;have hcz15_4 : w6.cell? ⟨gb322,4,none⟩ = some (.string a0_4) := (blk_cell BK322.out 4).trans rfl;have hcz15_5 : w6.cell? ⟨gb322,5,none⟩ = some (.string a0_5) := (blk_cell BK322.out 5).trans rfl;have hcz15_6 : w6.cell? ⟨gb322,6,none⟩ = some (.string a0_6) := (blk_cell BK322.out 6).trans rfl;have hcz15_7 : w6.cell? ⟨gb322,7,none⟩ = some (.string a0_7) := (blk_cell BK322.out 7).trans rfl;have hfz15_0 := blk_frozen BK322.out 0;have hfz15_1 := blk_frozen BK322.out 1;have hfz15_2 := blk_frozen BK322.out 2;have hfz15_3 := blk_frozen BK322.out 3;have hfz15_4 := blk_frozen BK322.out 4;have hfz15_5 := blk_frozen BK322.out 5;have hfz15_6 := blk_frozen BK322.out 6;have hfz15_7 := blk_frozen BK322.out 7;have hcz16_0 : w6.cell? ⟨gb323,0,none⟩ = some (.string ⟨#[]⟩) := (blk_cell BK323.out 0).trans rfl;have hcz16_1 : w6.cell? ⟨gb323,1,none⟩ = some (.string ⟨#[]⟩) := (blk_cell BK323.out 1).trans rfl;have hcz16_2 : w6.cell? ⟨gb323,2,none⟩ = some (.string ⟨#[]⟩) := (blk_cell BK323.out 2).trans rfl;have hcz16_3 : w6.cell? ⟨gb323,3,none⟩ = some (.string ⟨#[]⟩) := (blk_cell BK323.out 3).trans rfl;have hcz16_4 : w6.cell? ⟨gb323,4,none⟩ = some (.string ⟨#[]⟩) := (blk_cell BK323.out 4).trans rfl;have hcz16_5 : w6.cell? ⟨gb323,5,none⟩ = some (.string ⟨#[]⟩) := (blk_cell BK323.out 5).trans rfl;have hcz16_6 : w6.cell? ⟨gb323,6,none⟩ = some (.string ⟨#[]⟩) := (blk_cell BK323.out 6).trans rfl;have hcz16_7 : w6.cell? ⟨gb323,7,none⟩ = some (.string ⟨#[]⟩) := (blk_cell BK323.out 7).trans rfl;have hfz16_0 := blk_frozen BK323.out 0;have hfz16_1 := blk_frozen BK323.out 1;have hfz16_2 := blk_frozen BK323.out 2;have hfz16_3 := blk_frozen BK323.out 3;have hfz16_4 := blk_frozen BK323.out 4;have hfz16_5 := blk_frozen BK323.out 5;have hfz16_6 := blk_frozen BK323.out 6;have hfz16_7 := blk_frozen BK323.out 7))
      refine bodyPost_ret (results_ct rfl _ _ gb323 37 #[.string a0_0,.string a0_1,.string a0_2,.string a0_3,.string a0_4,.string a0_5,.string ⟨#[]⟩,.string ⟨#[]⟩] (0,0) _ rfl (by (with_reducible repeat (first|apply q1|apply q2|apply q3));refine blk_put (cs := #[.string a0_0,.string a0_1,.string a0_2,.string a0_3,.string a0_4,.string a0_5,.string ⟨#[]⟩,.string ⟨#[]⟩]) ?_ 7 _ rfl;(with_reducible repeat (first|apply q1|apply q2|apply q3));refine blk_put (cs := #[.string a0_0,.string a0_1,.string a0_2,.string a0_3,.string a0_4,.string a0_5,.string ⟨#[]⟩,.string ⟨#[]⟩]) ?_ 6 _ rfl;(with_reducible repeat (first|apply q1|apply q2|apply q3));refine blk_put (cs := #[.string a0_0,.string a0_1,.string a0_2,.string a0_3,.string a0_4,.string ⟨#[]⟩,.string ⟨#[]⟩,.string ⟨#[]⟩]) ?_ 5 _ rfl;(with_reducible repeat (first|apply q1|apply q2|apply q3));refine blk_put (cs := #[.string a0_0,.string a0_1,.string a0_2,.string a0_3,.string ⟨#[]⟩,.string ⟨#[]⟩,.string ⟨#[]⟩,.string ⟨#[]⟩]) ?_ 4 _ rfl;(with_reducible repeat (first|apply q1|apply q2|apply q3));refine blk_put (cs := #[.string a0_0,.string a0_1,.string a0_2,.string ⟨#[]⟩,.string ⟨#[]⟩,.string ⟨#[]⟩,.string ⟨#[]⟩,.string ⟨#[]⟩]) ?_ 3 _ rfl;(with_reducible repeat (first|apply q1|apply q2|apply q3));refine blk_put (cs := #[.string a0_0,.string a0_1,.string ⟨#[]⟩,.string ⟨#[]⟩,.string ⟨#[]⟩,.string ⟨#[]⟩,.string ⟨#[]⟩,.string ⟨#[]⟩]) ?_ 2 _ rfl;(with_reducible repeat (first|apply q1|apply q2|apply q3));refine blk_put (cs := #[.string a0_0,.string ⟨#[]⟩,.string ⟨#[]⟩,.string ⟨#[]⟩,.string ⟨#[]⟩,.string ⟨#[]⟩,.string ⟨#[]⟩,.string ⟨#[]⟩]) ?_ 1 _ rfl;(with_reducible repeat (first|apply q1|apply q2|apply q3));refine blk_put (cs := #[.string ⟨#[]⟩,.string ⟨#[]⟩,.string ⟨#[]⟩,.string ⟨#[]⟩,.string ⟨#[]⟩,.string ⟨#[]⟩,.string ⟨#[]⟩,.string ⟨#[]⟩]) ?_ 0 _ rfl;(with_reducible repeat (first|apply q1|apply q2|apply q3));refine blk_far ?_ NB323_322.out _;(with_reducible repeat (first|apply q1|apply q2|apply q3));refine blk_far ?_ NB323_322.out _;(with_reducible repeat (first|apply q1|apply q2|apply q3));exact BK323.out) Try.underlying37 rfl (by kernel_rfl)) rfl ?_
      exact ⟨by first|rfl|(simp [errW_none,errW_some] <;> rfl)|(simp [*,errW_none,errW_some] <;> rfl),bl2_ HB.out GE322.out GE323.out⟩
     rw [if_neg c13] at H
     have c13b0 : decide (t325 < 1) = false := decide_eq_false c13
     clear c13
     by_cases c17 : t325 = (wrap64 (t324 - 1))
     ·
      rw [if_pos c17] at H
      have c17b0 : (t325 == (wrap64 (t324 - 1))) = true := beq_iff_eq.mpr c17
      have c17b1 : (t325 != (wrap64 (t324 - 1))) = false := bne_eq_false_iff_eq.mpr c17
      clear c17
      simp only [Option.some.injEq,Prod.mk.injEq] at H
      obtain ⟨rfl,rfl,rfl,rfl,rfl,rfl,rfl,rfl,rfl⟩ := H
      go_wp2_with (first|((with_reducible refine gate_callee (f := 40) rfl ?_);refine goesL_ (some 17) rfl rfl Try.func40 (by kernel_rfl) rfl #[.string (a1.extract 0 (t324 : Int).toNat),.int .u8 58] rfl (by (try simp only [List.map_toArray,List.map_cons,List.map_nil]);first|done|rfl|(simp only [List.length_drop,List.length_take];rfl)) ?_;(with_reducible refine (spec_indexOf.calls k (a1.extract 0 (t324 : Int).toNat) 58 t325 _ A12.out).mono ?_);rintro e w' ⟨rfl,⟨nd,rfl⟩⟩;refine ⟨_,rfl,?_⟩;have hnb18 := NB322_323.out;have hnc18 := NB323_322.out;have hcz19_0 : w6.cell? ⟨gb322,0,none⟩ = some (.string a0_0) := (blk_cell BK322.out 0).trans rfl;have hcz19_1 : w6.cell? ⟨gb322,1,none⟩ = some (.string a0_1) := (blk_cell BK322.out 1).trans rfl;have hcz19_2 : w6.cell? ⟨gb322,2,none⟩ = some (.string a0_2) := (blk_cell BK322.out 2).trans rfl;have hcz19_3 : w6.cell? ⟨gb322,3,none⟩ = some (.string a0_3) := (blk_cell BK322.out 3).trans rfl;have hcz19_4 : w6.cell? ⟨gb322,4,none⟩ = some (.string a0_4) := (blk_cell BK322.out 4).trans rfl;have hcz19_5 : w6.cell? ⟨gb322,5,none⟩ = some (.string a0_5) := (blk_cell BK322.out 5).trans rfl;have hcz19_6 : w6.cell? ⟨gb322,6,none⟩ = some (.string a0_6) := (blk_cell BK322.out 6).trans rfl;have hcz19_7 : w6.cell? ⟨gb322,7,none⟩ = some (.string a0_7) := (blk_cell BK322.out 7).trans rfl;have hfz19_0 := blk_frozen BK322.out 0;have hfz19_1 := blk_frozen BK322.out 1;have hfz19_2 := blk_frozen BK322.out 2;have hfz19_3 := blk_frozen BK322.out 3;have hfz19_4 := blk_frozen BK322.out 4;have hfz19_5 := blk_frozen BK322.out 5;have hfz19_6 := blk_frozen BK322.out 6;have hfz19_7 := blk_frozen BK322.out 7;have hcz20_0 : w6.cell? ⟨gb323,0,none⟩ = some (.string ⟨#[]⟩) := (blk_cell BK323.out 0).trans rfl;have hcz20_1 : w6.cell? ⟨gb323,1,none⟩ = some (.string ⟨#[]⟩) := (blk_cell BK323.out 1).trans rfl;have hcz20_2 : w6.cell? ⟨gb323,2,none⟩ = some (.string ⟨#[]⟩) := (blk_cell BK323.out 2).trans rfl;have hcz20_3 : w6.cell? ⟨gb323,3,none⟩ = some (.string ⟨#[]⟩) := (blk_cell BK323.out 3).trans rfl;have hcz20_4 : w6.cell? ⟨gb323,4,none⟩ = some (.string ⟨#[]⟩) := (blk_cell BK323.out 4).trans rfl;have hcz20_5 : w6.cell? ⟨gb323,5,none⟩ = some (.string ⟨#[]⟩) := (blk_cell BK323.out 5).trans rfl;have hcz20_6 : w6.cell? ⟨gb323,6,none⟩ = some (.string ⟨#[]⟩) := (blk_cell BK323.out 6).trans rfl;have hcz20_7 : w6.cell? ⟨gb323,7,none⟩ = some (.string ⟨#[]⟩) := (blk_cell BK323.out 7).trans rfl;have hfz20_0 := blk_frozen BK323.out 0;have hfz20_1 := blk_frozen BK323.out 1;have hfz20_2 := blk_frozen BK323.out 2;have hfz20_3 := blk_frozen BK323.out 3;have hfz20_4 := blk_frozen BK323.out 4;have hfz20_5 := blk_frozen BK323.out 5;have hfz20_6 := blk_frozen BK323.out 6;have hfz20_7 := blk_frozen BK323.out 7))
      refine bodyPost_ret (results_ct rfl _ _ gb323 37 #[.string a0_0,.string a0_1,.string a0_2,.string a0_3,.string a0_4,.string a0_5,.string ⟨#[]⟩,.string ⟨#[]⟩] (0,0) _ rfl (by (with_reducible repeat (first|apply q1|apply q2|apply q3));refine blk_put (cs := #[.string a0_0,.string a0_1,.string a0_2,.string a0_3,.string a0_4,.string a0_5,.string ⟨#[]⟩,.string ⟨#[]⟩]) ?_ 7 _ rfl;(with_reducible repeat (first|apply q1|apply q2|apply q3));refine blk_put (cs := #[.string a0_0,.string a0_1,.string a0_2,.string a0_3,.string a0_4,.string a0_5,.string ⟨#[]⟩,.string ⟨#[]⟩]) ?_ 6 _ rfl;(with_reducible repeat (first|apply q1|apply q2|apply q3));refine blk_put (cs := #[.string a0_0,.string a0_1,.string a0_2,.string a0_3,.string a0_4,.string ⟨#[]⟩,.string ⟨#[]⟩,.string ⟨#[]⟩]) ?_ 5 _ rfl;(with_reducible repeat (first|apply q1|apply q2|apply q3));refine blk_put (cs := #[.string a0_0,.string a0_1,.string a0_2,.string a0_3,.string ⟨#[]⟩,.string ⟨#[]⟩,.string ⟨#[]⟩,.string ⟨#[]⟩]) ?_ 4 _ rfl;(with_reducible repeat (first|apply q1|apply q2|apply q3));refine blk_put (cs := #[.string a0_0,.string a0_1,.string a0_2,.string ⟨#[]⟩,.string ⟨#[]⟩,.string ⟨#[]⟩,.string ⟨#[]⟩,.string ⟨#[]⟩]) ?_ 3 _ rfl;(with_reducible repeat (first|apply q1|apply q2|apply q3));refine blk_put (cs := #[.string a0_0,.string a0_1,.string ⟨#[]⟩,.string ⟨#[]⟩,.string ⟨#[]⟩,.string ⟨#[]⟩,.string ⟨#[]⟩,.string ⟨#[]⟩]) ?_ 2 _ rfl;(with_reducible repeat (first|apply q1|apply q2|apply q3));refine blk_put (cs := #[.string a0_0,.string ⟨#[]⟩,.string ⟨#[]⟩,.string ⟨#[]⟩,.string ⟨#[]⟩,.string ⟨#[]⟩,.string ⟨#[]⟩,.string ⟨#[]⟩]) ?_ 1 _ rfl;(with_reducible repeat (first|apply q1|apply q2|apply q3));refine blk_put (cs := #[.string ⟨#[]⟩,.string ⟨#[]⟩,.string ⟨#[]⟩,.string ⟨#[]⟩,.string ⟨#[]⟩,.string ⟨#[]⟩,.string ⟨#[]⟩,.string ⟨#[]⟩]) ?_ 0 _ rfl;(with_reducible repeat (first|apply q1|apply q2|apply q3));refine blk_far ?_ NB323_322.out _;(with_reducible repeat (first|apply q1|apply q2|apply q3));refine blk_far ?_ NB323_322.out _;(with_reducible repeat (first|apply q1|apply q2|apply q3));exact BK323.out) Try.underlying37 rfl (by kernel_rfl)) rfl ?_
      exact ⟨by first|rfl|(simp [errW_none,errW_some] <;> rfl)|(simp [*,errW_none,errW_some] <;> rfl),bl2_ HB.out GE322.out GE323.out⟩
     rw [if_neg c17] at H
     have c17b0 : (t325 == (wrap64 (t324 - 1))) = false := beq_eq_false_iff_ne.mpr c17
     have c17b1 : (t325 != (wrap64 (t324 - 1))) = true := bne_iff_ne.mpr c17
     by_cases c21 : 0 ≤ t325
     ·
      rw [if_pos c21] at H
      have c21b0 := eq_true c21
      have c21b1 : decide (0 ≤ t325) = true := decide_eq_true c21
      clear c21
      by_cases c22 : t325 ≤ (a1.size : Int)
      ·
       rw [if_pos c22] at H
       have c22b0 := eq_true c22
       have c22b1 : decide (t325 ≤ (a1.size : Int)) = true := decide_eq_true c22
       clear c22
       obtain ⟨ji23,hji23⟩ : ∃ j_ : Int,(wrap64 (t325 + 1)) = j_ := ⟨_,rfl⟩
       replace H : (if 0 ≤ (ji23) then (if (ji23) ≤ t324 then (if 0 ≤ (wrap64 (t324 + 1)) then (if (wrap64 (t324 + 1)) ≤ (a1.size : Int) then (spec_Uri_authority.j0 k (a1.extract ((wrap64 (t324 + 1)) : Int).toNat a1.size) a0_0 a0_1 a0_2 a0_3 a0_4 a0_5 (a1.extract 0 (t325 : Int).toNat) (a1.extract ((ji23) : Int).toNat (t324 : Int).toNat)) else (none)) else (none)) else (none)) else (none)) = some (r1,r2,r3,r4,r5,r6,r7,r8,r9) := by first|(rw [hji23] at H;exact H)|(simp only [hji23] at H ⊢;exact H)
       (try rw [hji23] at A12)
       have hji23w : (IntKind.i64.wrap (t325 + 1)) = ji23 := (i64_w _).trans hji23
       by_cases c24 : 0 ≤ (ji23)
       ·
        rw [if_pos c24] at H
        have c24b0 := eq_true c24
        have c24b1 : decide (0 ≤ (ji23)) = true := decide_eq_true c24
        clear c24
        by_cases c25 : (ji23) ≤ t324
        ·
         rw [if_pos c25] at H
         have c25b0 := eq_true c25
         have c25b1 : decide ((ji23) ≤ t324) = true := decide_eq_true c25
         clear c25
         have c26b0 := eq_true (odt_ : t324 ≤ (a1.size : Int))
         obtain ⟨ji27,hji27⟩ : ∃ j_ : Int,(wrap64 (t324 + 1)) = j_ := ⟨_,rfl⟩
         replace H : (if 0 ≤ (ji27) then (if (ji27) ≤ (a1.size : Int) then (spec_Uri_authority.j0 k (a1.extract ((ji27) : Int).toNat a1.size) a0_0 a0_1 a0_2 a0_3 a0_4 a0_5 (a1.extract 0 (t325 : Int).toNat) (a1.extract ((ji23) : Int).toNat (t324 : Int).toNat)) else (none)) else (none)) = some (r1,r2,r3,r4,r5,r6,r7,r8,r9) := by first|(rw [hji27] at H;exact H)|(simp only [hji27] at H ⊢;exact H)
         (try rw [hji27] at A12)
         have hji27w : (IntKind.i64.wrap (t324 + 1)) = ji27 := (i64_w _).trans hji27
         by_cases c28 : 0 ≤ (ji27)
         ·
          rw [if_pos c28] at H
          have c28b0 := eq_true c28
          have c28b1 : decide (0 ≤ (ji27)) = true := decide_eq_true c28
          clear c28
          by_cases c29 : (ji27) ≤ (a1.size : Int)
          ·
           rw [if_pos c29] at H
           have c29b0 := eq_true c29
           have c29b1 : decide ((ji27) ≤ (a1.size : Int)) = true := decide_eq_true c29
           clear c29
           have H' := Aside0.mk H
           clear H
           try go_wp2_with (first|((with_reducible refine gate_callee (f := 40) rfl ?_);refine goesL_ (some 17) rfl rfl Try.func40 (by kernel_rfl) rfl #[.string (a1.extract 0 (t324 : Int).toNat),.int .u8 58] rfl (by (try simp only [List.map_toArray,List.map_cons,List.map_nil]);first|done|rfl|(simp only [List.length_drop,List.length_take];rfl)) ?_;(with_reducible refine (spec_indexOf.calls k (a1.extract 0 (t324 : Int).toNat) 58 t325 _ A12.out).mono ?_);rintro e w' ⟨rfl,⟨nd,rfl⟩⟩;refine ⟨_,rfl,?_⟩))
           have n0_ : Aside0 (((w6.setCell ⟨gb322,6,none⟩ (.string ⟨#[]⟩)).setCell ⟨gb322,7,none⟩ (.string ⟨#[]⟩)).heap[gb322]? = some (.cells #[.string a0_0,.string a0_1,.string a0_2,.string a0_3,.string a0_4,.string a0_5,.string ⟨#[]⟩,.string ⟨#[]⟩] 37 (0,0))) := ⟨by (with_reducible repeat (first|apply q1|apply q2|apply q3));refine blk_put (cs := #[.string a0_0,.string a0_1,.string a0_2,.string a0_3,.string a0_4,.string a0_5,.string ⟨#[]⟩,.string a0_7]) ?_ 7 _ rfl;(with_reducible repeat (first|apply q1|apply q2|apply q3));refine blk_put (cs := #[.string a0_0,.string a0_1,.string a0_2,.string a0_3,.string a0_4,.string a0_5,.string a0_6,.string a0_7]) ?_ 6 _ rfl;(with_reducible repeat (first|apply q1|apply q2|apply q3));exact BK322.out⟩
           have n1_ : Aside0 (((w6.setCell ⟨gb322,6,none⟩ (.string ⟨#[]⟩)).setCell ⟨gb322,7,none⟩ (.string ⟨#[]⟩)).heap[gb323]? = some (.cells #[.string ⟨#[]⟩,.string ⟨#[]⟩,.string ⟨#[]⟩,.string ⟨#[]⟩,.string ⟨#[]⟩,.string ⟨#[]⟩,.string ⟨#[]⟩,.string ⟨#[]⟩] 37 (0,0))) := ⟨by (with_reducible repeat (first|apply q1|apply q2|apply q3));refine blk_far ?_ NB323_322.out _;(with_reducible repeat (first|apply q1|apply q2|apply q3));refine blk_far ?_ NB323_322.out _;(with_reducible repeat (first|apply q1|apply q2|apply q3));exact BK323.out⟩
           have n2_ : Aside0 (Below w.heap.size w ((w6.setCell ⟨gb322,6,none⟩ (.string ⟨#[]⟩)).setCell ⟨gb322,7,none⟩ (.string ⟨#[]⟩))) := ⟨bl2_ HB.out GE322.out GE323.out⟩
           (try clear BK322)
           (try clear BK323)
           (try clear HB)
           generalize ((w6.setCell ⟨gb322,6,none⟩ (.string ⟨#[]⟩)).setCell ⟨gb322,7,none⟩ (.string ⟨#[]⟩)) = w30 at n0_ n1_ n2_ ⊢
           have BK322 := n0_
           have BK323 := n1_
           have HB := n2_
           clear n0_ n1_ n2_
           (try (rw [drewN_self w30];generalize hq_ : World.drewN w30 _ = w30;have n0_ : Aside0 (w30.heap[gb322]? = some (.cells #[.string a0_0,.string a0_1,.string a0_2,.string a0_3,.string a0_4,.string a0_5,.string ⟨#[]⟩,.string ⟨#[]⟩] 37 (0,0))) := ⟨by rw [← hq_];exact (bk_ BK322.out)⟩;have n1_ : Aside0 (w30.heap[gb323]? = some (.cells #[.string ⟨#[]⟩,.string ⟨#[]⟩,.string ⟨#[]⟩,.string ⟨#[]⟩,.string ⟨#[]⟩,.string ⟨#[]⟩,.string ⟨#[]⟩,.string ⟨#[]⟩] 37 (0,0))) := ⟨by rw [← hq_];exact (bk_ BK323.out)⟩;have n2_ : Aside0 (Below w.heap.size w w30) := ⟨by rw [← hq_];exact (bl2_ HB.out GE322.out GE323.out)⟩;clear BK322 BK323 HB hq_;have BK322 := n0_;have BK323 := n1_;have HB := n2_;clear n0_ n1_ n2_))
           have n0_ := Aside0.mk (blk_drew BK322.out)
           have n1_ := Aside0.mk (blk_drew BK323.out)
           have n2_ := Aside0.mk (below_drew1 HB.out)
           clear BK322
           clear BK323
           clear HB
           have BK322 := n0_
           have BK323 := n1_
           have HB := n2_
           clear n0_ n1_ n2_
           refine start_ (n := 12) (S := fun w' => True) (ds := []) #[false,false,false,false,false,false,false,false,false,false,false,false] (by kernel_rfl) rfl rfl trivial (fun hHeld => ?_);refine with_tabW spec_Uri_authority.tab7 spec_Uri_authority.bits7 (fun HT_ HW_ => ?_)
           generalize w30.drew = w31 at BK322 BK323 HB hHeld ⊢
           refine pure_ (i := 0) (N := some 27) (v := ?_) (a' := ?_) #[true,false,false,false,false,false,false,false,false,false,false,false] rfl rfl (any_of HT_.out (by kernel_rfl)) (fun _ _ _ h => h) (Or.inl ⟨by rfl,?_⟩) ?_ ?_
           rotate_left
           ·
            intro w'
            go_simp
            with_reducible rfl
           rotate_left
           ·
            simp only [Act.put,List.setIfInBounds_toArray,List.set_cons_zero,List.set_cons_succ,i64_w,i32_w]
            rfl
           refine pure_ (i := 1) (N := some 28) (v := ?_) (a' := ?_) #[true,true,false,false,false,false,false,false,false,false,false,false] rfl rfl (any_of HT_.out (by kernel_rfl)) (fun _ _ _ h => h) (Or.inl ⟨by rfl,?_⟩) ?_ ?_
           rotate_left
           ·
            intro w'
            go_simp
            with_reducible rfl
           rotate_left
           ·
            simp only [Act.put,List.setIfInBounds_toArray,List.set_cons_zero,List.set_cons_succ,i64_w,i32_w]
            rfl
           refine pure_ (i := 2) (N := some 29) (v := ?_) (a' := ?_) #[true,true,true,false,false,false,false,false,false,false,false,false] rfl rfl (any_of HT_.out (by kernel_rfl)) (fun _ _ _ h => h) (Or.inl ⟨by rfl,?_⟩) ?_ ?_
           rotate_left
           ·
            intro w'
            go_simp
            with_reducible rfl
           rotate_left
           ·
            simp only [Act.put,List.setIfInBounds_toArray,List.set_cons_zero,List.set_cons_succ,i64_w,i32_w]
            rfl
           refine pure_ (i := 3) (N := some 30) (v := ?_) (a' := ?_) #[true,true,true,true,false,false,false,false,false,false,false,false] rfl rfl (any_of HT_.out (by kernel_rfl)) (fun _ _ _ h => h) (Or.inl ⟨by rfl,?_⟩) ?_ ?_
           rotate_left
           ·
            intro w'
            go_simp
            with_reducible rfl
           rotate_left
           ·
            simp only [Act.put,List.setIfInBounds_toArray,List.set_cons_zero,List.set_cons_succ,i64_w,i32_w]
            rfl
           refine pure_ (i := 4) (N := some 31) (v := ?_) (a' := ?_) #[true,true,true,true,true,false,false,false,false,false,false,false] rfl rfl (any_of HT_.out (by kernel_rfl)) (fun _ _ _ h => h) (Or.inl ⟨by rfl,?_⟩) ?_ ?_
           rotate_left
           ·
            intro w'
            go_simp
            with_reducible rfl
           rotate_left
           ·
            simp only [Act.put,List.setIfInBounds_toArray,List.set_cons_zero,List.set_cons_succ,i64_w,i32_w]
            rfl
           refine pure_ (i := 5) (N := some 32) (v := ?_) (a' := ?_) #[true,true,true,true,true,true,false,false,false,false,false,false] rfl rfl (any_of HT_.out (by kernel_rfl)) (fun _ _ _ h => h) (Or.inl ⟨by rfl,?_⟩) ?_ ?_
           rotate_left
           ·
            intro w'
            go_simp
            with_reducible rfl
           rotate_left
           ·
            simp only [Act.put,List.setIfInBounds_toArray,List.set_cons_zero,List.set_cons_succ,i64_w,i32_w]
            rfl
           refine pure_ (i := 6) (N := some 33) (v := ?_) (a' := ?_) #[true,true,true,true,true,true,true,false,false,false,false,false] rfl rfl (any_of HT_.out (by kernel_rfl)) (fun _ _ _ h => h) (Or.inl ⟨by rfl,?_⟩) ?_ ?_
           rotate_left
           ·
            intro w'
            go_simp
            with_reducible rfl
           rotate_left
           ·
            simp only [Act.put,List.setIfInBounds_toArray,List.set_cons_zero,List.set_cons_succ,i64_w,i32_w]
            rfl
           refine pure_ (i := 7) (N := some 34) (v := ?_) (a' := ?_) #[true,true,true,true,true,true,true,true,false,false,false,false] rfl rfl (any_of HT_.out (by kernel_rfl)) (fun _ _ _ h => h) (Or.inl ⟨by rfl,?_⟩) ?_ ?_
           rotate_left
           ·
            intro w'
            go_simp
            with_reducible rfl
           rotate_left
           ·
            simp only [Act.put,List.setIfInBounds_toArray,List.set_cons_zero,List.set_cons_succ,i64_w,i32_w]
            rfl
           refine pure_ (i := 8) (N := some 35) (v := ?_) (a' := ?_) #[true,true,true,true,true,true,true,true,true,false,false,false] rfl rfl (any_of HT_.out (by kernel_rfl)) (fun _ _ _ h => h) (Or.inl ⟨by rfl,?_⟩) ?_ ?_
           rotate_left
           ·
            intro w'
            go_simp
            with_reducible rfl
           rotate_left
           ·
            simp only [Act.put,List.setIfInBounds_toArray,List.set_cons_zero,List.set_cons_succ,i64_w,i32_w]
            rfl
           refine one_ (i := 9) (N := none) #[true,true,true,true,true,true,true,true,true,true,false,false] rfl rfl (one_of HT_.out (by kernel_rfl)) (by decide) (fun K hK => ?_)
           have hs32 : w31.cell? ⟨gb322,6,none⟩ = some (.string ⟨#[]⟩) := (blk_cell BK322.out 6).trans rfl
           have hfs32 := blk_frozen BK322.out 6
           have hns32_1 := NB323_322.out
           have hms32_1 := NB322_323.out
           refine skip_ (w1 := ?_) (by rfl) rfl ?_ ?_
           rotate_left
           ·
            go_simp
            rfl
           refine hK.out _ _ trivial (fun hHeld => ?_)
           clear hK K
           refine pure_ (i := 10) (N := some 36) (v := ?_) (a' := ?_) #[true,true,true,true,true,true,true,true,true,true,true,false] rfl rfl (any_of HT_.out (by kernel_rfl)) (fun _ _ _ h => h) (Or.inl ⟨by rfl,?_⟩) ?_ ?_
           rotate_left
           ·
            intro w'
            go_simp
            with_reducible rfl
           rotate_left
           ·
            simp only [Act.put,List.setIfInBounds_toArray,List.set_cons_zero,List.set_cons_succ,i64_w,i32_w]
            rfl
           refine one_ (i := 11) (N := none) #[true,true,true,true,true,true,true,true,true,true,true,true] rfl rfl (one_of HT_.out (by kernel_rfl)) (by decide) (fun K hK => ?_)
           have hs33 : w31.cell? ⟨gb322,7,none⟩ = some (.string ⟨#[]⟩) := (blk_cell BK322.out 7).trans rfl
           have hfs33 := blk_frozen BK322.out 7
           have hns33_1 := NB323_322.out
           have hms33_1 := NB322_323.out
           refine skip_ (w1 := ?_) (by rfl) rfl ?_ ?_
           rotate_left
           ·
            go_simp
            rfl
           refine hK.out _ _ trivial (fun hHeld => ?_)
           clear hK K
           refine done_ (done_of HT_.out (by kernel_rfl)) ?_
           try go_wp2
           go_meet
           case rel => exact ⟨_,(a1.extract ((ji27) : Int).toNat a1.size),(a1.extract 0 (t325 : Int).toNat),(a1.extract ((ji23) : Int).toNat (t324 : Int).toNat),(⟨#[]⟩),(⟨#[]⟩),(⟨#[]⟩),(⟨#[]⟩),(⟨#[]⟩),(⟨#[]⟩),(⟨#[]⟩),(⟨#[]⟩),(by first|rfl|(simp;done)|(simp only [← hji27] <;> (first|rfl|simp))|(simp [*];done)|(simp [YtbkeakeldegkeaaX.isEmpty_ne];done)),H',⟨by first|omega|exact Nat.le_refl _⟩,⟨by (with_reducible repeat (first|apply q1|apply q2|apply q3));refine blk_put (cs := #[.string a0_0,.string a0_1,.string a0_2,.string a0_3,.string a0_4,.string a0_5,.string (a1.extract 0 (t325 : Int).toNat),.string ⟨#[]⟩]) ?_ 7 _ rfl;(with_reducible repeat (first|apply q1|apply q2|apply q3));refine blk_put (cs := #[.string a0_0,.string a0_1,.string a0_2,.string a0_3,.string a0_4,.string a0_5,.string ⟨#[]⟩,.string ⟨#[]⟩]) ?_ 6 _ rfl;(with_reducible repeat (first|apply q1|apply q2|apply q3));exact BK322.out⟩,⟨by (with_reducible repeat (first|apply q1|apply q2|apply q3));refine blk_far ?_ NB323_322.out _;(with_reducible repeat (first|apply q1|apply q2|apply q3));refine blk_far ?_ NB323_322.out _;(with_reducible repeat (first|apply q1|apply q2|apply q3));exact BK323.out⟩,⟨bl2_ HB.out GE322.out GE323.out⟩⟩
          rw [if_neg c29] at H
          exact absurd H (by simp)
         rw [if_neg c28] at H
         exact absurd H (by simp)
        rw [if_neg c25] at H
        exact absurd H (by simp)
       rw [if_neg c24] at H
       exact absurd H (by simp)
      rw [if_neg c22] at H
      exact absurd H (by simp)
     rw [if_neg c21] at H
     exact absurd H (by simp)
    rw [if_neg c11] at H
    exact absurd H (by simp)
   rw [if_neg c10] at H
   exact absurd H (by simp)
  rw [if_neg c9] at H
  have c9b0 : decide (0 ≤ t324) = false := decide_eq_false c9
  clear c9
  (first|rw [c9b0]|(simp only [i64_w,i32_w];rw [c9b0])|(rw [YtbkeakeldegkeaaX.isEmpty_eq];rw [c9b0])|skip)
  have H' := Aside0.mk H
  clear H
  go_wp2
  go_meet
  case rel => exact ⟨_,(a1),(⟨#[]⟩),(⟨#[]⟩),(⟨#[]⟩),(⟨#[]⟩),(⟨#[]⟩),(⟨#[]⟩),(⟨#[]⟩),(⟨#[]⟩),(⟨#[]⟩),(⟨#[]⟩),(rs_),H',⟨by first|omega|exact Nat.le_refl _⟩,⟨by (with_reducible repeat (first|apply q1|apply q2|apply q3));refine blk_put (cs := #[.string a0_0,.string a0_1,.string a0_2,.string a0_3,.string a0_4,.string a0_5,.string ⟨#[]⟩,.string a0_7]) ?_ 7 _ rfl;(with_reducible repeat (first|apply q1|apply q2|apply q3));refine blk_put (cs := #[.string a0_0,.string a0_1,.string a0_2,.string a0_3,.string a0_4,.string a0_5,.string a0_6,.string a0_7]) ?_ 6 _ rfl;(with_reducible repeat (first|apply q1|apply q2|apply q3));exact BK322.out⟩,⟨by (with_reducible repeat (first|apply q1|apply q2|apply q3));refine blk_far ?_ NB323_322.out _;(with_reducible repeat (first|apply q1|apply q2|apply q3));refine blk_far ?_ NB323_322.out _;(with_reducible repeat (first|apply q1|apply q2|apply q3));exact BK323.out⟩,⟨bl2_ HB.out GE322.out GE323.out⟩⟩
 case rest =>
  clear HC4
  try clear c1
  try clear c2
  try clear p2
  try clear c3
  try clear c4
  try clear p6
  try clear c7
  try clear c9
  try clear c9b0
  try clear c10
  try clear c10b0
  try clear c10b1
  try clear c11
  try clear c11b0
  try clear c11b1
  try clear c13
  try clear c13b0
  try clear c14
  try clear c17
  try clear c17b0
  try clear c17b1
  try clear c18
  try clear c21
  try clear c21b0
  try clear c21b1
  try clear c22
  try clear c22b0
  try clear c22b1
  try clear c24
  try clear c24b0
  try clear c24b1
  try clear c25
  try clear c25b0
  try clear c25b1
  try clear c26
  try clear c26b0
  try clear c28
  try clear c28b0
  try clear c28b1
  try clear c29
  try clear c29b0
  try clear c29b1
  try clear hcz15_0
  try clear hcz15_1
  try clear hcz15_2
  try clear hcz15_3
  try clear hcz15_4
  try clear hcz15_5
  try clear hcz15_6
  try clear hcz15_7
  try clear hcz16_0
  try clear hcz16_1
  try clear hcz16_2
  try clear hcz16_3
  try clear hcz16_4
  try clear hcz16_5
  try clear hcz16_6
  try clear hcz16_7
  try clear hcz19_0
  try clear hcz19_1
  try clear hcz19_2
  try clear hcz19_3
  try clear hcz19_4
  try clear hcz19_5
  try clear hcz19_6
  try clear hcz19_7
  try clear hcz20_0
  try clear hcz20_1
  try clear hcz20_2
  try clear hcz20_3
  try clear hcz20_4
  try clear hcz20_5
  try clear hcz20_6
  try clear hcz20_7
  try clear hcz8_0
  try clear hcz8_1
  try clear hcz8_2
  try clear hcz8_3
  try clear hcz8_4
  try clear hcz8_5
  try clear hcz8_6
  try clear hcz8_7
  try clear hfz15_0
  try clear hfz15_1
  try clear hfz15_2
  try clear hfz15_3
  try clear hfz15_4
  try clear hfz15_5
  try clear hfz15_6
  try clear hfz15_7
  try clear hfz16_0
  try clear hfz16_1
  try clear hfz16_2
  try clear hfz16_3
  try clear hfz16_4
  try clear hfz16_5
  try clear hfz16_6
  try clear hfz16_7
  try clear hfz19_0
  try clear hfz19_1
  try clear hfz19_2
  try clear hfz19_3
  try clear hfz19_4
  try clear hfz19_5
  try clear hfz19_6
  try clear hfz19_7
  try clear hfz20_0
  try clear hfz20_1
  try clear hfz20_2
  try clear hfz20_3
  try clear hfz20_4
  try clear hfz20_5
  try clear hfz20_6
  try clear hfz20_7
  try clear hfz8_0
  try clear hfz8_1
  try clear hfz8_2
  try clear hfz8_3
  try clear hfz8_4
  try clear hfz8_5
  try clear hfz8_6
  try clear hfz8_7
  obtain ⟨kq,x1_3,x323006_3,x323007_3,x324000_3,x324001_3,x324002_3,x324003_3,x324004_3,x324005_3,x324006_3,x324007_3,rfl,HA,HJ3,BK322,BK323,HB⟩ := hcut
  cases kq with
  | zero => exact absurd HA.out (by simp [spec_Uri_authority.j0])
  | succ kj3 =>
   have H := HA.out
   clear HA
   simp only [spec_Uri_authority.j0] at H
   by_cases c34 : x1_3.toList = ([] : List UInt8)
   ·
    rw [if_pos c34] at H
    have c34b0 : (x1_3.toList == ([] : List UInt8)) = true := beq_iff_eq.mpr c34
    have c34b1 : (x1_3.toList != ([] : List UInt8)) = false := bne_eq_false_iff_eq.mpr c34
    clear c34
    simp only [Option.some.injEq,Prod.mk.injEq] at H
    obtain ⟨rfl,rfl,rfl,rfl,rfl,rfl,rfl,rfl,rfl⟩ := H
    have hnb35 := NB322_323.out
    have hnc35 := NB323_322.out
    have hcz36_0 : wc.cell? ⟨gb322,0,none⟩ = some (.string a0_0) := (blk_cell BK322.out 0).trans rfl
    have hcz36_1 : wc.cell? ⟨gb322,1,none⟩ = some (.string a0_1) := (blk_cell BK322.out 1).trans rfl
    have hcz36_2 : wc.cell? ⟨gb322,2,none⟩ = some (.string a0_2) := (blk_cell BK322.out 2).trans rfl
    have hcz36_3 : wc.cell? ⟨gb322,3,none⟩ = some (.string a0_3) := (blk_cell BK322.out 3).trans rfl
    have hcz36_4 : wc.cell? ⟨gb322,4,none⟩ = some (.string a0_4) := (blk_cell BK322.out 4).trans rfl
    have hcz36_5 : wc.cell? ⟨gb322,5,none⟩ = some (.string a0_5) := (blk_cell BK322.out 5).trans rfl
    have hcz36_6 : wc.cell? ⟨gb322,6,none⟩ = some (.string x323006_3) := (blk_cell BK322.out 6).trans rfl
    have hcz36_7 : wc.cell? ⟨gb322,7,none⟩ = some (.string x323007_3) := (blk_cell BK322.out 7).trans rfl
    have hfz36_0 := blk_frozen BK322.out 0
    have hfz36_1 := blk_frozen BK322.out 1
    have hfz36_2 := blk_frozen BK322.out 2
    have hfz36_3 := blk_frozen BK322.out 3
    have hfz36_4 := blk_frozen BK322.out 4
    have hfz36_5 := blk_frozen BK322.out 5
    have hfz36_6 := blk_frozen BK322.out 6
    have hfz36_7 := blk_frozen BK322.out 7
    have hcz37_0 : wc.cell? ⟨gb323,0,none⟩ = some (.string x324000_3) := (blk_cell BK323.out 0).trans rfl
    have hcz37_1 : wc.cell? ⟨gb323,1,none⟩ = some (.string x324001_3) := (blk_cell BK323.out 1).trans rfl
    have hcz37_2 : wc.cell? ⟨gb323,2,none⟩ = some (.string x324002_3) := (blk_cell BK323.out 2).trans rfl
    have hcz37_3 : wc.cell? ⟨gb323,3,none⟩ = some (.string x324003_3) := (blk_cell BK323.out 3).trans rfl
    have hcz37_4 : wc.cell? ⟨gb323,4,none⟩ = some (.string x324004_3) := (blk_cell BK323.out 4).trans rfl
    have hcz37_5 : wc.cell? ⟨gb323,5,none⟩ = some (.string x324005_3) := (blk_cell BK323.out 5).trans rfl
    have hcz37_6 : wc.cell? ⟨gb323,6,none⟩ = some (.string x324006_3) := (blk_cell BK323.out 6).trans rfl
    have hcz37_7 : wc.cell? ⟨gb323,7,none⟩ = some (.string x324007_3) := (blk_cell BK323.out 7).trans rfl
    have hfz37_0 := blk_frozen BK323.out 0
    have hfz37_1 := blk_frozen BK323.out 1
    have hfz37_2 := blk_frozen BK323.out 2
    have hfz37_3 := blk_frozen BK323.out 3
    have hfz37_4 := blk_frozen BK323.out 4
    have hfz37_5 := blk_frozen BK323.out 5
    have hfz37_6 := blk_frozen BK323.out 6
    have hfz37_7 := blk_frozen BK323.out 7
    go_wp2
    refine bodyPost_ret (results_ct rfl _ _ gb323 37 #[.string a0_0,.string a0_1,.string a0_2,.string a0_3,.string a0_4,.string a0_5,.string x323006_3,.string x323007_3] (0,0) _ rfl (by (with_reducible repeat (first|apply q1|apply q2|apply q3));refine blk_put (cs := #[.string a0_0,.string a0_1,.string a0_2,.string a0_3,.string a0_4,.string a0_5,.string x323006_3,.string x324007_3]) ?_ 7 _ rfl;(with_reducible repeat (first|apply q1|apply q2|apply q3));refine blk_put (cs := #[.string a0_0,.string a0_1,.string a0_2,.string a0_3,.string a0_4,.string a0_5,.string x324006_3,.string x324007_3]) ?_ 6 _ rfl;(with_reducible repeat (first|apply q1|apply q2|apply q3));refine blk_put (cs := #[.string a0_0,.string a0_1,.string a0_2,.string a0_3,.string a0_4,.string x324005_3,.string x324006_3,.string x324007_3]) ?_ 5 _ rfl;(with_reducible repeat (first|apply q1|apply q2|apply q3));refine blk_put (cs := #[.string a0_0,.string a0_1,.string a0_2,.string a0_3,.string x324004_3,.string x324005_3,.string x324006_3,.string x324007_3]) ?_ 4 _ rfl;(with_reducible repeat (first|apply q1|apply q2|apply q3));refine blk_put (cs := #[.string a0_0,.string a0_1,.string a0_2,.string x324003_3,.string x324004_3,.string x324005_3,.string x324006_3,.string x324007_3]) ?_ 3 _ rfl;(with_reducible repeat (first|apply q1|apply q2|apply q3));refine blk_put (cs := #[.string a0_0,.string a0_1,.string x324002_3,.string x324003_3,.string x324004_3,.string x324005_3,.string x324006_3,.string x324007_3]) ?_ 2 _ rfl;(with_reducible repeat (first|apply q1|apply q2|apply q3));refine blk_put (cs := #[.string a0_0,.string x324001_3,.string x324002_3,.string x324003_3,.string x324004_3,.string x324005_3,.string x324006_3,.string x324007_3]) ?_ 1 _ rfl;(with_reducible repeat (first|apply q1|apply q2|apply q3));refine blk_put (cs := #[.string x324000_3,.string x324001_3,.string x324002_3,.string x324003_3,.string x324004_3,.string x324005_3,.string x324006_3,.string x324007_3]) ?_ 0 _ rfl;(with_reducible repeat (first|apply q1|apply q2|apply q3));exact BK323.out) Try.underlying37 rfl (by kernel_rfl)) rfl ?_
    exact ⟨by first|rfl|(simp [errW_none,errW_some] <;> rfl)|(simp [*,errW_none,errW_some] <;> rfl),bl2_ HB.out GE322.out GE323.out⟩
   rw [if_neg c34] at H
   have c34b0 : (x1_3.toList == ([] : List UInt8)) = false := beq_eq_false_iff_ne.mpr c34
   have c34b1 : (x1_3.toList != ([] : List UInt8)) = true := bne_iff_ne.mpr c34
   replace H := Option.bind_eq_some_iff.mp H
   obtain ⟨t326,A380,H⟩ := H
   replace H : (if t326 ≥ 0 then (some (a0_0,a0_1,a0_2,a0_3,a0_4,a0_5,x323006_3,x323007_3,2)) else (if x323006_3.size + x323007_3.size ≤ 9223372036854775807 then (if x323006_3.size + x323007_3.size + x1_3.size ≤ 9223372036854775807 then ((spec_indexOf.f kj3 ((x323006_3 ++ x323007_3) ++ x1_3) 37).bind fun t327 => (if t327 ≥ 0 then (some (a0_0,a0_1,a0_2,a0_3,a0_4,a0_5,x323006_3,x323007_3,2)) else ((spec_indexOf.f kj3 x1_3 91).bind fun t328 => (if t328 ≥ 0 then (some (a0_0,a0_1,a0_2,a0_3,a0_4,a0_5,x323006_3,x323007_3,2)) else ((spec_indexOf.f kj3 x1_3 93).bind fun t329 => (if t329 ≥ 0 then (some (a0_0,a0_1,a0_2,a0_3,a0_4,a0_5,x323006_3,x323007_3,2)) else ((spec_Lower.f x1_3).bind fun t330 => (some (a0_0,t330,a0_2,a0_3,a0_4,a0_5,x323006_3,x323007_3,1))))))))) else (none)) else (none))) = some (r1,r2,r3,r4,r5,r6,r7,r8,r9) := H
   have A38 := Aside0.mk A380
   clear A380
   by_cases c39 : t326 ≥ 0
   ·
    rw [if_pos c39] at H
    have c39b0 : decide (0 ≤ t326) = true := decide_eq_true c39
    clear c39
    simp only [Option.some.injEq,Prod.mk.injEq] at H
    obtain ⟨rfl,rfl,rfl,rfl,rfl,rfl,rfl,rfl,rfl⟩ := H
    go_wp2_with (first|(go_at_call 40;(with_reducible refine (spec_indexOf.calls kj3 x1_3 64 t326 _ A38.out).mono ?_);rintro e w' ⟨rfl,⟨nd,rfl⟩⟩;(try (rw [drewN_self wc];generalize hq_ : World.drewN wc _ = wc;have n0_ : Aside0 (wc.heap[gb322]? = some (.cells #[.string a0_0,.string a0_1,.string a0_2,.string a0_3,.string a0_4,.string a0_5,.string x323006_3,.string x323007_3] 37 (0,0))) := ⟨by rw [← hq_];exact (bk_ BK322.out)⟩;have n1_ : Aside0 (wc.heap[gb323]? = some (.cells #[.string x324000_3,.string x324001_3,.string x324002_3,.string x324003_3,.string x324004_3,.string x324005_3,.string x324006_3,.string x324007_3] 37 (0,0))) := ⟨by rw [← hq_];exact (bk_ BK323.out)⟩;have n2_ : Aside0 (Below w.heap.size w wc) := ⟨by rw [← hq_];exact (bl2_ HB.out GE322.out GE323.out)⟩;clear BK322 BK323 HB hq_;have BK322 := n0_;have BK323 := n1_;have HB := n2_;clear n0_ n1_ n2_));have hnb40 := NB322_323.out;have hnc40 := NB323_322.out;have hcz41_0 : wc.cell? ⟨gb322,0,none⟩ = some (.string a0_0) := (blk_cell BK322.out 0).trans rfl;have hcz41_1 : wc.cell? ⟨gb322,1,none⟩ = some (.string a0_1) := (blk_cell BK322.out 1).trans rfl;have hcz41_2 : wc.cell? ⟨gb322,2,none⟩ = some (.string a0_2) := (blk_cell BK322.out 2).trans rfl;have hcz41_3 : wc.cell? ⟨gb322,3,none⟩ = some (.string a0_3) := (blk_cell BK322.out 3).trans rfl;have hcz41_4 : wc.cell? ⟨gb322,4,none⟩ = some (.string a0_4) := (blk_cell BK322.out 4).trans rfl;have hcz41_5 : wc.cell? ⟨gb322,5,none⟩ = some (.string a0_5) := (blk_cell BK322.out 5).trans rfl;have hcz41_6 : wc.cell? ⟨gb322,6,none⟩ = some (.string x323006_3) := (blk_cell BK322.out 6).trans rfl;have hcz41_7 : wc.cell? ⟨gb322,7,none⟩ = some (.string x323007_3) := (blk_cell BK322.out 7).trans rfl;have hfz41_0 := blk_frozen BK322.out 0;have hfz41_1 := blk_frozen BK322.out 1;have hfz41_2 := blk_frozen BK322.out 2;have hfz41_3 := blk_frozen BK322.out 3;have hfz41_4 := blk_frozen BK322.out 4;have hfz41_5 := blk_frozen BK322.out 5;have hfz41_6 := blk_frozen BK322.out 6;have hfz41_7 := blk_frozen BK322.out 7;have hcz42_0 : wc.cell? ⟨gb323,0,none⟩ = some (.string x324000_3) := (blk_cell BK323.out 0).trans rfl;have hcz42_1 : wc.cell? ⟨gb323,1,none⟩ = some (.string x324001_3) := (blk_cell BK323.out 1).trans rfl;have hcz42_2 : wc.cell? ⟨gb323,2,none⟩ = some (.string x324002_3) := (blk_cell BK323.out 2).trans rfl;have hcz42_3 : wc.cell? ⟨gb323,3,none⟩ = some (.string x324003_3) := (blk_cell BK323.out 3).trans rfl;have hcz42_4 : wc.cell? ⟨gb323,4,none⟩ = some (.string x324004_3) := (blk_cell BK323.out 4).trans rfl;have hcz42_5 : wc.cell? ⟨gb323,5,none⟩ = some (.string x324005_3) := (blk_cell BK323.out 5).trans rfl;have hcz42_6 : wc.cell? ⟨gb323,6,none⟩ = some (.string x324006_3) := (blk_cell BK323.out 6).trans rfl;have hcz42_7 : wc.cell? ⟨gb323,7,none⟩ = some (.string x324007_3) := (blk_cell BK323.out 7).trans rfl;have hfz42_0 := blk_frozen BK323.out 0;have hfz42_1 := blk_frozen BK323.out 1;have hfz42_2 := blk_frozen BK323.out 2;have hfz42_3 := blk_frozen BK323.out 3;have hfz42_4 := blk_frozen BK323.out 4;have hfz42_5 := blk_frozen BK323.out 5;have hfz42_6 := blk_frozen BK323.out 6;have hfz42_7 := blk_frozen BK323.out 7))
    refine bodyPost_ret (results_ct rfl _ _ gb323 37 #[.string a0_0,.string a0_1,.string a0_2,.string a0_3,.string a0_4,.string a0_5,.string x323006_3,.string x323007_3] (0,0) _ rfl (by (with_reducible repeat (first|apply q1|apply q2|apply q3));refine blk_put (cs := #[.string a0_0,.string a0_1,.string a0_2,.string a0_3,.string a0_4,.string a0_5,.string x323006_3,.string x324007_3]) ?_ 7 _ rfl;(with_reducible repeat (first|apply q1|apply q2|apply q3));refine blk_put (cs := #[.string a0_0,.string a0_1,.string a0_2,.string a0_3,.string a0_4,.string a0_5,.string x324006_3,.string x324007_3]) ?_ 6 _ rfl;(with_reducible repeat (first|apply q1|apply q2|apply q3));refine blk_put (cs := #[.string a0_0,.string a0_1,.string a0_2,.string a0_3,.string a0_4,.string x324005_3,.string x324006_3,.string x324007_3]) ?_ 5 _ rfl;(with_reducible repeat (first|apply q1|apply q2|apply q3));refine blk_put (cs := #[.string a0_0,.string a0_1,.string a0_2,.string a0_3,.string x324004_3,.string x324005_3,.string x324006_3,.string x324007_3]) ?_ 4 _ rfl;(with_reducible repeat (first|apply q1|apply q2|apply q3));refine blk_put (cs := #[.string a0_0,.string a0_1,.string a0_2,.string x324003_3,.string x324004_3,.string x324005_3,.string x324006_3,.string x324007_3]) ?_ 3 _ rfl;(with_reducible repeat (first|apply q1|apply q2|apply q3));refine blk_put (cs := #[.string a0_0,.string a0_1,.string x324002_3,.string x324003_3,.string x324004_3,.string x324005_3,.string x324006_3,.string x324007_3]) ?_ 2 _ rfl;(with_reducible repeat (first|apply q1|apply q2|apply q3));refine blk_put (cs := #[.string a0_0,.string x324001_3,.string x324002_3,.string x324003_3,.string x324004_3,.string x324005_3,.string x324006_3,.string x324007_3]) ?_ 1 _ rfl;(with_reducible repeat (first|apply q1|apply q2|apply q3));refine blk_put (cs := #[.string x324000_3,.string x324001_3,.string x324002_3,.string x324003_3,.string x324004_3,.string x324005_3,.string x324006_3,.string x324007_3]) ?_ 0 _ rfl;(with_reducible repeat (first|apply q1|apply q2|apply q3));exact BK323.out) Try.underlying37 rfl (by kernel_rfl)) rfl ?_
    exact ⟨by first|rfl|(simp [errW_none,errW_some] <;> rfl)|(simp [*,errW_none,errW_some] <;> rfl),bl2_ HB.out GE322.out GE323.out⟩
   rw [if_neg c39] at H
   have c39b0 : decide (0 ≤ t326) = false := decide_eq_false c39
   clear c39
   by_cases c43 : x323006_3.size + x323007_3.size ≤ 9223372036854775807
   ·
    rw [if_pos c43] at H
    have c43b0 := eq_true c43
    have c43b1 : decide (x323006_3.size + x323007_3.size ≤ 9223372036854775807) = true := decide_eq_true c43
    try have c43b2 : (9223372036854775807 < x323006_3.size + x323007_3.size) = False := eq_false (Nat.not_lt.2 c43)
    by_cases c44 : x323006_3.size + x323007_3.size + x1_3.size ≤ 9223372036854775807
    ·
     rw [if_pos c44] at H
     have c44b0 := eq_true c44
     have c44b1 : decide (x323006_3.size + x323007_3.size + x1_3.size ≤ 9223372036854775807) = true := decide_eq_true c44
     try have c44b2 : (9223372036854775807 < x323006_3.size + x323007_3.size + x1_3.size) = False := eq_false (Nat.not_lt.2 c44)
     replace H := Option.bind_eq_some_iff.mp H
     obtain ⟨t327,A450,H⟩ := H
     replace H : (if t327 ≥ 0 then (some (a0_0,a0_1,a0_2,a0_3,a0_4,a0_5,x323006_3,x323007_3,2)) else ((spec_indexOf.f kj3 x1_3 91).bind fun t328 => (if t328 ≥ 0 then (some (a0_0,a0_1,a0_2,a0_3,a0_4,a0_5,x323006_3,x323007_3,2)) else ((spec_indexOf.f kj3 x1_3 93).bind fun t329 => (if t329 ≥ 0 then (some (a0_0,a0_1,a0_2,a0_3,a0_4,a0_5,x323006_3,x323007_3,2)) else ((spec_Lower.f x1_3).bind fun t330 => (some (a0_0,t330,a0_2,a0_3,a0_4,a0_5,x323006_3,x323007_3,1)))))))) = some (r1,r2,r3,r4,r5,r6,r7,r8,r9) := H
     have A45 := Aside0.mk A450
     clear A450
     by_cases c46 : t327 ≥ 0
     ·
      rw [if_pos c46] at H
      have c46b0 : decide (0 ≤ t327) = true := decide_eq_true c46
      clear c46
      simp only [Option.some.injEq,Prod.mk.injEq] at H
      obtain ⟨rfl,rfl,rfl,rfl,rfl,rfl,rfl,rfl,rfl⟩ := H
      go_wp2_with (first|(go_at_call 40;(with_reducible refine (spec_indexOf.calls kj3 x1_3 64 t326 _ A38.out).mono ?_);rintro e w' ⟨rfl,⟨nd,rfl⟩⟩;(try (rw [drewN_self wc];generalize hq_ : World.drewN wc _ = wc;have n0_ : Aside0 (wc.heap[gb322]? = some (.cells #[.string a0_0,.string a0_1,.string a0_2,.string a0_3,.string a0_4,.string a0_5,.string x323006_3,.string x323007_3] 37 (0,0))) := ⟨by rw [← hq_];exact (bk_ BK322.out)⟩;have n1_ : Aside0 (wc.heap[gb323]? = some (.cells #[.string x324000_3,.string x324001_3,.string x324002_3,.string x324003_3,.string x324004_3,.string x324005_3,.string x324006_3,.string x324007_3] 37 (0,0))) := ⟨by rw [← hq_];exact (bk_ BK323.out)⟩;have n2_ : Aside0 (Below w.heap.size w wc) := ⟨by rw [← hq_];exact (bl2_ HB.out GE322.out GE323.out)⟩;clear BK322 BK323 HB hq_;have BK322 := n0_;have BK323 := n1_;have HB := n2_;clear n0_ n1_ n2_));have hnb47 := NB322_323.out;have hnc47 := NB323_322.out;have hcz48_0 : wc.cell? ⟨gb322,0,none⟩ = some (.string a0_0) := (blk_cell BK322.out 0).trans rfl;have hcz48_1 : wc.cell? ⟨gb322,1,none⟩ = some (.string a0_1) := (blk_cell BK322.out 1).trans rfl;have hcz48_2 : wc.cell? ⟨gb322,2,none⟩ = some (.string a0_2) := (blk_cell BK322.out 2).trans rfl;have hcz48_3 : wc.cell? ⟨gb322,3,none⟩ = some (.string a0_3) := (blk_cell BK322.out 3).trans rfl;have hcz48_4 : wc.cell? ⟨gb322,4,none⟩ = some (.string a0_4) := (blk_cell BK322.out 4).trans rfl;have hcz48_5 : wc.cell? ⟨gb322,5,none⟩ = some (.string a0_5) := (blk_cell BK322.out 5).trans rfl;have hcz48_6 : wc.cell? ⟨gb322,6,none⟩ = some (.string x323006_3) := (blk_cell BK322.out 6).trans rfl;have hcz48_7 : wc.cell? ⟨gb322,7,none⟩ = some (.string x323007_3) := (blk_cell BK322.out 7).trans rfl;have hfz48_0 := blk_frozen BK322.out 0;have hfz48_1 := blk_frozen BK322.out 1;have hfz48_2 := blk_frozen BK322.out 2;have hfz48_3 := blk_frozen BK322.out 3;have hfz48_4 := blk_frozen BK322.out 4;have hfz48_5 := blk_frozen BK322.out 5;have hfz48_6 := blk_frozen BK322.out 6;have hfz48_7 := blk_frozen BK322.out 7;have xq1_0 : wc.cell? ⟨gb323,0,none⟩ = some (.string x324000_3) := (blk_cell BK323.out 0).trans rfl;have xf1_0 := blk_frozen BK323.out 0;have xq2_1 : wc.cell? ⟨gb323,1,none⟩ = some (.string x324001_3) := (blk_cell BK323.out 1).trans rfl;have xf2_1 := blk_frozen BK323.out 1;have xq3_2 : wc.cell? ⟨gb323,2,none⟩ = some (.string x324002_3) := (blk_cell BK323.out 2).trans rfl;have xf3_2 := blk_frozen BK323.out 2;have xq4_3 : wc.cell? ⟨gb323,3,none⟩ = some (.string x324003_3) := (blk_cell BK323.out 3).trans rfl;have xf4_3 := blk_frozen BK323.out 3;have xq5_4 : wc.cell? ⟨gb323,4,none⟩ = some (.string x324004_3) := (blk_cell BK323.out 4).trans rfl;have xf5_4 := blk_frozen BK323.out 4;have xq6_5 : wc.cell? ⟨gb323,5,none⟩ = some (.string x324005_3) := (blk_cell BK323.out 5).trans rfl;have xf6_5 := blk_frozen BK323.out 5;have xq7_6 : wc.cell? ⟨gb323,6,none⟩ = some (.string x324006_3) := (blk_cell BK323.out 6).trans rfl;have xf7_6 := blk_frozen BK323.out 6;have xq8_7 : wc.cell? ⟨gb323,7,none⟩ = some (.string x324007_3) := (blk_cell BK323.out 7).trans rfl;have xf8_7 := blk_frozen BK323.out 7)|(go_at_call 40;(with_reducible refine (spec_indexOf.calls kj3 ((x323006_3 ++ x323007_3) ++ x1_3) 37 t327 _ A45.out).mono ?_);rintro e w' ⟨rfl,⟨nd,rfl⟩⟩;(try (rw [drewN_self wc];generalize hq_ : World.drewN wc _ = wc;have n0_ : Aside0 (wc.heap[gb322]? = some (.cells #[.string a0_0,.string a0_1,.string a0_2,.string a0_3,.string a0_4,.string a0_5,.string x323006_3,.string x323007_3] 37 (0,0))) := ⟨by rw [← hq_];exact (bk_ BK322.out)⟩;have n1_ : Aside0 (wc.heap[gb323]? = some (.cells #[.string x324000_3,.string x324001_3,.string x324002_3,.string x324003_3,.string x324004_3,.string x324005_3,.string x324006_3,.string x324007_3] 37 (0,0))) := ⟨by rw [← hq_];exact (bk_ BK323.out)⟩;have n2_ : Aside0 (Below w.heap.size w wc) := ⟨by rw [← hq_];exact (bl2_ HB.out GE322.out GE323.out)⟩;clear BK322 BK323 HB hq_;have BK322 := n0_;have BK323 := n1_;have HB := n2_;clear n0_ n1_ n2_));have hcz49_0 : wc.cell? ⟨gb323,0,none⟩ = some (.string x324000_3) := (blk_cell BK323.out 0).trans rfl;have hcz49_1 : wc.cell? ⟨gb323,1,none⟩ = some (.string x324001_3) := (blk_cell BK323.out 1).trans rfl;have hcz49_2 : wc.cell? ⟨gb323,2,none⟩ = some (.string x324002_3) := (blk_cell BK323.out 2).trans rfl;have hcz49_3 : wc.cell? ⟨gb323,3,none⟩ = some (.string x324003_3) := (blk_cell BK323.out 3).trans rfl;have hcz49_4 : wc.cell? ⟨gb323,4,none⟩ = some (.string x324004_3) := (blk_cell BK323.out 4).trans rfl;have hcz49_5 : wc.cell? ⟨gb323,5,none⟩ = some (.string x324005_3) := (blk_cell BK323.out 5).trans rfl;have hcz49_6 : wc.cell? ⟨gb323,6,none⟩ = some (.string x324006_3) := (blk_cell BK323.out 6).trans rfl;have hcz49_7 : wc.cell? ⟨gb323,7,none⟩ = some (.string x324007_3) := (blk_cell BK323.out 7).trans rfl;have hfz49_0 := blk_frozen BK323.out 0;have hfz49_1 := blk_frozen BK323.out 1;have hfz49_2 := blk_frozen BK323.out 2;have hfz49_3 := blk_frozen BK323.out 3;have hfz49_4 := blk_frozen BK323.out 4;have hfz49_5 := blk_frozen BK323.out 5;have hfz49_6 := blk_frozen BK323.out 6;have hfz49_7 := blk_frozen BK323.out 7;have xq9_0 : wc.cell? ⟨gb322,0,none⟩ = some (.string a0_0) := (blk_cell BK322.out 0).trans rfl;have xf9_0 := blk_frozen BK322.out 0;have xq10_1 : wc.cell? ⟨gb322,1,none⟩ = some (.string a0_1) := (blk_cell BK322.out 1).trans rfl;have xf10_1 := blk_frozen BK322.out 1;have xq11_2 : wc.cell? ⟨gb322,2,none⟩ = some (.string a0_2) := (blk_cell BK322.out 2).trans rfl;have xf11_2 := blk_frozen BK322.out 2;have xq12_3 : wc.cell? ⟨gb322,3,none⟩ = some (.string a0_3) := (blk_cell BK322.out 3).trans rfl;have xf12_3 := blk_frozen BK322.out 3;have xq13_4 : wc.cell? ⟨gb322,4,none⟩ = some (.string a0_4) := (blk_cell BK322.out 4).trans rfl;have xf13_4 := blk_frozen BK322.out 4;have xq14_5 : wc.cell? ⟨gb322,5,none⟩ = some (.string a0_5) := (blk_cell BK322.out 5).trans rfl;have xf14_5 := blk_frozen BK322.out 5;have xq15_6 : wc.cell? ⟨gb322,6,none⟩ = some (.string x323006_3) := (blk_cell BK322.out 6).trans rfl;have xf15_6 := blk_frozen BK322.out 6;have xq16_7 : wc.cell? ⟨gb322,7,none⟩ = some (.string x323007_3) := (blk_cell BK322.out 7).trans rfl;have xf16_7 := blk_frozen BK322.out 7))
      refine bodyPost_ret (results_ct rfl _ _ gb323 37 #[.string a0_0,.string a0_1,.string a0_2,.string a0_3,.string a0_4,.string a0_5,.string x323006_3,.string x323007_3] (0,0) _ rfl (by (with_reducible repeat (first|apply q1|apply q2|apply q3));refine blk_put (cs := #[.string a0_0,.string a0_1,.string a0_2,.string a0_3,.string a0_4,.string a0_5,.string x323006_3,.string x324007_3]) ?_ 7 _ rfl;(with_reducible repeat (first|apply q1|apply q2|apply q3));refine blk_put (cs := #[.string a0_0,.string a0_1,.string a0_2,.string a0_3,.string a0_4,.string a0_5,.string x324006_3,.string x324007_3]) ?_ 6 _ rfl;(with_reducible repeat (first|apply q1|apply q2|apply q3));refine blk_put (cs := #[.string a0_0,.string a0_1,.string a0_2,.string a0_3,.string a0_4,.string x324005_3,.string x324006_3,.string x324007_3]) ?_ 5 _ rfl;(with_reducible repeat (first|apply q1|apply q2|apply q3));refine blk_put (cs := #[.string a0_0,.string a0_1,.string a0_2,.string a0_3,.string x324004_3,.string x324005_3,.string x324006_3,.string x324007_3]) ?_ 4 _ rfl;(with_reducible repeat (first|apply q1|apply q2|apply q3));refine blk_put (cs := #[.string a0_0,.string a0_1,.string a0_2,.string x324003_3,.string x324004_3,.string x324005_3,.string x324006_3,.string x324007_3]) ?_ 3 _ rfl;(with_reducible repeat (first|apply q1|apply q2|apply q3));refine blk_put (cs := #[.string a0_0,.string a0_1,.string x324002_3,.string x324003_3,.string x324004_3,.string x324005_3,.string x324006_3,.string x324007_3]) ?_ 2 _ rfl;(with_reducible repeat (first|apply q1|apply q2|apply q3));refine blk_put (cs := #[.string a0_0,.string x324001_3,.string x324002_3,.string x324003_3,.string x324004_3,.string x324005_3,.string x324006_3,.string x324007_3]) ?_ 1 _ rfl;(with_reducible repeat (first|apply q1|apply q2|apply q3));refine blk_put (cs := #[.string x324000_3,.string x324001_3,.string x324002_3,.string x324003_3,.string x324004_3,.string x324005_3,.string x324006_3,.string x324007_3]) ?_ 0 _ rfl;(with_reducible repeat (first|apply q1|apply q2|apply q3));exact BK323.out) Try.underlying37 rfl (by kernel_rfl)) rfl ?_
      exact ⟨by first|rfl|(simp [errW_none,errW_some] <;> rfl)|(simp [*,errW_none,errW_some] <;> rfl),bl2_ HB.out GE322.out GE323.out⟩
     rw [if_neg c46] at H
     have c46b0 : decide (0 ≤ t327) = false := decide_eq_false c46
     clear c46
     replace H := Option.bind_eq_some_iff.mp H
     obtain ⟨t328,A500,H⟩ := H
     replace H : (if t328 ≥ 0 then (some (a0_0,a0_1,a0_2,a0_3,a0_4,a0_5,x323006_3,x323007_3,2)) else ((spec_indexOf.f kj3 x1_3 93).bind fun t329 => (if t329 ≥ 0 then (some (a0_0,a0_1,a0_2,a0_3,a0_4,a0_5,x323006_3,x323007_3,2)) else ((spec_Lower.f x1_3).bind fun t330 => (some (a0_0,t330,a0_2,a0_3,a0_4,a0_5,x323006_3,x323007_3,1)))))) = some (r1,r2,r3,r4,r5,r6,r7,r8,r9) := H
     have A50 := Aside0.mk A500
     clear A500
     by_cases c51 : t328 ≥ 0
     ·
      rw [if_pos c51] at H
      have c51b0 : decide (0 ≤ t328) = true := decide_eq_true c51
      clear c51
      simp only [Option.some.injEq,Prod.mk.injEq] at H
      obtain ⟨rfl,rfl,rfl,rfl,rfl,rfl,rfl,rfl,rfl⟩ := H
      go_wp2_with (first|(go_at_call 40;(with_reducible refine (spec_indexOf.calls kj3 x1_3 64 t326 _ A38.out).mono ?_);rintro e w' ⟨rfl,⟨nd,rfl⟩⟩;(try (rw [drewN_self wc];generalize hq_ : World.drewN wc _ = wc;have n0_ : Aside0 (wc.heap[gb322]? = some (.cells #[.string a0_0,.string a0_1,.string a0_2,.string a0_3,.string a0_4,.string a0_5,.string x323006_3,.string x323007_3] 37 (0,0))) := ⟨by rw [← hq_];exact (bk_ BK322.out)⟩;have n1_ : Aside0 (wc.heap[gb323]? = some (.cells #[.string x324000_3,.string x324001_3,.string x324002_3,.string x324003_3,.string x324004_3,.string x324005_3,.string x324006_3,.string x324007_3] 37 (0,0))) := ⟨by rw [← hq_];exact (bk_ BK323.out)⟩;have n2_ : Aside0 (Below w.heap.size w wc) := ⟨by rw [← hq_];exact (bl2_ HB.out GE322.out GE323.out)⟩;clear BK322 BK323 HB hq_;have BK322 := n0_;have BK323 := n1_;have HB := n2_;clear n0_ n1_ n2_));have hnb52 := NB322_323.out;have hnc52 := NB323_322.out;have hcz53_0 : wc.cell? ⟨gb322,0,none⟩ = some (.string a0_0) := (blk_cell BK322.out 0).trans rfl;have hcz53_1 : wc.cell? ⟨gb322,1,none⟩ = some (.string a0_1) := (blk_cell BK322.out 1).trans rfl;have hcz53_2 : wc.cell? ⟨gb322,2,none⟩ = some (.string a0_2) := (blk_cell BK322.out 2).trans rfl;have hcz53_3 : wc.cell? ⟨gb322,3,none⟩ = some (.string a0_3) := (blk_cell BK322.out 3).trans rfl;have hcz53_4 : wc.cell? ⟨gb322,4,none⟩ = some (.string a0_4) := (blk_cell BK322.out 4).trans rfl;have hcz53_5 : wc.cell? ⟨gb322,5,none⟩ = some (.string a0_5) := (blk_cell BK322.out 5).trans rfl;have hcz53_6 : wc.cell? ⟨gb322,6,none⟩ = some (.string x323006_3) := (blk_cell BK322.out 6).trans rfl;have hcz53_7 : wc.cell? ⟨gb322,7,none⟩ = some (.string x323007_3) := (blk_cell BK322.out 7).trans rfl;have hfz53_0 := blk_frozen BK322.out 0;have hfz53_1 := blk_frozen BK322.out 1;have hfz53_2 := blk_frozen BK322.out 2;have hfz53_3 := blk_frozen BK322.out 3;have hfz53_4 := blk_frozen BK322.out 4;have hfz53_5 := blk_frozen BK322.out 5;have hfz53_6 := blk_frozen BK322.out 6;have hfz53_7 := blk_frozen BK322.out 7;have xq17_0 : wc.cell? ⟨gb323,0,none⟩ = some (.string x324000_3) := (blk_cell BK323.out 0).trans rfl;have xf17_0 := blk_frozen BK323.out 0;have xq18_1 : wc.cell? ⟨gb323,1,none⟩ = some (.string x324001_3) := (blk_cell BK323.out 1).trans rfl;have xf18_1 := blk_frozen BK323.out 1;have xq19_2 : wc.cell? ⟨gb323,2,none⟩ = some (.string x324002_3) := (blk_cell BK323.out 2).trans rfl;have xf19_2 := blk_frozen BK323.out 2;have xq20_3 : wc.cell? ⟨gb323,3,none⟩ = some (.string x324003_3) := (blk_cell BK323.out 3).trans rfl;have xf20_3 := blk_frozen BK323.out 3;have xq21_4 : wc.cell? ⟨gb323,4,none⟩ = some (.string x324004_3) := (blk_cell BK323.out 4).trans rfl;have xf21_4 := blk_frozen BK323.out 4;have xq22_5 : wc.cell? ⟨gb323,5,none⟩ = some (.string x324005_3) := (blk_cell BK323.out 5).trans rfl;have xf22_5 := blk_frozen BK323.out 5;have xq23_6 : wc.cell? ⟨gb323,6,none⟩ = some (.string x324006_3) := (blk_cell BK323.out 6).trans rfl;have xf23_6 := blk_frozen BK323.out 6;have xq24_7 : wc.cell? ⟨gb323,7,none⟩ = some (.string x324007_3) := (blk_cell BK323.out 7).trans rfl;have xf24_7 := blk_frozen BK323.out 7)|(go_at_call 40;(with_reducible refine (spec_indexOf.calls kj3 ((x323006_3 ++ x323007_3) ++ x1_3) 37 t327 _ A45.out).mono ?_);rintro e w' ⟨rfl,⟨nd,rfl⟩⟩;(try (rw [drewN_self wc];generalize hq_ : World.drewN wc _ = wc;have n0_ : Aside0 (wc.heap[gb322]? = some (.cells #[.string a0_0,.string a0_1,.string a0_2,.string a0_3,.string a0_4,.string a0_5,.string x323006_3,.string x323007_3] 37 (0,0))) := ⟨by rw [← hq_];exact (bk_ BK322.out)⟩;have n1_ : Aside0 (wc.heap[gb323]? = some (.cells #[.string x324000_3,.string x324001_3,.string x324002_3,.string x324003_3,.string x324004_3,.string x324005_3,.string x324006_3,.string x324007_3] 37 (0,0))) := ⟨by rw [← hq_];exact (bk_ BK323.out)⟩;have n2_ : Aside0 (Below w.heap.size w wc) := ⟨by rw [← hq_];exact (bl2_ HB.out GE322.out GE323.out)⟩;clear BK322 BK323 HB hq_;have BK322 := n0_;have BK323 := n1_;have HB := n2_;clear n0_ n1_ n2_));have xq25_0 : wc.cell? ⟨gb322,0,none⟩ = some (.string a0_0) := (blk_cell BK322.out 0).trans rfl;have xf25_0 := blk_frozen BK322.out 0;have xq26_1 : wc.cell? ⟨gb322,1,none⟩ = some (.string a0_1) := (blk_cell BK322.out 1).trans rfl;have xf26_1 := blk_frozen BK322.out 1;have xq27_2 : wc.cell? ⟨gb322,2,none⟩ = some (.string a0_2) := (blk_cell BK322.out 2).trans rfl;have xf27_2 := blk_frozen BK322.out 2;have xq28_3 : wc.cell? ⟨gb322,3,none⟩ = some (.string a0_3) := (blk_cell BK322.out 3).trans rfl;have xf28_3 := blk_frozen BK322.out 3;have xq29_4 : wc.cell? ⟨gb322,4,none⟩ = some (.string a0_4) := (blk_cell BK322.out 4).trans rfl;have xf29_4 := blk_frozen BK322.out 4;have xq30_5 : wc.cell? ⟨gb322,5,none⟩ = some (.string a0_5) := (blk_cell BK322.out 5).trans rfl;have xf30_5 := blk_frozen BK322.out 5;have xq31_6 : wc.cell? ⟨gb322,6,none⟩ = some (.string x323006_3) := (blk_cell BK322.out 6).trans rfl;have xf31_6 := blk_frozen BK322.out 6;have xq32_7 : wc.cell? ⟨gb322,7,none⟩ = some (.string x323007_3) := (blk_cell BK322.out 7).trans rfl;have xf32_7 := blk_frozen BK322.out 7;have xq33_0 : wc.cell? ⟨gb323,0,none⟩ = some (.string x324000_3) := (blk_cell BK323.out 0).trans rfl;have xf33_0 := blk_frozen BK323.out 0;have xq34_1 : wc.cell? ⟨gb323,1,none⟩ = some (.string x324001_3) := (blk_cell BK323.out 1).trans rfl;have xf34_1 := blk_frozen BK323.out 1;have xq35_2 : wc.cell? ⟨gb323,2,none⟩ = some (.string x324002_3) := (blk_cell BK323.out 2).trans rfl;have xf35_2 := blk_frozen BK323.out 2;have xq36_3 : wc.cell? ⟨gb323,3,none⟩ = some (.string x324003_3) := (blk_cell BK323.out 3).trans rfl;have xf36_3 := blk_frozen BK323.out 3;have xq37_4 : wc.cell? ⟨gb323,4,none⟩ = some (.string x324004_3) := (blk_cell BK323.out 4).trans rfl;have xf37_4 := blk_frozen BK323.out 4;have xq38_5 : wc.cell? ⟨gb323,5,none⟩ = some (.string x324005_3) := (blk_cell BK323.out 5).trans rfl;have xf38_5 := blk_frozen BK323.out 5;have xq39_6 : wc.cell? ⟨gb323,6,none⟩ = some (.string x324006_3) := (blk_cell BK323.out 6).trans rfl;have xf39_6 := blk_frozen BK323.out 6;have xq40_7 : wc.cell? ⟨gb323,7,none⟩ = some (.string x324007_3) := (blk_cell BK323.out 7).trans rfl;have xf40_7 := blk_frozen BK323.out 7)|(go_at_call 40;(with_reducible refine (spec_indexOf.calls kj3 x1_3 91 t328 _ A50.out).mono ?_);rintro e w' ⟨rfl,⟨nd,rfl⟩⟩;(try (rw [drewN_self wc];generalize hq_ : World.drewN wc _ = wc;have n0_ : Aside0 (wc.heap[gb322]? = some (.cells #[.string a0_0,.string a0_1,.string a0_2,.string a0_3,.string a0_4,.string a0_5,.string x323006_3,.string x323007_3] 37 (0,0))) := ⟨by rw [← hq_];exact (bk_ BK322.out)⟩;have n1_ : Aside0 (wc.heap[gb323]? = some (.cells #[.string x324000_3,.string x324001_3,.string x324002_3,.string x324003_3,.string x324004_3,.string x324005_3,.string x324006_3,.string x324007_3] 37 (0,0))) := ⟨by rw [← hq_];exact (bk_ BK323.out)⟩;have n2_ : Aside0 (Below w.heap.size w wc) := ⟨by rw [← hq_];exact (bl2_ HB.out GE322.out GE323.out)⟩;clear BK322 BK323 HB hq_;have BK322 := n0_;have BK323 := n1_;have HB := n2_;clear n0_ n1_ n2_));have hcz54_0 : wc.cell? ⟨gb323,0,none⟩ = some (.string x324000_3) := (blk_cell BK323.out 0).trans rfl;have hcz54_1 : wc.cell? ⟨gb323,1,none⟩ = some (.string x324001_3) := (blk_cell BK323.out 1).trans rfl;have hcz54_2 : wc.cell? ⟨gb323,2,none⟩ = some (.string x324002_3) := (blk_cell BK323.out 2).trans rfl;have hcz54_3 : wc.cell? ⟨gb323,3,none⟩ = some (.string x324003_3) := (blk_cell BK323.out 3).trans rfl;have hcz54_4 : wc.cell? ⟨gb323,4,none⟩ = some (.string x324004_3) := (blk_cell BK323.out 4).trans rfl;have hcz54_5 : wc.cell? ⟨gb323,5,none⟩ = some (.string x324005_3) := (blk_cell BK323.out 5).trans rfl;have hcz54_6 : wc.cell? ⟨gb323,6,none⟩ = some (.string x324006_3) := (blk_cell BK323.out 6).trans rfl;have hcz54_7 : wc.cell? ⟨gb323,7,none⟩ = some (.string x324007_3) := (blk_cell BK323.out 7).trans rfl;have hfz54_0 := blk_frozen BK323.out 0;have hfz54_1 := blk_frozen BK323.out 1;have hfz54_2 := blk_frozen BK323.out 2;have hfz54_3 := blk_frozen BK323.out 3;have hfz54_4 := blk_frozen BK323.out 4;have hfz54_5 := blk_frozen BK323.out 5;have hfz54_6 := blk_frozen BK323.out 6;have hfz54_7 := blk_frozen BK323.out 7;have xq41_0 : wc.cell? ⟨gb322,0,none⟩ = some (.string a0_0) := (blk_cell BK322.out 0).trans rfl;have xf41_0 := blk_frozen BK322.out 0;have xq42_1 : wc.cell? ⟨gb322,1,none⟩ = some (.string a0_1) := (blk_cell BK322.out 1).trans rfl;have xf42_1 := blk_frozen BK322.out 1;have xq43_2 : wc.cell? ⟨gb322,2,none⟩ = some (.string a0_2) := (blk_cell BK322.out 2).trans rfl;have xf43_2 := blk_frozen BK322.out 2;have xq44_3 : wc.cell? ⟨gb322,3,none⟩ = some (.string a0_3) := (blk_cell BK322.out 3).trans rfl;have xf44_3 := blk_frozen BK322.out 3;have xq45_4 : wc.cell? ⟨gb322,4,none⟩ = some (.string a0_4) := (blk_cell BK322.out 4).trans rfl;have xf45_4 := blk_frozen BK322.out 4;have xq46_5 : wc.cell? ⟨gb322,5,none⟩ = some (.string a0_5) := (blk_cell BK322.out 5).trans rfl;have xf46_5 := blk_frozen BK322.out 5;have xq47_6 : wc.cell? ⟨gb322,6,none⟩ = some (.string x323006_3) := (blk_cell BK322.out 6).trans rfl;have xf47_6 := blk_frozen BK322.out 6;have xq48_7 : wc.cell? ⟨gb322,7,none⟩ = some (.string x323007_3) := (blk_cell BK322.out 7).trans rfl;have xf48_7 := blk_frozen BK322.out 7))
      refine bodyPost_ret (results_ct rfl _ _ gb323 37 #[.string a0_0,.string a0_1,.string a0_2,.string a0_3,.string a0_4,.string a0_5,.string x323006_3,.string x323007_3] (0,0) _ rfl (by (with_reducible repeat (first|apply q1|apply q2|apply q3));refine blk_put (cs := #[.string a0_0,.string a0_1,.string a0_2,.string a0_3,.string a0_4,.string a0_5,.string x323006_3,.string x324007_3]) ?_ 7 _ rfl;(with_reducible repeat (first|apply q1|apply q2|apply q3));refine blk_put (cs := #[.string a0_0,.string a0_1,.string a0_2,.string a0_3,.string a0_4,.string a0_5,.string x324006_3,.string x324007_3]) ?_ 6 _ rfl;(with_reducible repeat (first|apply q1|apply q2|apply q3));refine blk_put (cs := #[.string a0_0,.string a0_1,.string a0_2,.string a0_3,.string a0_4,.string x324005_3,.string x324006_3,.string x324007_3]) ?_ 5 _ rfl;(with_reducible repeat (first|apply q1|apply q2|apply q3));refine blk_put (cs := #[.string a0_0,.string a0_1,.string a0_2,.string a0_3,.string x324004_3,.string x324005_3,.string x324006_3,.string x324007_3]) ?_ 4 _ rfl;(with_reducible repeat (first|apply q1|apply q2|apply q3));refine blk_put (cs := #[.string a0_0,.string a0_1,.string a0_2,.string x324003_3,.string x324004_3,.string x324005_3,.string x324006_3,.string x324007_3]) ?_ 3 _ rfl;(with_reducible repeat (first|apply q1|apply q2|apply q3));refine blk_put (cs := #[.string a0_0,.string a0_1,.string x324002_3,.string x324003_3,.string x324004_3,.string x324005_3,.string x324006_3,.string x324007_3]) ?_ 2 _ rfl;(with_reducible repeat (first|apply q1|apply q2|apply q3));refine blk_put (cs := #[.string a0_0,.string x324001_3,.string x324002_3,.string x324003_3,.string x324004_3,.string x324005_3,.string x324006_3,.string x324007_3]) ?_ 1 _ rfl;(with_reducible repeat (first|apply q1|apply q2|apply q3));refine blk_put (cs := #[.string x324000_3,.string x324001_3,.string x324002_3,.string x324003_3,.string x324004_3,.string x324005_3,.string x324006_3,.string x324007_3]) ?_ 0 _ rfl;(with_reducible repeat (first|apply q1|apply q2|apply q3));exact BK323.out) Try.underlying37 rfl (by kernel_rfl)) rfl ?_
      exact ⟨by first|rfl|(simp [errW_none,errW_some] <;> rfl)|(simp [*,errW_none,errW_some] <;> rfl),bl2_ HB.out GE322.out GE323.out⟩
     rw [if_neg c51] at H
     have c51b0 : decide (0 ≤ t328) = false := decide_eq_false c51
     clear c51
     replace H := Option.bind_eq_some_iff.mp H
     obtain ⟨t329,A550,H⟩ := H
     replace H : (if t329 ≥ 0 then (some (a0_0,a0_1,a0_2,a0_3,a0_4,a0_5,x323006_3,x323007_3,2)) else ((spec_Lower.f x1_3).bind fun t330 => (some (a0_0,t330,a0_2,a0_3,a0_4,a0_5,x323006_3,x323007_3,1)))) = some (r1,r2,r3,r4,r5,r6,r7,r8,r9) := H
     have A55 := Aside0.mk A550
     clear A550
     by_cases c56 : t329 ≥ 0
     ·
      rw [if_pos c56] at H
      have c56b0 : decide (0 ≤ t329) = true := decide_eq_true c56
      clear c56
      simp only [Option.some.injEq,Prod.mk.injEq] at H
      obtain ⟨rfl,rfl,rfl,rfl,rfl,rfl,rfl,rfl,rfl⟩ := H
      go_wp2_with (first|(go_at_call 40;(with_reducible refine (spec_indexOf.calls kj3 x1_3 64 t326 _ A38.out).mono ?_);rintro e w' ⟨rfl,⟨nd,rfl⟩⟩;(try (rw [drewN_self wc];generalize hq_ : World.drewN wc _ = wc;have n0_ : Aside0 (wc.heap[gb322]? = some (.cells #[.string a0_0,.string a0_1,.string a0_2,.string a0_3,.string a0_4,.string a0_5,.string x323006_3,.string x323007_3] 37 (0,0))) := ⟨by rw [← hq_];exact (bk_ BK322.out)⟩;have n1_ : Aside0 (wc.heap[gb323]? = some (.cells #[.string x324000_3,.string x324001_3,.string x324002_3,.string x324003_3,.string x324004_3,.string x324005_3,.string x324006_3,.string x324007_3] 37 (0,0))) := ⟨by rw [← hq_];exact (bk_ BK323.out)⟩;have n2_ : Aside0 (Below w.heap.size w wc) := ⟨by rw [← hq_];exact (bl2_ HB.out GE322.out GE323.out)⟩;clear BK322 BK323 HB hq_;have BK322 := n0_;have BK323 := n1_;have HB := n2_;clear n0_ n1_ n2_));have hnb57 := NB322_323.out;have hnc57 := NB323_322.out;have hcz58_0 : wc.cell? ⟨gb322,0,none⟩ = some (.string a0_0) := (blk_cell BK322.out 0).trans rfl;have hcz58_1 : wc.cell? ⟨gb322,1,none⟩ = some (.string a0_1) := (blk_cell BK322.out 1).trans rfl;have hcz58_2 : wc.cell? ⟨gb322,2,none⟩ = some (.string a0_2) := (blk_cell BK322.out 2).trans rfl;have hcz58_3 : wc.cell? ⟨gb322,3,none⟩ = some (.string a0_3) := (blk_cell BK322.out 3).trans rfl;have hcz58_4 : wc.cell? ⟨gb322,4,none⟩ = some (.string a0_4) := (blk_cell BK322.out 4).trans rfl;have hcz58_5 : wc.cell? ⟨gb322,5,none⟩ = some (.string a0_5) := (blk_cell BK322.out 5).trans rfl;have hcz58_6 : wc.cell? ⟨gb322,6,none⟩ = some (.string x323006_3) := (blk_cell BK322.out 6).trans rfl;have hcz58_7 : wc.cell? ⟨gb322,7,none⟩ = some (.string x323007_3) := (blk_cell BK322.out 7).trans rfl;have hfz58_0 := blk_frozen BK322.out 0;have hfz58_1 := blk_frozen BK322.out 1;have hfz58_2 := blk_frozen BK322.out 2;have hfz58_3 := blk_frozen BK322.out 3;have hfz58_4 := blk_frozen BK322.out 4;have hfz58_5 := blk_frozen BK322.out 5;have hfz58_6 := blk_frozen BK322.out 6;have hfz58_7 := blk_frozen BK322.out 7;have xq49_0 : wc.cell? ⟨gb323,0,none⟩ = some (.string x324000_3) := (blk_cell BK323.out 0).trans rfl;have xf49_0 := blk_frozen BK323.out 0;have xq50_1 : wc.cell? ⟨gb323,1,none⟩ = some (.string x324001_3) := (blk_cell BK323.out 1).trans rfl;have xf50_1 := blk_frozen BK323.out 1;have xq51_2 : wc.cell? ⟨gb323,2,none⟩ = some (.string x324002_3) := (blk_cell BK323.out 2).trans rfl;have xf51_2 := blk_frozen BK323.out 2;have xq52_3 : wc.cell? ⟨gb323,3,none⟩ = some (.string x324003_3) := (blk_cell BK323.out 3).trans rfl;have xf52_3 := blk_frozen BK323.out 3;have xq53_4 : wc.cell? ⟨gb323,4,none⟩ = some (.string x324004_3) := (blk_cell BK323.out 4).trans rfl;have xf53_4 := blk_frozen BK323.out 4;have xq54_5 : wc.cell? ⟨gb323,5,none⟩ = some (.string x324005_3) := (blk_cell BK323.out 5).trans rfl;have xf54_5 := blk_frozen BK323.out 5;have xq55_6 : wc.cell? ⟨gb323,6,none⟩ = some (.string x324006_3) := (blk_cell BK323.out 6).trans rfl;have xf55_6 := blk_frozen BK323.out 6;have xq56_7 : wc.cell? ⟨gb323,7,none⟩ = some (.string x324007_3) := (blk_cell BK323.out 7).trans rfl;have xf56_7 := blk_frozen BK323.out 7)|(go_at_call 40;(with_reducible refine (spec_indexOf.calls kj3 ((x323006_3 ++ x323007_3) ++ x1_3) 37 t327 _ A45.out).mono ?_);rintro e w' ⟨rfl,⟨nd,rfl⟩⟩;(try (rw [drewN_self wc];generalize hq_ : World.drewN wc _ = wc;have n0_ : Aside0 (wc.heap[gb322]? = some (.cells #[.string a0_0,.string a0_1,.string a0_2,.string a0_3,.string a0_4,.string a0_5,.string x323006_3,.string x323007_3] 37 (0,0))) := ⟨by rw [← hq_];exact (bk_ BK322.out)⟩;have n1_ : Aside0 (wc.heap[gb323]? = some (.cells #[.string x324000_3,.string x324001_3,.string x324002_3,.string x324003_3,.string x324004_3,.string x324005_3,.string x324006_3,.string x324007_3] 37 (0,0))) := ⟨by rw [← hq_];exact (bk_ BK323.out)⟩;have n2_ : Aside0 (Below w.heap.size w wc) := ⟨by rw [← hq_];exact (bl2_ HB.out GE322.out GE323.out)⟩;clear BK322 BK323 HB hq_;have BK322 := n0_;have BK323 := n1_;have HB := n2_;clear n0_ n1_ n2_));have xq57_0 : wc.cell? ⟨gb322,0,none⟩ = some (.string a0_0) := (blk_cell BK322.out 0).trans rfl;have xf57_0 := blk_frozen BK322.out 0;have xq58_1 : wc.cell? ⟨gb322,1,none⟩ = some (.string a0_1) := (blk_cell BK322.out 1).trans rfl;have xf58_1 := blk_frozen BK322.out 1;have xq59_2 : wc.cell? ⟨gb322,2,none⟩ = some (.string a0_2) := (blk_cell BK322.out 2).trans rfl;have xf59_2 := blk_frozen BK322.out 2;have xq60_3 : wc.cell? ⟨gb322,3,none⟩ = some (.string a0_3) := (blk_cell BK322.out 3).trans rfl;have xf60_3 := blk_frozen BK322.out 3;have xq61_4 : wc.cell? ⟨gb322,4,none⟩ = some (.string a0_4) := (blk_cell BK322.out 4).trans rfl;have xf61_4 := blk_frozen BK322.out 4;have xq62_5 : wc.cell? ⟨gb322,5,none⟩ = some (.string a0_5) := (blk_cell BK322.out 5).trans rfl;have xf62_5 := blk_frozen BK322.out 5;have xq63_6 : wc.cell? ⟨gb322,6,none⟩ = some (.string x323006_3) := (blk_cell BK322.out 6).trans rfl;have xf63_6 := blk_frozen BK322.out 6;have xq64_7 : wc.cell? ⟨gb322,7,none⟩ = some (.string x323007_3) := (blk_cell BK322.out 7).trans rfl;have xf64_7 := blk_frozen BK322.out 7;have xq65_0 : wc.cell? ⟨gb323,0,none⟩ = some (.string x324000_3) := (blk_cell BK323.out 0).trans rfl;have xf65_0 := blk_frozen BK323.out 0;have xq66_1 : wc.cell? ⟨gb323,1,none⟩ = some (.string x324001_3) := (blk_cell BK323.out 1).trans rfl;have xf66_1 := blk_frozen BK323.out 1;have xq67_2 : wc.cell? ⟨gb323,2,none⟩ = some (.string x324002_3) := (blk_cell BK323.out 2).trans rfl;have xf67_2 := blk_frozen BK323.out 2;have xq68_3 : wc.cell? ⟨gb323,3,none⟩ = some (.string x324003_3) := (blk_cell BK323.out 3).trans rfl;have xf68_3 := blk_frozen BK323.out 3;have xq69_4 : wc.cell? ⟨gb323,4,none⟩ = some (.string x324004_3) := (blk_cell BK323.out 4).trans rfl;have xf69_4 := blk_frozen BK323.out 4;have xq70_5 : wc.cell? ⟨gb323,5,none⟩ = some (.string x324005_3) := (blk_cell BK323.out 5).trans rfl;have xf70_5 := blk_frozen BK323.out 5;have xq71_6 : wc.cell? ⟨gb323,6,none⟩ = some (.string x324006_3) := (blk_cell BK323.out 6).trans rfl;have xf71_6 := blk_frozen BK323.out 6;have xq72_7 : wc.cell? ⟨gb323,7,none⟩ = some (.string x324007_3) := (blk_cell BK323.out 7).trans rfl;have xf72_7 := blk_frozen BK323.out 7)|(go_at_call 40;(with_reducible refine (spec_indexOf.calls kj3 x1_3 91 t328 _ A50.out).mono ?_);rintro e w' ⟨rfl,⟨nd,rfl⟩⟩;(try (rw [drewN_self wc];generalize hq_ : World.drewN wc _ = wc;have n0_ : Aside0 (wc.heap[gb322]? = some (.cells #[.string a0_0,.string a0_1,.string a0_2,.string a0_3,.string a0_4,.string a0_5,.string x323006_3,.string x323007_3] 37 (0,0))) := ⟨by rw [← hq_];exact (bk_ BK322.out)⟩;have n1_ : Aside0 (wc.heap[gb323]? = some (.cells #[.string x324000_3,.string x324001_3,.string x324002_3,.string x324003_3,.string x324004_3,.string x324005_3,.string x324006_3,.string x324007_3] 37 (0,0))) := ⟨by rw [← hq_];exact (bk_ BK323.out)⟩;have n2_ : Aside0 (Below w.heap.size w wc) := ⟨by rw [← hq_];exact (bl2_ HB.out GE322.out GE323.out)⟩;clear BK322 BK323 HB hq_;have BK322 := n0_;have BK323 := n1_;have HB := n2_;clear n0_ n1_ n2_));have xq73_0 : wc.cell? ⟨gb322,0,none⟩ = some (.string a0_0) := (blk_cell BK322.out 0).trans rfl;have xf73_0 := blk_frozen BK322.out 0;have xq74_1 : wc.cell? ⟨gb322,1,none⟩ = some (.string a0_1) := (blk_cell BK322.out 1).trans rfl;have xf74_1 := blk_frozen BK322.out 1;have xq75_2 : wc.cell? ⟨gb322,2,none⟩ = some (.string a0_2) := (blk_cell BK322.out 2).trans rfl;have xf75_2 := blk_frozen BK322.out 2;have xq76_3 : wc.cell? ⟨gb322,3,none⟩ = some (.string a0_3) := (blk_cell BK322.out 3).trans rfl;have xf76_3 := blk_frozen BK322.out 3;have xq77_4 : wc.cell? ⟨gb322,4,none⟩ = some (.string a0_4) := (blk_cell BK322.out 4).trans rfl;have xf77_4 := blk_frozen BK322.out 4;have xq78_5 : wc.cell? ⟨gb322,5,none⟩ = some (.string a0_5) := (blk_cell BK322.out 5).trans rfl;have xf78_5 := blk_frozen BK322.out 5;have xq79_6 : wc.cell? ⟨gb322,6,none⟩ = some (.string x323006_3) := (blk_cell BK322.out 6).trans rfl;have xf79_6 := blk_frozen BK322.out 6;have xq80_7 : wc.cell? ⟨gb322,7,none⟩ = some (.string x323007_3) := (blk_cell BK322.out 7).trans rfl;have xf80_7 := blk_frozen BK322.out 7;have xq81_0 : wc.cell? ⟨gb323,0,none⟩ = some (.string x324000_3) := (blk_cell BK323.out 0).trans rfl;have xf81_0 := blk_frozen BK323.out 0;have xq82_1 : wc.cell? ⟨gb323,1,none⟩ = some (.string x324001_3) := (blk_cell BK323.out 1).trans rfl;have xf82_1 := blk_frozen BK323.out 1;have xq83_2 : wc.cell? ⟨gb323,2,none⟩ = some (.string x324002_3) := (blk_cell BK323.out 2).trans rfl;have xf83_2 := blk_frozen BK323.out 2;have xq84_3 : wc.cell? ⟨gb323,3,none⟩ = some (.string x324003_3) := (blk_cell BK323.out 3).trans rfl;have xf84_3 := blk_frozen BK323.out 3;have xq85_4 : wc.cell? ⟨gb323,4,none⟩ = some (.string x324004_3) := (blk_cell BK323.out 4).trans rfl;have xf85_4 := blk_frozen BK323.out 4;have xq86_5 : wc.cell? ⟨gb323,5,none⟩ = some (.string x324005_3) := (blk_cell BK323.out 5).trans rfl;have xf86_5 := blk_frozen BK323.out 5;have xq87_6 : wc.cell? ⟨gb323,6,none⟩ = some (.string x324006_3) := (blk_cell BK323.out 6).trans rfl;have xf87_6 := blk_frozen BK323.out 6;have xq88_7 : wc.cell? ⟨gb323,7,none⟩ = some (.string x324007_3) := (blk_cell BK323.out 7).trans rfl;have xf88_7 := blk_frozen BK323.out 7)|(go_at_call 40;(with_reducible refine (spec_indexOf.calls kj3 x1_3 93 t329 _ A55.out).mono ?_);rintro e w' ⟨rfl,⟨nd,rfl⟩⟩;(try (rw [drewN_self wc];generalize hq_ : World.drewN wc _ = wc;have n0_ : Aside0 (wc.heap[gb322]? = some (.cells #[.string a0_0,.string a0_1,.string a0_2,.string a0_3,.string a0_4,.string a0_5,.string x323006_3,.string x323007_3] 37 (0,0))) := ⟨by rw [← hq_];exact (bk_ BK322.out)⟩;have n1_ : Aside0 (wc.heap[gb323]? = some (.cells #[.string x324000_3,.string x324001_3,.string x324002_3,.string x324003_3,.string x324004_3,.string x324005_3,.string x324006_3,.string x324007_3] 37 (0,0))) := ⟨by rw [← hq_];exact (bk_ BK323.out)⟩;have n2_ : Aside0 (Below w.heap.size w wc) := ⟨by rw [← hq_];exact (bl2_ HB.out GE322.out GE323.out)⟩;clear BK322 BK323 HB hq_;have BK322 := n0_;have BK323 := n1_;have HB := n2_;clear n0_ n1_ n2_));have hcz59_0 : wc.cell? ⟨gb323,0,none⟩ = some (.string x324000_3) := (blk_cell BK323.out 0).trans rfl;have hcz59_1 : wc.cell? ⟨gb323,1,none⟩ = some (.string x324001_3) := (blk_cell BK323.out 1).trans rfl;have hcz59_2 : wc.cell? ⟨gb323,2,none⟩ = some (.string x324002_3) := (blk_cell BK323.out 2).trans rfl;have hcz59_3 : wc.cell? ⟨gb323,3,none⟩ = some (.string x324003_3) := (blk_cell BK323.out 3).trans rfl;have hcz59_4 : wc.cell? ⟨gb323,4,none⟩ = some (.string x324004_3) := (blk_cell BK323.out 4).trans rfl;have hcz59_5 : wc.cell? ⟨gb323,5,none⟩ = some (.string x324005_3) := (blk_cell BK323.out 5).trans rfl;have hcz59_6 : wc.cell? ⟨gb323,6,none⟩ = some (.string x324006_3) := (blk_cell BK323.out 6).trans rfl;have hcz59_7 : wc.cell? ⟨gb323,7,none⟩ = some (.string x324007_3) := (blk_cell BK323.out 7).trans rfl;have hfz59_0 := blk_frozen BK323.out 0;have hfz59_1 := blk_frozen BK323.out 1;have hfz59_2 := blk_frozen BK323.out 2;have hfz59_3 := blk_frozen BK323.out 3;have hfz59_4 := blk_frozen BK323.out 4;have hfz59_5 := blk_frozen BK323.out 5;have hfz59_6 := blk_frozen BK323.out 6;have hfz59_7 := blk_frozen BK323.out 7;have xq89_0 : wc.cell? ⟨gb322,0,none⟩ = some (.string a0_0) := (blk_cell BK322.out 0).trans rfl;have xf89_0 := blk_frozen BK322.out 0;have xq90_1 : wc.cell? ⟨gb322,1,none⟩ = some (.string a0_1) := (blk_cell BK322.out 1).trans rfl;have xf90_1 := blk_frozen BK322.out 1;have xq91_2 : wc.cell? ⟨gb322,2,none⟩ = some (.string a0_2) := (blk_cell BK322.out 2).trans rfl;have xf91_2 := blk_frozen BK322.out 2;have xq92_3 : wc.cell? ⟨gb322,3,none⟩ = some (.string a0_3) := (blk_cell BK322.out 3).trans rfl;have xf92_3 := blk_frozen BK322.out 3;have xq93_4 : wc.cell? ⟨gb322,4,none⟩ = some (.string a0_4) := (blk_cell BK322.out 4).trans rfl;have xf93_4 := blk_frozen BK322.out 4;have xq94_5 : wc.cell? ⟨gb322,5,none⟩ = some (.string a0_5) := (blk_cell BK322.out 5).trans rfl;have xf94_5 := blk_frozen BK322.out 5;have xq95_6 : wc.cell? ⟨gb322,6,none⟩ = some (.string x323006_3) := (blk_cell BK322.out 6).trans rfl;have xf95_6 := blk_frozen BK322.out 6;have xq96_7 : wc.cell? ⟨gb322,7,none⟩ = some (.string x323007_3) := (blk_cell BK322.out 7).trans rfl;have xf96_7 := blk_frozen BK322.out 7))
      refine bodyPost_ret (results_ct rfl _ _ gb323 37 #[.string a0_0,.string a0_1,.string a0_2,.string a0_3,.string a0_4,.string a0_5,.string x323006_3,.string x323007_3] (0,0) _ rfl (by (with_reducible repeat (first|apply q1|apply q2|apply q3));refine blk_put (cs := #[.string a0_0,.string a0_1,.string a0_2,.string a0_3,.string a0_4,.string a0_5,.string x323006_3,.string x324007_3]) ?_ 7 _ rfl;(with_reducible repeat (first|apply q1|apply q2|apply q3));refine blk_put (cs := #[.string a0_0,.string a0_1,.string a0_2,.string a0_3,.string a0_4,.string a0_5,.string x324006_3,.string x324007_3]) ?_ 6 _ rfl;(with_reducible repeat (first|apply q1|apply q2|apply q3));refine blk_put (cs := #[.string a0_0,.string a0_1,.string a0_2,.string a0_3,.string a0_4,.string x324005_3,.string x324006_3,.string x324007_3]) ?_ 5 _ rfl;(with_reducible repeat (first|apply q1|apply q2|apply q3));refine blk_put (cs := #[.string a0_0,.string a0_1,.string a0_2,.string a0_3,.string x324004_3,.string x324005_3,.string x324006_3,.string x324007_3]) ?_ 4 _ rfl;(with_reducible repeat (first|apply q1|apply q2|apply q3));refine blk_put (cs := #[.string a0_0,.string a0_1,.string a0_2,.string x324003_3,.string x324004_3,.string x324005_3,.string x324006_3,.string x324007_3]) ?_ 3 _ rfl;(with_reducible repeat (first|apply q1|apply q2|apply q3));refine blk_put (cs := #[.string a0_0,.string a0_1,.string x324002_3,.string x324003_3,.string x324004_3,.string x324005_3,.string x324006_3,.string x324007_3]) ?_ 2 _ rfl;(with_reducible repeat (first|apply q1|apply q2|apply q3));refine blk_put (cs := #[.string a0_0,.string x324001_3,.string x324002_3,.string x324003_3,.string x324004_3,.string x324005_3,.string x324006_3,.string x324007_3]) ?_ 1 _ rfl;(with_reducible repeat (first|apply q1|apply q2|apply q3));refine blk_put (cs := #[.string x324000_3,.string x324001_3,.string x324002_3,.string x324003_3,.string x324004_3,.string x324005_3,.string x324006_3,.string x324007_3]) ?_ 0 _ rfl;(with_reducible repeat (first|apply q1|apply q2|apply q3));exact BK323.out) Try.underlying37 rfl (by kernel_rfl)) rfl ?_
      exact ⟨by first|rfl|(simp [errW_none,errW_some] <;> rfl)|(simp [*,errW_none,errW_some] <;> rfl),bl2_ HB.out GE322.out GE323.out⟩
     rw [if_neg c56] at H
     have c56b0 : decide (0 ≤ t329) = false := decide_eq_false c56
     clear c56
     replace H := Option.bind_eq_some_iff.mp H
     obtain ⟨t330,A600,H⟩ := H
     replace H : (some (a0_0,t330,a0_2,a0_3,a0_4,a0_5,x323006_3,x323007_3,1)) = some (r1,r2,r3,r4,r5,r6,r7,r8,r9) := H
     have A60 := Aside0.mk A600
     clear A600
     simp only [Option.some.injEq,Prod.mk.injEq] at H
     obtain ⟨rfl,rfl,rfl,rfl,rfl,rfl,rfl,rfl,rfl⟩ := H
     go_wp2_with (first|(go_at_call 40;(with_reducible refine (spec_indexOf.calls kj3 x1_3 64 t326 _ A38.out).mono ?_);rintro e w' ⟨rfl,⟨nd,rfl⟩⟩;(try (rw [drewN_self wc];generalize hq_ : World.drewN wc _ = wc;have n0_ : Aside0 (wc.heap[gb322]? = some (.cells #[.string a0_0,.string a0_1,.string a0_2,.string a0_3,.string a0_4,.string a0_5,.string x323006_3,.string x323007_3] 37 (0,0))) := ⟨by rw [← hq_];exact (bk_ BK322.out)⟩;have n1_ : Aside0 (wc.heap[gb323]? = some (.cells #[.string x324000_3,.string x324001_3,.string x324002_3,.string x324003_3,.string x324004_3,.string x324005_3,.string x324006_3,.string x324007_3] 37 (0,0))) := ⟨by rw [← hq_];exact (bk_ BK323.out)⟩;have n2_ : Aside0 (Below w.heap.size w wc) := ⟨by rw [← hq_];exact (bl2_ HB.out GE322.out GE323.out)⟩;clear BK322 BK323 HB hq_;have BK322 := n0_;have BK323 := n1_;have HB := n2_;clear n0_ n1_ n2_));have hnb61 := NB322_323.out;have hnc61 := NB323_322.out;have hcz62_0 : wc.cell? ⟨gb322,0,none⟩ = some (.string a0_0) := (blk_cell BK322.out 0).trans rfl;have hcz62_1 : wc.cell? ⟨gb322,1,none⟩ = some (.string a0_1) := (blk_cell BK322.out 1).trans rfl;have hcz62_2 : wc.cell? ⟨gb322,2,none⟩ = some (.string a0_2) := (blk_cell BK322.out 2).trans rfl;have hcz62_3 : wc.cell? ⟨gb322,3,none⟩ = some (.string a0_3) := (blk_cell BK322.out 3).trans rfl;have hcz62_4 : wc.cell? ⟨gb322,4,none⟩ = some (.string a0_4) := (blk_cell BK322.out 4).trans rfl;have hcz62_5 : wc.cell? ⟨gb322,5,none⟩ = some (.string a0_5) := (blk_cell BK322.out 5).trans rfl;have hcz62_6 : wc.cell? ⟨gb322,6,none⟩ = some (.string x323006_3) := (blk_cell BK322.out 6).trans rfl;have hcz62_7 : wc.cell? ⟨gb322,7,none⟩ = some (.string x323007_3) := (blk_cell BK322.out 7).trans rfl;have hfz62_0 := blk_frozen BK322.out 0;have hfz62_1 := blk_frozen BK322.out 1;have hfz62_2 := blk_frozen BK322.out 2;have hfz62_3 := blk_frozen BK322.out 3;have hfz62_4 := blk_frozen BK322.out 4;have hfz62_5 := blk_frozen BK322.out 5;have hfz62_6 := blk_frozen BK322.out 6;have hfz62_7 := blk_frozen BK322.out 7;have xq97_0 : wc.cell? ⟨gb323,0,none⟩ = some (.string x324000_3) := (blk_cell BK323.out 0).trans rfl;have xf97_0 := blk_frozen BK323.out 0;have xq98_1 : wc.cell? ⟨gb323,1,none⟩ = some (.string x324001_3) := (blk_cell BK323.out 1).trans rfl;have xf98_1 := blk_frozen BK323.out 1;have xq99_2 : wc.cell? ⟨gb323,2,none⟩ = some (.string x324002_3) := (blk_cell BK323.out 2).trans rfl;have xf99_2 := blk_frozen BK323.out 2;have xq100_3 : wc.cell? ⟨gb323,3,none⟩ = some (.string x324003_3) := (blk_cell BK323.out 3).trans rfl;have xf100_3 := blk_frozen BK323.out 3;have xq101_4 : wc.cell? ⟨gb323,4,none⟩ = some (.string x324004_3) := (blk_cell BK323.out 4).trans rfl;have xf101_4 := blk_frozen BK323.out 4;have xq102_5 : wc.cell? ⟨gb323,5,none⟩ = some (.string x324005_3) := (blk_cell BK323.out 5).trans rfl;have xf102_5 := blk_frozen BK323.out 5;have xq103_6 : wc.cell? ⟨gb323,6,none⟩ = some (.string x324006_3) := (blk_cell BK323.out 6).trans rfl;have xf103_6 := blk_frozen BK323.out 6;have xq104_7 : wc.cell? ⟨gb323,7,none⟩ = some (.string x324007_3) := (blk_cell BK323.out 7).trans rfl;have xf104_7 := blk_frozen BK323.out 7)|(go_at_call 40;(with_reducible refine (spec_indexOf.calls kj3 ((x323006_3 ++ x323007_3) ++ x1_3) 37 t327 _ A45.out).mono ?_);rintro e w' ⟨rfl,⟨nd,rfl⟩⟩;(try (rw [drewN_self wc];generalize hq_ : World.drewN wc _ = wc;have n0_ : Aside0 (wc.heap[gb322]? = some (.cells #[.string a0_0,.string a0_1,.string a0_2,.string a0_3,.string a0_4,.string a0_5,.string x323006_3,.string x323007_3] 37 (0,0))) := ⟨by rw [← hq_];exact (bk_ BK322.out)⟩;have n1_ : Aside0 (wc.heap[gb323]? = some (.cells #[.string x324000_3,.string x324001_3,.string x324002_3,.string x324003_3,.string x324004_3,.string x324005_3,.string x324006_3,.string x324007_3] 37 (0,0))) := ⟨by rw [← hq_];exact (bk_ BK323.out)⟩;have n2_ : Aside0 (Below w.heap.size w wc) := ⟨by rw [← hq_];exact (bl2_ HB.out GE322.out GE323.out)⟩;clear BK322 BK323 HB hq_;have BK322 := n0_;have BK323 := n1_;have HB := n2_;clear n0_ n1_ n2_));have xq105_0 : wc.cell? ⟨gb322,0,none⟩ = some (.string a0_0) := (blk_cell BK322.out 0).trans rfl;have xf105_0 := blk_frozen BK322.out 0;have xq106_1 : wc.cell? ⟨gb322,1,none⟩ = some (.string a0_1) := (blk_cell BK322.out 1).trans rfl;have xf106_1 := blk_frozen BK322.out 1;have xq107_2 : wc.cell? ⟨gb322,2,none⟩ = some (.string a0_2) := (blk_cell BK322.out 2).trans rfl;have xf107_2 := blk_frozen BK322.out 2;have xq108_3 : wc.cell? ⟨gb322,3,none⟩ = some (.string a0_3) := (blk_cell BK322.out 3).trans rfl;have xf108_3 := blk_frozen BK322.out 3;have xq109_4 : wc.cell? ⟨gb322,4,none⟩ = some (.string a0_4) := (blk_cell BK322.out 4).trans rfl;have xf109_4 := blk_frozen BK322.out 4;have xq110_5 : wc.cell? ⟨gb322,5,none⟩ = some (.string a0_5) := (blk_cell BK322.out 5).trans rfl;have xf110_5 := blk_frozen BK322.out 5;have xq111_6 : wc.cell? ⟨gb322,6,none⟩ = some (.string x323006_3) := (blk_cell BK322.out 6).trans rfl;have xf111_6 := blk_frozen BK322.out 6;have xq112_7 : wc.cell? ⟨gb322,7,none⟩ = some (.string x323007_3) := (blk_cell BK322.out 7).trans rfl;have xf112_7 := blk_frozen BK322.out 7;have xq113_0 : wc.cell? ⟨gb323,0,none⟩ = some (.string x324000_3) := (blk_cell BK323.out 0).trans rfl;have xf113_0 := blk_frozen BK323.out 0;have xq114_1 : wc.cell? ⟨gb323,1,none⟩ = some (.string x324001_3) := (blk_cell BK323.out 1).trans rfl;have xf114_1 := blk_frozen BK323.out 1;have xq115_2 : wc.cell? ⟨gb323,2,none⟩ = some (.string x324002_3) := (blk_cell BK323.out 2).trans rfl;have xf115_2 := blk_frozen BK323.out 2;have xq116_3 : wc.cell? ⟨gb323,3,none⟩ = some (.string x324003_3) := (blk_cell BK323.out 3).trans rfl;have xf116_3 := blk_frozen BK323.out 3;have xq117_4 : wc.cell? ⟨gb323,4,none⟩ = some (.string x324004_3) := (blk_cell BK323.out 4).trans rfl;have xf117_4 := blk_frozen BK323.out 4;have xq118_5 : wc.cell? ⟨gb323,5,none⟩ = some (.string x324005_3) := (blk_cell BK323.out 5).trans rfl;have xf118_5 := blk_frozen BK323.out 5;have xq119_6 : wc.cell? ⟨gb323,6,none⟩ = some (.string x324006_3) := (blk_cell BK323.out 6).trans rfl;have xf119_6 := blk_frozen BK323.out 6;have xq120_7 : wc.cell? ⟨gb323,7,none⟩ = some (.string x324007_3) := (blk_cell BK323.out 7).trans rfl;have xf120_7 := blk_frozen BK323.out 7)|(go_at_call 40;(with_reducible refine (spec_indexOf.calls kj3 x1_3 91 t328 _ A50.out).mono ?_);rintro e w' ⟨rfl,⟨nd,rfl⟩⟩;(try (rw [drewN_self wc];generalize hq_ : World.drewN wc _ = wc;have n0_ : Aside0 (wc.heap[gb322]? = some (.cells #[.string a0_0,.string a0_1,.string a0_2,.string a0_3,.string a0_4,.string a0_5,.string x323006_3,.string x323007_3] 37 (0,0))) := ⟨by rw [← hq_];exact (bk_ BK322.out)⟩;have n1_ : Aside0 (wc.heap[gb323]? = some (.cells #[.string x324000_3,.string x324001_3,.string x324002_3,.string x324003_3,.string x324004_3,.string x324005_3,.string x324006_3,.string x324007_3] 37 (0,0))) := ⟨by rw [← hq_];exact (bk_ BK323.out)⟩;have n2_ : Aside0 (Below w.heap.size w wc) := ⟨by rw [← hq_];exact (bl2_ HB.out GE322.out GE323.out)⟩;clear BK322 BK323 HB hq_;have BK322 := n0_;have BK323 := n1_;have HB := n2_;clear n0_ n1_ n2_));have xq121_0 : wc.cell? ⟨gb322,0,none⟩ = some (.string a0_0) := (blk_cell BK322.out 0).trans rfl;have xf121_0 := blk_frozen BK322.out 0;have xq122_1 : wc.cell? ⟨gb322,1,none⟩ = some (.string a0_1) := (blk_cell BK322.out 1).trans rfl;have xf122_1 := blk_frozen BK322.out 1;have xq123_2 : wc.cell? ⟨gb322,2,none⟩ = some (.string a0_2) := (blk_cell BK322.out 2).trans rfl;have xf123_2 := blk_frozen BK322.out 2;have xq124_3 : wc.cell? ⟨gb322,3,none⟩ = some (.string a0_3) := (blk_cell BK322.out 3).trans rfl;have xf124_3 := blk_frozen BK322.out 3;have xq125_4 : wc.cell? ⟨gb322,4,none⟩ = some (.string a0_4) := (blk_cell BK322.out 4).trans rfl;have xf125_4 := blk_frozen BK322.out 4;have xq126_5 : wc.cell? ⟨gb322,5,none⟩ = some (.string a0_5) := (blk_cell BK322.out 5).trans rfl;have xf126_5 := blk_frozen BK322.out 5;have xq127_6 : wc.cell? ⟨gb322,6,none⟩ = some (.string x323006_3) := (blk_cell BK322.out 6).trans rfl;have xf127_6 := blk_frozen BK322.out 6;have xq128_7 : wc.cell? ⟨gb322,7,none⟩ = some (.string x323007_3) := (blk_cell BK322.out 7).trans rfl;have xf128_7 := blk_frozen BK322.out 7;have xq129_0 : wc.cell? ⟨gb323,0,none⟩ = some (.string x324000_3) := (blk_cell BK323.out 0).trans rfl;have xf129_0 := blk_frozen BK323.out 0;have xq130_1 : wc.cell? ⟨gb323,1,none⟩ = some (.string x324001_3) := (blk_cell BK323.out 1).trans rfl;have xf130_1 := blk_frozen BK323.out 1;have xq131_2 : wc.cell? ⟨gb323,2,none⟩ = some (.string x324002_3) := (blk_cell BK323.out 2).trans rfl;have xf131_2 := blk_frozen BK323.out 2;have xq132_3 : wc.cell? ⟨gb323,3,none⟩ = some (.string x324003_3) := (blk_cell BK323.out 3).trans rfl;have xf132_3 := blk_frozen BK323.out 3;have xq133_4 : wc.cell? ⟨gb323,4,none⟩ = some (.string x324004_3) := (blk_cell BK323.out 4).trans rfl;have xf133_4 := blk_frozen BK323.out 4;have xq134_5 : wc.cell? ⟨gb323,5,none⟩ = some (.string x324005_3) := (blk_cell BK323.out 5).trans rfl;have xf134_5 := blk_frozen BK323.out 5;have xq135_6 : wc.cell? ⟨gb323,6,none⟩ = some (.string x324006_3) := (blk_cell BK323.out 6).trans rfl;have xf135_6 := blk_frozen BK323.out 6;have xq136_7 : wc.cell? ⟨gb323,7,none⟩ = some (.string x324007_3) := (blk_cell BK323.out 7).trans rfl;have xf136_7 := blk_frozen BK323.out 7)|(go_at_call 40;(with_reducible refine (spec_indexOf.calls kj3 x1_3 93 t329 _ A55.out).mono ?_);rintro e w' ⟨rfl,⟨nd,rfl⟩⟩;(try (rw [drewN_self wc];generalize hq_ : World.drewN wc _ = wc;have n0_ : Aside0 (wc.heap[gb322]? = some (.cells #[.string a0_0,.string a0_1,.string a0_2,.string a0_3,.string a0_4,.string a0_5,.string x323006_3,.string x323007_3] 37 (0,0))) := ⟨by rw [← hq_];exact (bk_ BK322.out)⟩;have n1_ : Aside0 (wc.heap[gb323]? = some (.cells #[.string x324000_3,.string x324001_3,.string x324002_3,.string x324003_3,.string x324004_3,.string x324005_3,.string x324006_3,.string x324007_3] 37 (0,0))) := ⟨by rw [← hq_];exact (bk_ BK323.out)⟩;have n2_ : Aside0 (Below w.heap.size w wc) := ⟨by rw [← hq_];exact (bl2_ HB.out GE322.out GE323.out)⟩;clear BK322 BK323 HB hq_;have BK322 := n0_;have BK323 := n1_;have HB := n2_;clear n0_ n1_ n2_)))|((with_reducible refine gate_callee (f := 42) rfl ?_);refine goesL_ (some 71) rfl rfl Try.func42 (by kernel_rfl) rfl #[.string x1_3] rfl (by (try simp only [List.map_toArray,List.map_cons,List.map_nil]);first|done|rfl|(simp only [List.length_drop,List.length_take];rfl)) ?_;(with_reducible refine (spec_Lower.calls x1_3 t330 _ A60.out).mono ?_);rintro e w63 ⟨rfl,hb⟩;refine ⟨_,rfl,?_⟩;have n0_ := Aside0.mk (blk_below (g := gb322) (bk_ BK322.out) hb);have n1_ := Aside0.mk (blk_below (g := gb323) (bk_ BK323.out) hb);have n2_ := Aside0.mk (below_step (bl2_ HB.out GE322.out GE323.out) hb);clear BK322;clear BK323;clear HB;have BK322 := n0_;have BK323 := n1_;have HB := n2_;clear n0_ n1_ n2_;(try clear hb);(try clear hb2);(try clear hk);(try clear hi);have hcz64_0 : w63.cell? ⟨gb322,0,none⟩ = some (.string a0_0) := (blk_cell BK322.out 0).trans rfl;have hcz64_1 : w63.cell? ⟨gb322,1,none⟩ = some (.string a0_1) := (blk_cell BK322.out 1).trans rfl;have hcz64_2 : w63.cell? ⟨gb322,2,none⟩ = some (.string a0_2) := (blk_cell BK322.out 2).trans rfl;have hcz64_3 : w63.cell? ⟨gb322,3,none⟩ = some (.string a0_3) := (blk_cell BK322.out 3).trans rfl;have hcz64_4 : w63.cell? ⟨gb322,4,none⟩ = some (.string a0_4) := (blk_cell BK322.out 4).trans rfl;have hcz64_5 : w63.cell? ⟨gb322,5,none⟩ = some (.string a0_5) := (blk_cell BK322.out 5).trans rfl;have hcz64_6 : w63.cell? ⟨gb322,6,none⟩ = some (.string x323006_3) := (blk_cell BK322.out 6).trans rfl;have hcz64_7 : w63.cell? ⟨gb322,7,none⟩ = some (.string x323007_3) := (blk_cell BK322.out 7).trans rfl;have hfz64_0 := blk_frozen BK322.out 0;have hfz64_1 := blk_frozen BK322.out 1;have hfz64_2 := blk_frozen BK322.out 2;have hfz64_3 := blk_frozen BK322.out 3;have hfz64_4 := blk_frozen BK322.out 4;have hfz64_5 := blk_frozen BK322.out 5;have hfz64_6 := blk_frozen BK322.out 6;have hfz64_7 := blk_frozen BK322.out 7;have hcz65_0 : w63.cell? ⟨gb323,0,none⟩ = some (.string x324000_3) := (blk_cell BK323.out 0).trans rfl;have hcz65_1 : w63.cell? ⟨gb323,1,none⟩ = some (.string x324001_3) := (blk_cell BK323.out 1).trans rfl;have hcz65_2 : w63.cell? ⟨gb323,2,none⟩ = some (.string x324002_3) := (blk_cell BK323.out 2).trans rfl;have hcz65_3 : w63.cell? ⟨gb323,3,none⟩ = some (.string x324003_3) := (blk_cell BK323.out 3).trans rfl;have hcz65_4 : w63.cell? ⟨gb323,4,none⟩ = some (.string x324004_3) := (blk_cell BK323.out 4).trans rfl;have hcz65_5 : w63.cell? ⟨gb323,5,none⟩ = some (.string x324005_3) := (blk_cell BK323.out 5).trans rfl;have hcz65_6 : w63.cell? ⟨gb323,6,none⟩ = some (.string x324006_3) := (blk_cell BK323.out 6).trans rfl;have hcz65_7 : w63.cell? ⟨gb323,7,none⟩ = some (.string x324007_3) := (blk_cell BK323.out 7).trans rfl;have hfz65_0 := blk_frozen BK323.out 0;have hfz65_1 := blk_frozen BK323.out 1;have hfz65_2 := blk_frozen BK323.out 2;have hfz65_3 := blk_frozen BK323.out 3;have hfz65_4 := blk_frozen BK323.out 4;have hfz65_5 := blk_frozen BK323.out 5;have hfz65_6 := blk_frozen BK323.out 6;have hfz65_7 := blk_frozen BK323.out 7))
     refine bodyPost_ret (results_ct rfl _ _ gb323 37 #[.string a0_0,.string t330,.string a0_2,.string a0_3,.string a0_4,.string a0_5,.string x323006_3,.string x323007_3] (0,0) _ rfl (by (with_reducible repeat (first|apply q1|apply q2|apply q3));refine blk_put (cs := #[.string a0_0,.string t330,.string a0_2,.string a0_3,.string a0_4,.string a0_5,.string x323006_3,.string x324007_3]) ?_ 7 _ rfl;(with_reducible repeat (first|apply q1|apply q2|apply q3));refine blk_put (cs := #[.string a0_0,.string t330,.string a0_2,.string a0_3,.string a0_4,.string a0_5,.string x324006_3,.string x324007_3]) ?_ 6 _ rfl;(with_reducible repeat (first|apply q1|apply q2|apply q3));refine blk_put (cs := #[.string a0_0,.string t330,.string a0_2,.string a0_3,.string a0_4,.string x324005_3,.string x324006_3,.string x324007_3]) ?_ 5 _ rfl;(with_reducible repeat (first|apply q1|apply q2|apply q3));refine blk_put (cs := #[.string a0_0,.string t330,.string a0_2,.string a0_3,.string x324004_3,.string x324005_3,.string x324006_3,.string x324007_3]) ?_ 4 _ rfl;(with_reducible repeat (first|apply q1|apply q2|apply q3));refine blk_put (cs := #[.string a0_0,.string t330,.string a0_2,.string x324003_3,.string x324004_3,.string x324005_3,.string x324006_3,.string x324007_3]) ?_ 3 _ rfl;(with_reducible repeat (first|apply q1|apply q2|apply q3));refine blk_put (cs := #[.string a0_0,.string t330,.string x324002_3,.string x324003_3,.string x324004_3,.string x324005_3,.string x324006_3,.string x324007_3]) ?_ 2 _ rfl;(with_reducible repeat (first|apply q1|apply q2|apply q3));refine blk_put (cs := #[.string a0_0,.string x324001_3,.string x324002_3,.string x324003_3,.string x324004_3,.string x324005_3,.string x324006_3,.string x324007_3]) ?_ 1 _ rfl;(with_reducible repeat (first|apply q1|apply q2|apply q3));refine blk_put (cs := #[.string x324000_3,.string x324001_3,.string x324002_3,.string x324003_3,.string x324004_3,.string x324005_3,.string x324006_3,.string x324007_3]) ?_ 0 _ rfl;(with_reducible repeat (first|apply q1|apply q2|apply q3));refine blk_far ?_ NB323_322.out _;(with_reducible repeat (first|apply q1|apply q2|apply q3));exact BK323.out) Try.underlying37 rfl (by kernel_rfl)) rfl ?_
     exact ⟨by first|rfl|(simp [errW_none,errW_some] <;> rfl)|(simp [*,errW_none,errW_some] <;> rfl),bl2_ HB.out GE322.out GE323.out⟩
    rw [if_neg c44] at H
    exact absurd H (by simp)
   rw [if_neg c43] at H
   exact absurd H (by simp)
end Go.Proofs.Ytbkeakeldegkeaa.Q
end
