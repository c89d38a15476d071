/- FnUriSays: the law's function, called with any arguments, returns true and leaves its arguments as they were: every input, no condition. Part 12 of 16. -/
import Derived.Test.YtbkeakeldegkeaaZFnUriSays1
import Derived.Test.YtbkeakeldegkeaaZFnUriSays10
set_option linter.unusedVariables false
set_option linter.unusedSimpArgs false
section
namespace Go.Proofs.Ytbkeakeldegkeaa.Q
open Go.RowKit Go.Proofs.YtbkeakeldegkeaaW.PrintWords Go.Proofs.YtbkeakeldegkeaaW.PrintLast Go.Proofs.YtbkeakeldegkeaaW.PrintMore
attribute [local go_sem] max2_int min2_int max_two min_two max_three min_three max_four min_four
mutual
def spec_Cleaned.j0 : Nat → List ByteArray → ByteArray → Bool → Option (ByteArray × Int)
 | 0,_,_,_ => none
 | k + 1,x4,x5,x25 => if x25 = true then (some (⟨#[]⟩,2)) else (if 0 ≤ (wrap64 ((x4.length : Int) - 1)) then (if (wrap64 ((x4.length : Int) - 1)) ≤ (x4.length : Int) then ((some (x4.take ((wrap64 ((x4.length : Int) - 1)) : Int).toNat : List ByteArray)).bind fun y344 => (spec_Cleaned.l0 k x5 ([] : List ByteArray) y344 (y344.length : Int) 0)) else (none)) else (none))
def spec_Cleaned.l0 : Nat → ByteArray → List ByteArray → List ByteArray → Int → Int → Option (ByteArray × Int)
 | 0,_,_,_,_,_ => none
 | k + 1,x5,x6,x30,x31,x32 => if x32 < x31 then (if 0 ≤ x32 then (if x32 < (x30.length : Int) then (if (rdOf ByteArray.empty x30 x32).toList = ([] : List UInt8) then (spec_Cleaned.j2 k x5 x6 (rdOf ByteArray.empty x30 x32) x30 x31 x32 (rdOf ByteArray.empty x30 x32) ((rdOf ByteArray.empty x30 x32).toList == ([] : List UInt8))) else (spec_Cleaned.j2 k x5 x6 (rdOf ByteArray.empty x30 x32) x30 x31 x32 (rdOf ByteArray.empty x30 x32) ((rdOf ByteArray.empty x30 x32).toList == ([46] : List UInt8)))) else (none)) else (none)) else (spec_Cleaned.l1 k x5 ⟨#[47]⟩ x6 (x6.length : Int) 0)
def spec_Cleaned.j2 : Nat → ByteArray → List ByteArray → ByteArray → List ByteArray → Int → Int → ByteArray → Bool → Option (ByteArray × Int)
 | 0,_,_,_,_,_,_,_,_ => none
 | k + 1,x5,x6,x8,x30,x31,x32,x36,x41 => if x41 = true then (spec_Cleaned.l0 k x5 x6 x30 x31 (wrap64 (x32 + 1))) else (if x36.toList = ([46,46] : List UInt8) then (if 0 ≤ (mx (wrap64 ((x6.length : Int) - 1)) 0) then (if (mx (wrap64 ((x6.length : Int) - 1)) 0) ≤ (x6.length : Int) then (spec_Cleaned.l0 k x5 (x6.take ((mx (wrap64 ((x6.length : Int) - 1)) 0) : Int).toNat) x30 x31 (wrap64 (x32 + 1))) else (none)) else (none)) else (if x6.length < 8796093022208 then (spec_Cleaned.l0 k x5 (x6 ++ [x8]) x30 x31 (wrap64 (x32 + 1))) else (none)))
def spec_Cleaned.l1 : Nat → ByteArray → ByteArray → List ByteArray → Int → Int → Option (ByteArray × Int)
 | 0,_,_,_,_,_ => none
 | k + 1,x5,x9,x53,x54,x55 => if x55 < x54 then (if 0 ≤ x55 then (if x55 < (x53.length : Int) then (if (rdOf ByteArray.empty x53 x55).size + 1 ≤ 9223372036854775807 then (if x9.size + ((rdOf ByteArray.empty x53 x55).size + 1) ≤ 9223372036854775807 then (spec_Cleaned.l1 k x5 (x9 ++ ((rdOf ByteArray.empty x53 x55) ++ (⟨#[47]⟩ : ByteArray))) x53 x54 (wrap64 (x55 + 1))) else (none)) else (none)) else (none)) else (none)) else (if x9.size + x5.size ≤ 9223372036854775807 then (some (x9 ++ x5,1)) else (none))
end
def spec_Cleaned.f (k : Nat) (a0 : ByteArray) : Option (ByteArray × Int) := (spec_split.f k a0 47).bind fun t340 => (if 0 ≤ (wrap64 ((t340.length : Int) - 1)) then (if (wrap64 ((t340.length : Int) - 1)) < (t340.length : Int) then (if (rdOf ByteArray.empty t340 (wrap64 ((t340.length : Int) - 1))).toList = ([46] : List UInt8) then (spec_Cleaned.j0 k t340 (rdOf ByteArray.empty t340 (wrap64 ((t340.length : Int) - 1))) true) else (spec_Cleaned.j0 k t340 (rdOf ByteArray.empty t340 (wrap64 ((t340.length : Int) - 1))) ((rdOf ByteArray.empty t340 (wrap64 ((t340.length : Int) - 1))).toList == ([46,46] : List UInt8)))) else (none)) else (none))
set_option maxHeartbeats 8000000 in
set_option maxRecDepth 100000 in
theorem spec_Cleaned.calls (k : Nat) (a0 : ByteArray) (r1 : ByteArray) (r2 : Int) (w : World) (h : spec_Cleaned.f k a0 = some (r1,r2)) :
  Calls Try.prog 54 #[.string a0] w fun e w' => e = .returned (.tuple #[.string r1,.int .i64 r2]) ∧ Below w.heap.size w w' := by
 have HB := Aside0.mk (Below.refl w.heap.size w)
 have H : ((spec_split.f k a0 47).bind fun t340 => (if 0 ≤ (wrap64 ((t340.length : Int) - 1)) then (if (wrap64 ((t340.length : Int) - 1)) < (t340.length : Int) then (if (rdOf ByteArray.empty t340 (wrap64 ((t340.length : Int) - 1))).toList = ([46] : List UInt8) then (spec_Cleaned.j0 k t340 (rdOf ByteArray.empty t340 (wrap64 ((t340.length : Int) - 1))) true) else (spec_Cleaned.j0 k t340 (rdOf ByteArray.empty t340 (wrap64 ((t340.length : Int) - 1))) ((rdOf ByteArray.empty t340 (wrap64 ((t340.length : Int) - 1))).toList == ([46,46] : List UInt8)))) else (none)) else (none))) = some (r1,r2) := h
 clear h
 replace H := Option.bind_eq_some_iff.mp H
 obtain ⟨t340,A20,H⟩ := H
 replace H : (if 0 ≤ (wrap64 ((t340.length : Int) - 1)) then (if (wrap64 ((t340.length : Int) - 1)) < (t340.length : Int) then (if (rdOf ByteArray.empty t340 (wrap64 ((t340.length : Int) - 1))).toList = ([46] : List UInt8) then (spec_Cleaned.j0 k t340 (rdOf ByteArray.empty t340 (wrap64 ((t340.length : Int) - 1))) true) else (spec_Cleaned.j0 k t340 (rdOf ByteArray.empty t340 (wrap64 ((t340.length : Int) - 1))) ((rdOf ByteArray.empty t340 (wrap64 ((t340.length : Int) - 1))).toList == ([46,46] : List UInt8)))) else (none)) else (none)) = some (r1,r2) := H
 have A2 := Aside0.mk A20
 clear A20
 obtain ⟨ji3,hji3⟩ : ∃ j_ : Int,(wrap64 ((t340.length : Int) - 1)) = j_ := ⟨_,rfl⟩
 replace H : (if 0 ≤ (ji3) then (if (ji3) < (t340.length : Int) then (if (rdOf ByteArray.empty t340 (ji3)).toList = ([46] : List UInt8) then (spec_Cleaned.j0 k t340 (rdOf ByteArray.empty t340 (ji3)) true) else (spec_Cleaned.j0 k t340 (rdOf ByteArray.empty t340 (ji3)) ((rdOf ByteArray.empty t340 (ji3)).toList == ([46,46] : List UInt8)))) else (none)) else (none)) = some (r1,r2) := by first|(rw [hji3] at H;exact H)|(simp only [hji3] at H ⊢;exact H)
 (try rw [hji3] at A2)
 have hji3w : (IntKind.i64.wrap ((t340.length : Int) - 1)) = ji3 := (i64_w _).trans hji3
 by_cases c4 : 0 ≤ (ji3)
 ·
  rw [if_pos c4] at H
  have c4b0 : decide (0 ≤ (ji3)) = true := decide_eq_true c4
  clear c4
  by_cases c5 : (ji3) < (t340.length : Int)
  ·
   rw [if_pos c5] at H
   have c5b0 : decide ((ji3) < (t340.length : Int)) = true := decide_eq_true c5
   clear c5
   have HC6 := Aside0.mk H
   clear H
   go_enter Try.func54,Try.ntmps54
   go_upto_region 3 with (first|((with_reducible refine gate_callee (f := 44) rfl ?_);refine goesL_ (some 13) rfl rfl Try.func44 (by kernel_rfl) rfl #[.string a0,.int .u8 47] rfl (by (try simp only [List.map_toArray,List.map_cons,List.map_nil]);first|done|rfl|(simp only [List.length_drop,List.length_take];rfl)) ?_;(with_reducible refine (spec_split.calls k a0 47 t340 _ A2.out).mono ?_);rintro e w7 ⟨v341,rfl,ho0,hb⟩;refine ⟨_,rfl,?_⟩;have n0_ := Aside0.mk (Kd.R_lower ho0 (below_size (bl_ HB.out)));have n1_ := Aside0.mk (below_step (bl_ HB.out) hb);clear HB;have HO342 := n0_;have HB := n1_;clear n0_ n1_;(try clear hb);(try clear hb2);(try clear hk);(try clear hi);(try clear ho0);obtain ⟨Ao8,co8,eo8⟩ := Kd.R_slice HO342.out;subst eo8;have p343 : 0 ≤ ((ji3) : Int) := odt_;have q343 : (ji3) < (t340.length : Int) := odt_;obtain ⟨ad343,e343,hx343_0⟩ := Kd.at_string (Kd.R_reads' HO342.out).2.2 (ji3) p343 q343;cases e343;replace p343 := eq_true p343;replace q343 := eq_true q343))
   (try simp only [Act.put,List.setIfInBounds_toArray,List.set_cons_zero,List.set_cons_succ])
   go_cut [25] (fun v25 wc => ∃ (kq : Nat) (x25_5 : Bool),v25 = .bool x25_5 ∧ Aside0 (spec_Cleaned.j0 kq t340 (rdOf ByteArray.empty t340 (ji3)) x25_5 = some (r1,r2)) ∧ Aside0 (kq ≤ k) ∧ Aside0 (Kd.R Kd.string 9 wc w.heap.size (fun _ => True) (.slice (some ad343) t340.length co8) t340) ∧ Aside0 (Below w.heap.size w wc))
   case first =>
    have H := HC6.out
    clear HC6
    by_cases c9 : (rdOf ByteArray.empty t340 (ji3)).toList = ([46] : List UInt8)
    ·
     rw [if_pos c9] at H
     have c9b0 : ((rdOf ByteArray.empty t340 (ji3)).toList == ([46] : List UInt8)) = true := beq_iff_eq.mpr c9
     have c9b1 : ((rdOf ByteArray.empty t340 (ji3)).toList != ([46] : List UInt8)) = false := bne_eq_false_iff_eq.mpr c9
     clear c9
     (first|rw [c9b0]|(simp only [i64_w,i32_w];rw [c9b0])|(rw [YtbkeakeldegkeaaX.isEmpty_eq];rw [c9b0])|skip)
     have H' := Aside0.mk H
     clear H
     go_wp2
     go_meet
     case rel => exact ⟨_,(true),(rs_),H',⟨by first|omega|exact Nat.le_refl _⟩,⟨by (with_reducible repeat (first|apply Kd.R_alloc|apply Kd.R_drewN|apply Kd.R_drew));exact HO342.out⟩,⟨bl_ HB.out⟩⟩
    rw [if_neg c9] at H
    have c9b0 : ((rdOf ByteArray.empty t340 (ji3)).toList == ([46] : List UInt8)) = false := beq_eq_false_iff_ne.mpr c9
    have c9b1 : ((rdOf ByteArray.empty t340 (ji3)).toList != ([46] : List UInt8)) = true := bne_iff_ne.mpr c9
    (first|rw [c9b0]|(simp only [i64_w,i32_w];rw [c9b0])|(rw [YtbkeakeldegkeaaX.isEmpty_eq];rw [c9b0])|skip)
    have H' := Aside0.mk H
    clear H
    go_wp2
    go_meet
    case rel => exact ⟨_,(((rdOf ByteArray.empty t340 (ji3)).toList == ([46,46] : List UInt8))),(by first|rfl|(simp;done)|(simp only [← hji3] <;> (first|rfl|simp))|(simp [*];done)|(simp [YtbkeakeldegkeaaX.isEmpty_ne];done)),H',⟨by first|omega|exact Nat.le_refl _⟩,⟨by (with_reducible repeat (first|apply Kd.R_alloc|apply Kd.R_drewN|apply Kd.R_drew));exact HO342.out⟩,⟨bl_ HB.out⟩⟩
   case rest =>
    clear HC6
    try clear p2
    try clear p3
    try clear q3
    try clear hx3
    try clear c4
    try clear c4b0
    try clear c5
    try clear c5b0
    try clear p6
    try clear c9
    try clear c9b0
    try clear c9b1
    try clear hx343_0
    try clear p343
    try clear q343
    obtain ⟨kq,x25_5,rfl,HA,HJ5,HO_4,HB⟩ := hcut
    cases kq with
    | zero => exact absurd HA.out (by simp [spec_Cleaned.j0])
    | succ kj5 =>
     have H := HA.out
     clear HA
     simp only [spec_Cleaned.j0] at H
     by_cases c10 : x25_5 = true
     ·
      subst c10
      have H1 : (some (⟨#[]⟩,2)) = some (r1,r2) := by rw [if_pos rfl] at H;exact H
      clear H
      have H := H1
      clear H1
      simp only [Option.some.injEq,Prod.mk.injEq] at H
      obtain ⟨rfl,rfl⟩ := H
      go_wp2
      go_ret2
      exact ⟨by first|rfl|(simp [errW_none,errW_some] <;> rfl)|(simp only [← hji3];first|rfl|(simp [errW_none,errW_some] <;> rfl))|(simp [*,errW_none,errW_some] <;> rfl),bl_ HB.out⟩
     replace c10 := Bool.eq_false_iff.mpr c10
     subst c10
     have H1 : (if 0 ≤ (wrap64 ((t340.length : Int) - 1)) then (if (wrap64 ((t340.length : Int) - 1)) ≤ (t340.length : Int) then ((some (t340.take ((wrap64 ((t340.length : Int) - 1)) : Int).toNat : List ByteArray)).bind fun y344 => (spec_Cleaned.l0 kj5 (rdOf ByteArray.empty t340 (ji3)) ([] : List ByteArray) y344 (y344.length : Int) 0)) else (none)) else (none)) = some (r1,r2) := by rw [if_neg (show ¬ (false = true) by decide)] at H;exact H
     clear H
     have H := H1
     clear H1
     obtain ⟨ji11,hji11⟩ : ∃ j_ : Int,(wrap64 ((t340.length : Int) - 1)) = j_ := ⟨_,rfl⟩
     replace H : (if 0 ≤ (ji11) then (if (ji11) ≤ (t340.length : Int) then ((some (t340.take ((ji11) : Int).toNat : List ByteArray)).bind fun y344 => (spec_Cleaned.l0 kj5 (rdOf ByteArray.empty t340 (ji3)) ([] : List ByteArray) y344 (y344.length : Int) 0)) else (none)) else (none)) = some (r1,r2) := by first|(rw [hji11] at H;exact H)|(simp only [hji11] at H ⊢;exact H)
     have hji11w : (IntKind.i64.wrap ((t340.length : Int) - 1)) = ji11 := (i64_w _).trans hji11
     by_cases c12 : 0 ≤ (ji11)
     ·
      rw [if_pos c12] at H
      have c12b0 := eq_true c12
      have c12b1 : decide (0 ≤ (ji11)) = true := decide_eq_true c12
      clear c12
      by_cases c13 : (ji11) ≤ (t340.length : Int)
      ·
       rw [if_pos c13] at H
       have c13b0 := eq_true c13
       have c13b1 : decide ((ji11) ≤ (t340.length : Int)) = true := decide_eq_true c13
       clear c13
       obtain ⟨y344,hy344⟩ : ∃ y_ : List ByteArray,y_ = (t340.take ((ji11) : Int).toNat) := ⟨_,rfl⟩
       replace H : (spec_Cleaned.l0 kj5 (rdOf ByteArray.empty t340 (ji3)) ([] : List ByteArray) y344 (y344.length : Int) 0) = some (r1,r2) := by first|(rw [hy344];with_reducible exact H)|(have H2_ := (Option.bind_some _ _).symm.trans H;rw [hy344];with_reducible exact H2_)|(have H2_ := (Option.bind_some _ _).symm.trans H;with_reducible exact H2_)|with_reducible exact H|(rw [hy344];exact H)|exact H
       have Ny344 := Aside0.mk hy344
       clear hy344
       have H' := Aside0.mk H
       clear H
       have q14 : ((ji11) : Int) ≤ ((t340.length : Int) : Int) := odt_
       obtain ⟨i014,hi014,_,hsz14,_⟩ := info_parts info9
       have hroom14 : t340.length ≤ co8 := (Kd.R_reads' HO_4.out).2.1
       have hC14 : Kd.C Kd.string _ (some ad343) t340.length t340 := (Kd.R_reads' HO_4.out).2.2
       have hcut14 := cut_to (P := Try.prog) 30 9 .i64 Try.underlying30 hi014 (some ad343) t340.length co8 (ji11) (odt_) q14 hroom14
       have hr14 := Kd.C_take (m := ((ji11) : Int).toNat) hC14 (by omega)
       have hy14 : y344.length = ((ji11) : Int).toNat := (by rw [Ny344.out,List.length_take];omega)
       rw [← Ny344.out] at hr14
       rw [← hy14] at hcut14
       have HR347 := Aside0.mk hr14
       have HC347 := Aside0.mk (show y344.length ≤ co8 from by omega)
       obtain ⟨wz,hwz⟩ : ∃ wz,wz = wc := ⟨_,rfl⟩
       subst hwz
       have HBO := HB
       clear HB
       have HB := Aside0.mk (Below.refl wz.heap.size wz)
       clear hr14 hC14 hroom14 hi014 hsz14
       have KY14 := Aside0.mk hy14
       clear hy14
       have KL14 := Aside0.mk (show ((ji11) : Int).toNat ≤ t340.length from by omega)
       replace q14 := eq_true q14
       try (rw [show ji11 = ji3 from hji11.symm.trans hji3] at hcut14)
       go_wp2
       go_loopg [6,32] kj5 (fun kq v6 v32 w' => ∃ (x6_2 : List ByteArray) (x32_2 : Int),v32 = .int .i64 x32_2 ∧ Aside0 (spec_Cleaned.l0 kq (rdOf ByteArray.empty t340 (ji3)) x6_2 y344 (y344.length : Int) x32_2 = some (r1,r2)) ∧ Aside0 (kq ≤ kj5) ∧ Aside0 (Kd.R Kd.string 9 w' wz.heap.size (fun _ => True) v6 x6_2) ∧ Aside0 (Below wz.heap.size wz w'))
       case atStart => exact ⟨(([] : List ByteArray)),(0),(rs_),H',⟨Nat.le_refl _⟩,⟨by first|exact Kd.R_nil _ _ _ _ _|exact Kd.N_nil _ _ _ _ _|exact Kd.V_nil _ _ _ _ _|exact Kd.Q_nil _ _ _ _ _|exact Kd.S_nil _ _ _ _ _⟩,⟨bl_ HB.out⟩⟩
       case round =>
        clear H'
        try clear c1
        try clear q1
        try clear p2
        try clear p3
        try clear q3
        try clear hx3
        try clear c4
        try clear c4b0
        try clear c5
        try clear c5b0
        try clear p6
        try clear c9
        try clear c9b0
        try clear c9b1
        try clear c10
        try clear c12
        try clear c12b0
        try clear c12b1
        try clear c13
        try clear c13b0
        try clear c13b1
        try clear q14
        try clear hx343_0
        try clear p2
        try clear p3
        try clear p343
        try clear p6
        try clear q14
        try clear q3
        try clear q343
        obtain ⟨x6_2,x32_2,rfl,HA,HK2,HO_6,HB⟩ := hrel
        cases gk with
        | zero => exact absurd HA.out (by simp [spec_Cleaned.l0])
        | succ k2 =>
         have H := HA.out
         clear HA
         simp only [spec_Cleaned.l0] at H
         by_cases c15 : x32_2 < (y344.length : Int)
         ·
          rw [if_pos c15] at H
          have c15b0 : decide (x32_2 < (y344.length : Int)) = true := decide_eq_true c15
          clear c15
          by_cases c16 : 0 ≤ x32_2
          ·
           rw [if_pos c16] at H
           have c16b0 : decide (0 ≤ x32_2) = true := decide_eq_true c16
           clear c16
           by_cases c17 : x32_2 < (y344.length : Int)
           ·
            rw [if_pos c17] at H
            have c17b0 : decide (x32_2 < (y344.length : Int)) = true := decide_eq_true c17
            clear c17
            have HC18 := Aside0.mk H
            clear H
            have p348 : 0 ≤ (x32_2 : Int) := odt_
            have q348 : x32_2 < (y344.length : Int) := odt_
            obtain ⟨ad348,e348,hx348_0⟩ := Kd.at_string HR347.out x32_2 p348 q348
            obtain rfl : ad343 = ad348 := (by injection e348)
            replace hx348_0 := (HB.out.cell (World.block_lt_of_cell? wz _ hx348_0)).trans hx348_0
            replace p348 := eq_true p348
            replace q348 := eq_true q348
            try (rw [show ji11 = ji3 from hji11.symm.trans hji3] at hcut348)
            go_upto_if 41 with (fail)
            go_cut [41] (fun v41 wc => ∃ (kq : Nat) (x41_17 : Bool),v41 = .bool x41_17 ∧ Aside0 (spec_Cleaned.j2 kq (rdOf ByteArray.empty t340 (ji3)) x6_2 (rdOf ByteArray.empty y344 x32_2) y344 (y344.length : Int) x32_2 (rdOf ByteArray.empty y344 x32_2) x41_17 = some (r1,r2)) ∧ Aside0 (kq ≤ k2) ∧ Aside0 (Kd.R Kd.string 9 wc wz.heap.size (fun _ => True) u6 x6_2) ∧ Aside0 (Below wz.heap.size wz wc))
            case first =>
             have H := HC18.out
             clear HC18
             by_cases c19 : (rdOf ByteArray.empty y344 x32_2).toList = ([] : List UInt8)
             ·
              rw [if_pos c19] at H
              have c19b0 : ((rdOf ByteArray.empty y344 x32_2).toList == ([] : List UInt8)) = true := beq_iff_eq.mpr c19
              have c19b1 : ((rdOf ByteArray.empty y344 x32_2).toList != ([] : List UInt8)) = false := bne_eq_false_iff_eq.mpr c19
              clear c19
              (first|rw [c19b0]|(simp only [i64_w,i32_w];rw [c19b0])|(rw [YtbkeakeldegkeaaX.isEmpty_eq];rw [c19b0])|skip)
              have H' := Aside0.mk H
              clear H
              go_wp2
              go_meet
              case rel => exact ⟨_,(((rdOf ByteArray.empty y344 x32_2).toList == ([] : List UInt8))),(rs_),H',⟨by have := HJ5.out;have := HK2.out;first|omega|exact Nat.le_refl _⟩,⟨by (with_reducible repeat (first|apply Kd.R_alloc|apply Kd.R_drewN|apply Kd.R_drew));exact HO_6.out⟩,⟨bl_ HB.out⟩⟩
             rw [if_neg c19] at H
             have c19b0 : ((rdOf ByteArray.empty y344 x32_2).toList == ([] : List UInt8)) = false := beq_eq_false_iff_ne.mpr c19
             have c19b1 : ((rdOf ByteArray.empty y344 x32_2).toList != ([] : List UInt8)) = true := bne_iff_ne.mpr c19
             (first|rw [c19b0]|(simp only [i64_w,i32_w];rw [c19b0])|(rw [YtbkeakeldegkeaaX.isEmpty_eq];rw [c19b0])|skip)
             have H' := Aside0.mk H
             clear H
             go_wp2
             go_meet
             case rel => exact ⟨_,(((rdOf ByteArray.empty y344 x32_2).toList == ([46] : List UInt8))),(rs_),H',⟨by have := HJ5.out;have := HK2.out;first|omega|exact Nat.le_refl _⟩,⟨by (with_reducible repeat (first|apply Kd.R_alloc|apply Kd.R_drewN|apply Kd.R_drew));exact HO_6.out⟩,⟨bl_ HB.out⟩⟩
            case rest =>
             clear HC18
             try clear c1
             try clear q1
             try clear p2
             try clear p3
             try clear q3
             try clear hx3
             try clear c4
             try clear c4b0
             try clear c5
             try clear c5b0
             try clear p6
             try clear c9
             try clear c9b0
             try clear c9b1
             try clear c10
             try clear c12
             try clear c12b0
             try clear c12b1
             try clear c13
             try clear c13b0
             try clear c13b1
             try clear q14
             try clear c15
             try clear c15b0
             try clear c16
             try clear c16b0
             try clear c17
             try clear c17b0
             try clear c19
             try clear c19b0
             try clear c19b1
             try clear hx343_0
             try clear hx348_0
             try clear p2
             try clear p3
             try clear p343
             try clear p348
             try clear p6
             try clear q1
             try clear q14
             try clear q3
             try clear q343
             try clear q348
             obtain ⟨kq,x41_17,rfl,HA,HJ17,HO_6,HB⟩ := hcut
             cases kq with
             | zero => exact absurd HA.out (by simp [spec_Cleaned.j2])
             | succ kj17 =>
              have H := HA.out
              clear HA
              simp only [spec_Cleaned.j2] at H
              by_cases c20 : x41_17 = true
              ·
               subst c20
               have H1 : (spec_Cleaned.l0 kj17 (rdOf ByteArray.empty t340 (ji3)) x6_2 y344 (y344.length : Int) (wrap64 (x32_2 + 1))) = some (r1,r2) := by rw [if_pos rfl] at H;exact H
               clear H
               have H := H1
               clear H1
               have H' := Aside0.mk H
               clear H
               go_wp2
               go_roundg kj17
               case measure => have := HJ5.out;have := HK2.out;have := HJ17.out;omega
               case rel => exact ⟨(x6_2),(wrap64 (x32_2 + 1)),(rs_),H',⟨by have := HJ5.out;have := HK2.out;have := HJ17.out;omega⟩,⟨by (with_reducible repeat (first|apply Kd.R_alloc|apply Kd.R_drewN|apply Kd.R_drew));exact HO_6.out⟩,⟨bl_ HB.out⟩⟩
              replace c20 := Bool.eq_false_iff.mpr c20
              subst c20
              have H1 : (if (rdOf ByteArray.empty y344 x32_2).toList = ([46,46] : List UInt8) then (if 0 ≤ (mx (wrap64 ((x6_2.length : Int) - 1)) 0) then (if (mx (wrap64 ((x6_2.length : Int) - 1)) 0) ≤ (x6_2.length : Int) then (spec_Cleaned.l0 kj17 (rdOf ByteArray.empty t340 (ji3)) (x6_2.take ((mx (wrap64 ((x6_2.length : Int) - 1)) 0) : Int).toNat) y344 (y344.length : Int) (wrap64 (x32_2 + 1))) else (none)) else (none)) else (if x6_2.length < 8796093022208 then (spec_Cleaned.l0 kj17 (rdOf ByteArray.empty t340 (ji3)) (x6_2 ++ [(rdOf ByteArray.empty y344 x32_2)]) y344 (y344.length : Int) (wrap64 (x32_2 + 1))) else (none))) = some (r1,r2) := by rw [if_neg (show ¬ (false = true) by decide)] at H;exact H
              clear H
              have H := H1
              clear H1
              by_cases c21 : (rdOf ByteArray.empty y344 x32_2).toList = ([46,46] : List UInt8)
              ·
               rw [if_pos c21] at H
               have c21b0 : ((rdOf ByteArray.empty y344 x32_2).toList == ([46,46] : List UInt8)) = true := beq_iff_eq.mpr c21
               have c21b1 : ((rdOf ByteArray.empty y344 x32_2).toList != ([46,46] : List UInt8)) = false := bne_eq_false_iff_eq.mpr c21
               clear c21
               obtain ⟨ji22,hji22⟩ : ∃ j_ : Int,(mx (wrap64 ((x6_2.length : Int) - 1)) 0) = j_ := ⟨_,rfl⟩
               replace H : (if 0 ≤ (ji22) then (if (ji22) ≤ (x6_2.length : Int) then (spec_Cleaned.l0 kj17 (rdOf ByteArray.empty t340 (ji3)) (x6_2.take ((ji22) : Int).toNat) y344 (y344.length : Int) (wrap64 (x32_2 + 1))) else (none)) else (none)) = some (r1,r2) := by first|(rw [hji22] at H;exact H)|(simp only [hji22] at H ⊢;exact H)
               have hji22_ : (if (wrap64 ((x6_2.length : Int) - 1)) < 0 then 0 else (wrap64 ((x6_2.length : Int) - 1))) = ji22 := hji22
               by_cases c23 : 0 ≤ (ji22)
               ·
                rw [if_pos c23] at H
                have c23b0 := eq_true c23
                have c23b1 : decide (0 ≤ (ji22)) = true := decide_eq_true c23
                clear c23
                by_cases c24 : (ji22) ≤ (x6_2.length : Int)
                ·
                 rw [if_pos c24] at H
                 have c24b0 := eq_true c24
                 have c24b1 : decide ((ji22) ≤ (x6_2.length : Int)) = true := decide_eq_true c24
                 clear c24
                 obtain ⟨y349,hy349⟩ : ∃ y_ : List ByteArray,y_ = (x6_2.take ((ji22) : Int).toNat) := ⟨_,rfl⟩
                 replace H : (spec_Cleaned.l0 kj17 (rdOf ByteArray.empty t340 (ji3)) y349 y344 (y344.length : Int) (wrap64 (x32_2 + 1))) = some (r1,r2) := by first|(rw [hy349];with_reducible exact H)|(have H2_ := (Option.bind_some _ _).symm.trans H;rw [hy349];with_reducible exact H2_)|(have H2_ := (Option.bind_some _ _).symm.trans H;with_reducible exact H2_)|with_reducible exact H|(rw [hy349];exact H)|exact H
                 have Ny349 := Aside0.mk hy349
                 clear hy349
                 have H' := Aside0.mk H
                 clear H
                 obtain ⟨Ao25,co25,eo25⟩ := Kd.R_slice HO_6.out
                 subst eo25
                 have q26 : ((ji22) : Int) ≤ ((x6_2.length : Int) : Int) := odt_
                 obtain ⟨i026,hi026,_,hsz26,_⟩ := info_parts info9
                 have hcut26 := cut_to (P := Try.prog) 30 9 .i64 Try.underlying30 hi026 Ao25 x6_2.length co25 (ji22) (odt_) q26 (Kd.R_reads' HO_6.out).2.1
                 have hr26 := Kd.R_take (m := ((ji22) : Int).toNat) HO_6.out (by omega)
                 have hy26 : y349.length = ((ji22) : Int).toNat := (by rw [Ny349.out,List.length_take];omega)
                 rw [← Ny349.out] at hr26
                 rw [← hy26] at hr26 hcut26
                 clear hy26 hi026 hsz26 HO_6
                 have HO351 := Aside0.mk hr26
                 clear hr26
                 replace q26 := eq_true q26
                 try (rw [show ji11 = ji3 from hji11.symm.trans hji3] at hcut26)
                 go_wp2
                 go_roundg kj17
                 case measure => have := HJ5.out;have := HK2.out;have := HJ17.out;omega
                 case rel => exact ⟨(y349),(wrap64 (x32_2 + 1)),(rs_),H',⟨by have := HJ5.out;have := HK2.out;have := HJ17.out;omega⟩,⟨by (with_reducible repeat (first|apply Kd.R_alloc|apply Kd.R_drewN|apply Kd.R_drew));exact HO351.out⟩,⟨bl_ HB.out⟩⟩
                rw [if_neg c24] at H
                exact absurd H (by simp)
               rw [if_neg c23] at H
               exact absurd H (by simp)
              rw [if_neg c21] at H
              have c21b0 : ((rdOf ByteArray.empty y344 x32_2).toList == ([46,46] : List UInt8)) = false := beq_eq_false_iff_ne.mpr c21
              have c21b1 : ((rdOf ByteArray.empty y344 x32_2).toList != ([46,46] : List UInt8)) = true := bne_iff_ne.mpr c21
              by_cases c27 : x6_2.length < 8796093022208
              ·
               rw [if_pos c27] at H
               have LMc27 := Aside0.mk c27
               clear c27
               obtain ⟨y352,hy352⟩ : ∃ y_ : List ByteArray,y_ = (x6_2 ++ [(rdOf ByteArray.empty y344 x32_2)]) := ⟨_,rfl⟩
               replace H : (spec_Cleaned.l0 kj17 (rdOf ByteArray.empty t340 (ji3)) y352 y344 (y344.length : Int) (wrap64 (x32_2 + 1))) = some (r1,r2) := by first|(rw [hy352];with_reducible exact H)|(have H2_ := (Option.bind_some _ _).symm.trans H;rw [hy352];with_reducible exact H2_)|(have H2_ := (Option.bind_some _ _).symm.trans H;with_reducible exact H2_)|with_reducible exact H|(rw [hy352];exact H)|exact H
               have Ny352 := Aside0.mk hy352
               clear hy352
               have H' := Aside0.mk H
               clear H
               go_wp2_with (first|((with_reducible refine gate_builtin (b := .append) (xs := #[.tmp 37,.tmp 39]) rfl ?_);at_builtin;refine Kd.R_append Kd.string (w0 := wz) wz.heap.size rfl (.tmp 37) (.tmp 39) 30 9 (.string ⟨#[]⟩) 16 rfl Try.underlying30 info9 rfl (by decide) (by omega) u6 x6_2 (rdOf ByteArray.empty y344 x32_2) [.string (rdOf ByteArray.empty y344 x32_2)] (fun _ => True) (fun _ => False) rfl rfl ?aP (fun _ hk => hk.elim) ?aF ?aO ?aB ?aS ?aL ?_;(case aP => exact rfl);(case aB => exact (bl_ HB.out));(case aF => exact (fun _ _ => trivial));(case aO => exact (by (with_reducible repeat (first|apply Kd.R_alloc|apply Kd.R_drewN|apply Kd.R_drew));exact HO_6.out));(case aS => exact (below_size (bl_ HB.out)));(case aL => have := LMc27.out;omega);intro v353 w28 ho hb hg hat;rw [← Ny352.out] at ho;have n0_ := Aside0.mk (hb);have n1_ := Aside0.mk (ho);clear HB;clear HO_6;have HB := n0_;have HO354 := n1_;clear n0_ n1_;clear ho hb hg hat))
               go_roundg kj17
               case measure => have := HJ5.out;have := HK2.out;have := HJ17.out;omega
               case rel => exact ⟨(y352),(wrap64 (x32_2 + 1)),(rs_),H',⟨by have := HJ5.out;have := HK2.out;have := HJ17.out;omega⟩,⟨by (with_reducible repeat (first|apply Kd.R_alloc|apply Kd.R_drewN|apply Kd.R_drew));exact HO354.out⟩,⟨bl_ HB.out⟩⟩
              rw [if_neg c27] at H
              exact absurd H (by simp)
           rw [if_neg c17] at H
           exact absurd H (by simp)
          rw [if_neg c16] at H
          exact absurd H (by simp)
         rw [if_neg c15] at H
         have c15b0 : decide (x32_2 < (y344.length : Int)) = false := decide_eq_false c15
         clear c15
         have H' := Aside0.mk H
         clear H
         obtain ⟨Ao29,co29,eo29⟩ := Kd.R_slice HO_6.out
         subst eo29
         go_wp2
         go_loopg [9,55] k2 (fun kq v9 v55 w' => ∃ (x9_3 : ByteArray) (x55_3 : Int),v9 = .string x9_3 ∧ v55 = .int .i64 x55_3 ∧ Aside0 (spec_Cleaned.l1 kq (rdOf ByteArray.empty t340 (ji3)) x9_3 x6_2 (x6_2.length : Int) x55_3 = some (r1,r2)) ∧ Aside0 (kq ≤ k2) ∧ Aside0 (Kd.R Kd.string 9 w' wz.heap.size (fun _ => True) (.slice Ao29 x6_2.length co29) x6_2) ∧ Aside0 (Below wz.heap.size wz w'))
         case atStart => exact ⟨(⟨#[47]⟩),(0),(rs_),(rs_),H',⟨Nat.le_refl _⟩,⟨by (with_reducible repeat (first|apply Kd.R_alloc|apply Kd.R_drewN|apply Kd.R_drew));exact HO_6.out⟩,⟨bl_ HB.out⟩⟩
         case round =>
          clear H'
          try clear c1
          try clear q1
          try clear c2
          try clear p2
          try clear q2
          try clear p3
          try clear q3
          try clear hx3
          try clear c4
          try clear c4b0
          try clear c5
          try clear c5b0
          try clear p6
          try clear c9
          try clear c9b0
          try clear c9b1
          try clear c10
          try clear c12
          try clear c12b0
          try clear c12b1
          try clear c13
          try clear c13b0
          try clear c13b1
          try clear q14
          try clear c15
          try clear c15b0
          try clear c16
          try clear c16b0
          try clear c17
          try clear c17b0
          try clear c19
          try clear c19b0
          try clear c19b1
          try clear c20
          try clear c21
          try clear c21b0
          try clear c21b1
          try clear c23
          try clear c23b0
          try clear c23b1
          try clear c24
          try clear c24b0
          try clear c24b1
          try clear q26
          try clear c27
          try clear hx343_0
          try clear hx348_0
          try clear p2
          try clear p3
          try clear p343
          try clear p348
          try clear p6
          try clear q1
          try clear q14
          try clear q26
          try clear q3
          try clear q343
          try clear q348
          obtain ⟨x9_3,x55_3,rfl,rfl,HA,HK3,HO_53,HB⟩ := hrel
          cases gk with
          | zero => exact absurd HA.out (by simp [spec_Cleaned.l1])
          | succ k3 =>
           have H := HA.out
           clear HA
           simp only [spec_Cleaned.l1] at H
           by_cases c30 : x55_3 < (x6_2.length : Int)
           ·
            rw [if_pos c30] at H
            have c30b0 : decide (x55_3 < (x6_2.length : Int)) = true := decide_eq_true c30
            clear c30
            by_cases c31 : 0 ≤ x55_3
            ·
             rw [if_pos c31] at H
             have c31b0 : decide (0 ≤ x55_3) = true := decide_eq_true c31
             clear c31
             by_cases c32 : x55_3 < (x6_2.length : Int)
             ·
              rw [if_pos c32] at H
              have c32b0 : decide (x55_3 < (x6_2.length : Int)) = true := decide_eq_true c32
              clear c32
              by_cases c33 : (rdOf ByteArray.empty x6_2 x55_3).size + 1 ≤ 9223372036854775807
              ·
               rw [if_pos c33] at H
               have c33b0 := eq_true c33
               have c33b1 : decide ((rdOf ByteArray.empty x6_2 x55_3).size + 1 ≤ 9223372036854775807) = true := decide_eq_true c33
               try have c33b2 : (9223372036854775807 < (rdOf ByteArray.empty x6_2 x55_3).size + 1) = False := eq_false (Nat.not_lt.2 c33)
               by_cases c34 : x9_3.size + ((rdOf ByteArray.empty x6_2 x55_3).size + 1) ≤ 9223372036854775807
               ·
                rw [if_pos c34] at H
                have c34b0 := eq_true c34
                have c34b1 : decide (x9_3.size + ((rdOf ByteArray.empty x6_2 x55_3).size + 1) ≤ 9223372036854775807) = true := decide_eq_true c34
                try have c34b2 : (9223372036854775807 < x9_3.size + ((rdOf ByteArray.empty x6_2 x55_3).size + 1)) = False := eq_false (Nat.not_lt.2 c34)
                have H' := Aside0.mk H
                clear H
                have p355 : 0 ≤ (x55_3 : Int) := odt_
                have q355 : x55_3 < (x6_2.length : Int) := odt_
                obtain ⟨ad355,e355,hx355_0⟩ := Kd.at_string (Kd.R_reads' HO_53.out).2.2 x55_3 p355 q355
                cases e355
                replace p355 := eq_true p355
                replace q355 := eq_true q355
                try (rw [show ji11 = ji3 from hji11.symm.trans hji3] at hcut355)
                go_wp2
                any_goals (try (exfalso;have zc4b0 := of_decide_eq_true c4b0;have zc5b0 := of_decide_eq_true c5b0;have zc12b1 := of_decide_eq_true c12b1;have zc13b1 := of_decide_eq_true c13b1;have zc30b0 := of_decide_eq_true c30b0;have zc31b0 := of_decide_eq_true c31b0;have zc32b0 := of_decide_eq_true c32b0;have zc33b1 := of_decide_eq_true c33b1;have zc34b1 := of_decide_eq_true c34b1;omega))
                go_roundg k3
                case measure => have := HJ5.out;have := HK2.out;have := HK3.out;omega
                case rel => exact ⟨(x9_3 ++ ((rdOf ByteArray.empty x6_2 x55_3) ++ (⟨#[47]⟩ : ByteArray))),(wrap64 (x55_3 + 1)),(rs_),(rs_),H',⟨by have := HJ5.out;have := HK2.out;have := HK3.out;omega⟩,⟨by (with_reducible repeat (first|apply Kd.R_alloc|apply Kd.R_drewN|apply Kd.R_drew));exact HO_53.out⟩,⟨bl_ HB.out⟩⟩
               rw [if_neg c34] at H
               exact absurd H (by simp)
              rw [if_neg c33] at H
              exact absurd H (by simp)
             rw [if_neg c32] at H
             exact absurd H (by simp)
            rw [if_neg c31] at H
            exact absurd H (by simp)
           rw [if_neg c30] at H
           have c30b0 : decide (x55_3 < (x6_2.length : Int)) = false := decide_eq_false c30
           clear c30
           by_cases c35 : x9_3.size + (rdOf ByteArray.empty t340 (ji3)).size ≤ 9223372036854775807
           ·
            rw [if_pos c35] at H
            have c35b0 := eq_true c35
            have c35b1 : decide (x9_3.size + (rdOf ByteArray.empty t340 (ji3)).size ≤ 9223372036854775807) = true := decide_eq_true c35
            try have c35b2 : (9223372036854775807 < x9_3.size + (rdOf ByteArray.empty t340 (ji3)).size) = False := eq_false (Nat.not_lt.2 c35)
            simp only [Option.some.injEq,Prod.mk.injEq] at H
            obtain ⟨rfl,rfl⟩ := H
            go_wp2
            any_goals (try (exfalso;have zc4b0 := of_decide_eq_true c4b0;have zc5b0 := of_decide_eq_true c5b0;have zc12b1 := of_decide_eq_true c12b1;have zc13b1 := of_decide_eq_true c13b1;have zc35b1 := of_decide_eq_true c35b1;omega))
            go_ret2
            exact ⟨by first|rfl|(simp [errW_none,errW_some] <;> rfl)|(simp only [← hji3,← hji11];first|rfl|(simp [errW_none,errW_some] <;> rfl))|(simp [*,errW_none,errW_some] <;> rfl),HBO.out.trans (Below.mono (show Below wz.heap.size wz _ from bl_ HB.out) HBO.out.size)⟩
           rw [if_neg c35] at H
           exact absurd H (by simp)
      rw [if_neg c13] at H
      exact absurd H (by simp)
     rw [if_neg c12] at H
     exact absurd H (by simp)
  rw [if_neg c5] at H
  exact absurd H (by simp)
 rw [if_neg c4] at H
 exact absurd H (by simp)
end Go.Proofs.Ytbkeakeldegkeaa.Q
end
section
namespace Go.Proofs.Ytbkeakeldegkeaa.Q
open Go.RowKit Go.Proofs.YtbkeakeldegkeaaW.PrintWords Go.Proofs.YtbkeakeldegkeaaW.PrintLast Go.Proofs.YtbkeakeldegkeaaW.PrintMore
attribute [local go_sem] max2_int min2_int max_two min_two max_three min_three max_four min_four
mutual
def spec_Decoded.l0 : Nat → ByteArray → Bool → List Int → Int → Option (ByteArray)
 | 0,_,_,_,_ => none
 | k + 1,x0,x1,x5,x6 => if x6 < (x0.size : Int) then (if 0 ≤ x6 then (if (bt x0 x6) = 37 then (if (wrap64 (x6 + 2)) < (x0.size : Int) then (if 0 ≤ (wrap64 (x6 + 1)) then (if (wrap64 (x6 + 1)) < (x0.size : Int) then ((spec_hexOf.f k (bt x0 (wrap64 (x6 + 1)))).bind fun t356 => (if t356 ≥ 0 then (if 0 ≤ (wrap64 (x6 + 2)) then ((spec_hexOf.f k (bt x0 (wrap64 (x6 + 2)))).bind fun t357 => (spec_Decoded.j1 k x0 x1 x5 x6 (decide (t357 ≥ 0)))) else (none)) else (spec_Decoded.j1 k x0 x1 x5 x6 false))) else (none)) else (none)) else (spec_Decoded.j1 k x0 x1 x5 x6 false)) else (spec_Decoded.j1 k x0 x1 x5 x6 false)) else (none)) else (some (strOfNums x5))
def spec_Decoded.j1 : Nat → ByteArray → Bool → List Int → Int → Bool → Option (ByteArray)
 | 0,_,_,_,_,_ => none
 | k + 1,x0,x1,x5,x6,x19 => if x19 = true then (if 0 ≤ (wrap64 (x6 + 1)) then (if (wrap64 (x6 + 1)) < (x0.size : Int) then ((spec_hexOf.f k (bt x0 (wrap64 (x6 + 1)))).bind fun t358 => (if 0 ≤ (wrap64 (x6 + 2)) then (if (wrap64 (x6 + 2)) < (x0.size : Int) then ((spec_hexOf.f k (bt x0 (wrap64 (x6 + 2)))).bind fun t359 => (if x5.length < 140737488355328 then (spec_Decoded.l0 k x0 x1 (x5 ++ [(wrap64 ((wrap64 (16 * t358)) + t359)) % 256]) (wrap64 ((wrap64 (x6 + 2)) + 1))) else (none))) else (none)) else (none))) else (none)) else (none)) else (if 0 ≤ x6 then (if x6 < (x0.size : Int) then (if (bt x0 x6) = 43 then (if x1 = true then (if x5.length < 140737488355328 then (spec_Decoded.l0 k x0 x1 (x5 ++ [32]) (wrap64 (x6 + 1))) else (none)) else (if x5.length < 140737488355328 then (spec_Decoded.l0 k x0 x1 (x5 ++ [bt x0 x6]) (wrap64 (x6 + 1))) else (none))) else (if x5.length < 140737488355328 then (spec_Decoded.l0 k x0 x1 (x5 ++ [bt x0 x6]) (wrap64 (x6 + 1))) else (none))) else (none)) else (none))
end
def spec_Decoded.f (k : Nat) (a0 : ByteArray) (a1 : Bool) : Option (ByteArray) := spec_Decoded.l0 k a0 a1 ([] : List Int) 0
def spec_Decoded.T7 : Bool × List (List Nat × List Nat) := (true,[([],[]),([],[]),([],[]),([2],[2]),([1,3],[1,3]),([4],[4]),([5],[5]),([],[]),([],[]),([8],[8]),([7,9],[7,9]),([10,5],[10]),([6,11],[6,11]),([12],[12]),([13],[13]),([0,14,11],[0,14]),([15,15,0,1,2,3,4,5,6,7,8,9,10,11,12,13,14,15],[0,15])])
def spec_Decoded.B7 : List Nat := [0,0,0,4,14,30,62,0,0,256,896,1982,4094,8190,16382,32767,65535]
theorem spec_Decoded.tab7 : rtab .any (opsOf Try.f55 7) = spec_Decoded.T7 := by kernel_rfl
theorem spec_Decoded.bits7 : waitsOk spec_Decoded.T7.2 spec_Decoded.B7 = true := by kernel_rfl
set_option maxHeartbeats 8000000 in
set_option maxRecDepth 100000 in
theorem spec_Decoded.calls (k : Nat) (a0 : ByteArray) (a1 : Bool) (r : ByteArray) (w : World) (h : spec_Decoded.f k a0 a1 = some r) :
  Calls Try.prog 55 #[.string a0,.bool a1] w fun e w' => e = .returned (.string r) ∧ Below w.heap.size w w' := by
 have HB := Aside0.mk (Below.refl w.heap.size w)
 have H : (spec_Decoded.l0 k a0 a1 ([] : List Int) 0) = some r := h
 clear h
 have H' := Aside0.mk H
 clear H
 go_enter Try.func55,Try.ntmps55
 go_wp2
 go_loopg [5,6] k (fun kq v5 v6 w' => ∃ (x5_1 : List Int) (x6_1 : Int),v6 = .int .i64 x6_1 ∧ Aside0 (spec_Decoded.l0 kq a0 a1 x5_1 x6_1 = some r) ∧ Aside0 (kq ≤ k) ∧ Aside0 (Kd.R (Kd.int .u8) 5 w' w.heap.size (fun _ => True) v5 x5_1) ∧ Aside0 (Below w.heap.size w w'))
 case atStart => exact ⟨(([] : List Int)),(0),(rs_),H',⟨Nat.le_refl _⟩,⟨by first|exact Kd.R_nil _ _ _ _ _|exact Kd.N_nil _ _ _ _ _|exact Kd.V_nil _ _ _ _ _|exact Kd.Q_nil _ _ _ _ _|exact Kd.S_nil _ _ _ _ _⟩,⟨bl_ HB.out⟩⟩
 case round =>
  clear H'
  try clear p2
  obtain ⟨x5_1,x6_1,rfl,HA,HK1,HO_5,HB⟩ := hrel
  cases gk with
  | zero => exact absurd HA.out (by simp [spec_Decoded.l0])
  | succ k1 =>
   have H := HA.out
   clear HA
   simp only [spec_Decoded.l0] at H
   by_cases c3 : x6_1 < (a0.size : Int)
   ·
    rw [if_pos c3] at H
    have c3b0 : decide (x6_1 < (a0.size : Int)) = true := decide_eq_true c3
    clear c3
    have HC4 := Aside0.mk H
    clear H
    go_upto_region 6 with (fail)
    go_cut [19] (fun v19 wc => ∃ (kq : Nat) (x19_3 : Bool),v19 = .bool x19_3 ∧ Aside0 (spec_Decoded.j1 kq a0 a1 x5_1 x6_1 x19_3 = some r) ∧ Aside0 (kq ≤ k1) ∧ Aside0 (Kd.R (Kd.int .u8) 5 wc w.heap.size (fun _ => True) u5 x5_1) ∧ Aside0 (Below w.heap.size w wc))
    case first =>
     have H := HC4.out
     clear HC4
     by_cases c5 : 0 ≤ x6_1
     ·
      rw [if_pos c5] at H
      have c5b0 : decide (0 ≤ x6_1) = true := decide_eq_true c5
      clear c5
      (first|rw [c5b0]|(simp only [i64_w,i32_w];rw [c5b0])|(rw [YtbkeakeldegkeaaX.isEmpty_eq];rw [c5b0])|skip)
      by_cases c7 : (bt a0 x6_1) = 37
      ·
       rw [if_pos c7] at H
       have c7b0 : ((bt a0 x6_1) == 37) = true := beq_iff_eq.mpr c7
       have c7b1 : ((bt a0 x6_1) != 37) = false := bne_eq_false_iff_eq.mpr c7
       clear c7
       by_cases c8 : (wrap64 (x6_1 + 2)) < (a0.size : Int)
       ·
        rw [if_pos c8] at H
        have c8b0 : decide ((wrap64 (x6_1 + 2)) < (a0.size : Int)) = true := decide_eq_true c8
        clear c8
        obtain ⟨ji9,hji9⟩ : ∃ j_ : Int,(wrap64 (x6_1 + 1)) = j_ := ⟨_,rfl⟩
        replace H : (if 0 ≤ (ji9) then (if (ji9) < (a0.size : Int) then ((spec_hexOf.f k1 (bt a0 (ji9))).bind fun t356 => (if t356 ≥ 0 then (if 0 ≤ (wrap64 (x6_1 + 2)) then ((spec_hexOf.f k1 (bt a0 (wrap64 (x6_1 + 2)))).bind fun t357 => (spec_Decoded.j1 k1 a0 a1 x5_1 x6_1 (decide (t357 ≥ 0)))) else (none)) else (spec_Decoded.j1 k1 a0 a1 x5_1 x6_1 false))) else (none)) else (none)) = some r := by first|(rw [hji9] at H;exact H)|(simp only [hji9] at H ⊢;exact H)
        have hji9w : (IntKind.i64.wrap (x6_1 + 1)) = ji9 := (i64_w _).trans hji9
        by_cases c10 : 0 ≤ (ji9)
        ·
         rw [if_pos c10] at H
         have c10b0 : decide (0 ≤ (ji9)) = true := decide_eq_true c10
         clear c10
         by_cases c11 : (ji9) < (a0.size : Int)
         ·
          rw [if_pos c11] at H
          have c11b0 : decide ((ji9) < (a0.size : Int)) = true := decide_eq_true c11
          clear c11
          replace H := Option.bind_eq_some_iff.mp H
          obtain ⟨t356,A130,H⟩ := H
          replace H : (if t356 ≥ 0 then (if 0 ≤ (wrap64 (x6_1 + 2)) then ((spec_hexOf.f k1 (bt a0 (wrap64 (x6_1 + 2)))).bind fun t357 => (spec_Decoded.j1 k1 a0 a1 x5_1 x6_1 (decide (t357 ≥ 0)))) else (none)) else (spec_Decoded.j1 k1 a0 a1 x5_1 x6_1 false)) = some r := H
          have A13 := Aside0.mk A130
          clear A130
          by_cases c14 : t356 ≥ 0
          ·
           rw [if_pos c14] at H
           have c14b0 : decide (0 ≤ t356) = true := decide_eq_true c14
           clear c14
           obtain ⟨ji15,hji15⟩ : ∃ j_ : Int,(wrap64 (x6_1 + 2)) = j_ := ⟨_,rfl⟩
           replace H : (if 0 ≤ (ji15) then ((spec_hexOf.f k1 (bt a0 (ji15))).bind fun t357 => (spec_Decoded.j1 k1 a0 a1 x5_1 x6_1 (decide (t357 ≥ 0)))) else (none)) = some r := by first|(rw [hji15] at H;exact H)|(simp only [hji15] at H ⊢;exact H)
           (try rw [hji15] at c8b0)
           (try rw [hji15] at A13)
           have hji15w : (IntKind.i64.wrap (x6_1 + 2)) = ji15 := (i64_w _).trans hji15
           by_cases c16 : 0 ≤ (ji15)
           ·
            rw [if_pos c16] at H
            have c16b0 : decide (0 ≤ (ji15)) = true := decide_eq_true c16
            clear c16
            replace H := Option.bind_eq_some_iff.mp H
            obtain ⟨t357,A180,H⟩ := H
            replace H : (spec_Decoded.j1 k1 a0 a1 x5_1 x6_1 (decide (t357 ≥ 0))) = some r := H
            have A18 := Aside0.mk A180
            clear A180
            have H' := Aside0.mk H
            clear H
            have p6 : 0 ≤ (x6_1 : Int) := odt_
            have q6 : x6_1 < (a0.size : Int) := odt_
            have hx6 := bt_at a0 x6_1
            replace p6 := eq_true p6
            replace q6 := eq_true q6
            have p12 : 0 ≤ ((ji9) : Int) := odt_
            have q12 : (ji9) < (a0.size : Int) := odt_
            have hx12 := bt_at a0 (ji9)
            replace p12 := eq_true p12
            replace q12 := eq_true q12
            go_wp2_with (first|(go_at_call 75;(with_reducible refine (spec_hexOf.calls k1 (bt a0 (ji9)) t356 _ A13.out).mono ?_);rintro e w' ⟨rfl,⟨nd,rfl⟩⟩;have p17 : 0 ≤ ((ji15) : Int) := odt_;have q17 : (ji15) < (a0.size : Int) := odt_;have hx17 := bt_at a0 (ji15);replace p17 := eq_true p17;replace q17 := eq_true q17)|(go_at_call 75;(with_reducible refine (spec_hexOf.calls k1 (bt a0 (ji15)) t357 _ A18.out).mono ?_);rintro e w' ⟨rfl,⟨nd,rfl⟩⟩))
            go_meet
            case rel => exact ⟨_,(decide (t357 ≥ 0)),(rs_),H',⟨by have := HK1.out;first|omega|exact Nat.le_refl _⟩,⟨by (with_reducible repeat (first|apply Kd.R_alloc|apply Kd.R_drewN|apply Kd.R_drew));exact HO_5.out⟩,⟨bl_ HB.out⟩⟩
           rw [if_neg c16] at H
           exact absurd H (by simp)
          rw [if_neg c14] at H
          have c14b0 : decide (0 ≤ t356) = false := decide_eq_false c14
          clear c14
          have H' := Aside0.mk H
          clear H
          have p6 : 0 ≤ (x6_1 : Int) := odt_
          have q6 : x6_1 < (a0.size : Int) := odt_
          have hx6 := bt_at a0 x6_1
          replace p6 := eq_true p6
          replace q6 := eq_true q6
          have p12 : 0 ≤ ((ji9) : Int) := odt_
          have q12 : (ji9) < (a0.size : Int) := odt_
          have hx12 := bt_at a0 (ji9)
          replace p12 := eq_true p12
          replace q12 := eq_true q12
          go_wp2_with (first|(go_at_call 75;(with_reducible refine (spec_hexOf.calls k1 (bt a0 (ji9)) t356 _ A13.out).mono ?_);rintro e w' ⟨rfl,⟨nd,rfl⟩⟩))
          go_meet
          case rel => exact ⟨_,(false),(rs_),H',⟨by have := HK1.out;first|omega|exact Nat.le_refl _⟩,⟨by (with_reducible repeat (first|apply Kd.R_alloc|apply Kd.R_drewN|apply Kd.R_drew));exact HO_5.out⟩,⟨bl_ HB.out⟩⟩
         rw [if_neg c11] at H
         exact absurd H (by simp)
        rw [if_neg c10] at H
        exact absurd H (by simp)
       rw [if_neg c8] at H
       have c8b0 : decide ((wrap64 (x6_1 + 2)) < (a0.size : Int)) = false := decide_eq_false c8
       clear c8
       have H' := Aside0.mk H
       clear H
       have p6 : 0 ≤ (x6_1 : Int) := odt_
       have q6 : x6_1 < (a0.size : Int) := odt_
       have hx6 := bt_at a0 x6_1
       replace p6 := eq_true p6
       replace q6 := eq_true q6
       go_wp2
       go_meet
       case rel => exact ⟨_,(false),(rs_),H',⟨by have := HK1.out;first|omega|exact Nat.le_refl _⟩,⟨by (with_reducible repeat (first|apply Kd.R_alloc|apply Kd.R_drewN|apply Kd.R_drew));exact HO_5.out⟩,⟨bl_ HB.out⟩⟩
      rw [if_neg c7] at H
      have c7b0 : ((bt a0 x6_1) == 37) = false := beq_eq_false_iff_ne.mpr c7
      have c7b1 : ((bt a0 x6_1) != 37) = true := bne_iff_ne.mpr c7
      have H' := Aside0.mk H
      clear H
      have p6 : 0 ≤ (x6_1 : Int) := odt_
      have q6 : x6_1 < (a0.size : Int) := odt_
      have hx6 := bt_at a0 x6_1
      replace p6 := eq_true p6
      replace q6 := eq_true q6
      go_wp2
      go_meet
      case rel => exact ⟨_,(false),(rs_),H',⟨by have := HK1.out;first|omega|exact Nat.le_refl _⟩,⟨by (with_reducible repeat (first|apply Kd.R_alloc|apply Kd.R_drewN|apply Kd.R_drew));exact HO_5.out⟩,⟨bl_ HB.out⟩⟩
     rw [if_neg c5] at H
     exact absurd H (by simp)
    case rest =>
     clear HC4
     try clear c1
     try clear p1
     try clear q1
     try clear hx1
     try clear p2
     try clear c3
     try clear c3b0
     try clear c5
     try clear c5b0
     try clear p6
     try clear q6
     try clear hx6
     try clear c7
     try clear c7b0
     try clear c7b1
     try clear c8
     try clear c8b0
     try clear c10
     try clear c10b0
     try clear c11
     try clear c11b0
     try clear p12
     try clear q12
     try clear hx12
     try clear c14
     try clear c14b0
     try clear c16
     try clear c16b0
     try clear p17
     try clear q17
     try clear hx17
     try clear p12
     try clear p17
     try clear p2
     try clear p6
     try clear q12
     try clear q17
     try clear q6
     obtain ⟨kq,x19_3,rfl,HA,HJ3,HO_5,HB⟩ := hcut
     cases kq with
     | zero => exact absurd HA.out (by simp [spec_Decoded.j1])
     | succ kj3 =>
      have H := HA.out
      clear HA
      simp only [spec_Decoded.j1] at H
      by_cases c19 : x19_3 = true
      ·
       subst c19
       have H1 : (if 0 ≤ (wrap64 (x6_1 + 1)) then (if (wrap64 (x6_1 + 1)) < (a0.size : Int) then ((spec_hexOf.f kj3 (bt a0 (wrap64 (x6_1 + 1)))).bind fun t358 => (if 0 ≤ (wrap64 (x6_1 + 2)) then (if (wrap64 (x6_1 + 2)) < (a0.size : Int) then ((spec_hexOf.f kj3 (bt a0 (wrap64 (x6_1 + 2)))).bind fun t359 => (if x5_1.length < 140737488355328 then (spec_Decoded.l0 kj3 a0 a1 (x5_1 ++ [(wrap64 ((wrap64 (16 * t358)) + t359)) % 256]) (wrap64 ((wrap64 (x6_1 + 2)) + 1))) else (none))) else (none)) else (none))) else (none)) else (none)) = some r := by rw [if_pos rfl] at H;exact H
       clear H
       have H := H1
       clear H1
       obtain ⟨ji20,hji20⟩ : ∃ j_ : Int,(wrap64 (x6_1 + 1)) = j_ := ⟨_,rfl⟩
       replace H : (if 0 ≤ (ji20) then (if (ji20) < (a0.size : Int) then ((spec_hexOf.f kj3 (bt a0 (ji20))).bind fun t358 => (if 0 ≤ (wrap64 (x6_1 + 2)) then (if (wrap64 (x6_1 + 2)) < (a0.size : Int) then ((spec_hexOf.f kj3 (bt a0 (wrap64 (x6_1 + 2)))).bind fun t359 => (if x5_1.length < 140737488355328 then (spec_Decoded.l0 kj3 a0 a1 (x5_1 ++ [(wrap64 ((wrap64 (16 * t358)) + t359)) % 256]) (wrap64 ((wrap64 (x6_1 + 2)) + 1))) else (none))) else (none)) else (none))) else (none)) else (none)) = some r := by first|(rw [hji20] at H;exact H)|(simp only [hji20] at H ⊢;exact H)
       have hji20w : (IntKind.i64.wrap (x6_1 + 1)) = ji20 := (i64_w _).trans hji20
       by_cases c21 : 0 ≤ (ji20)
       ·
        rw [if_pos c21] at H
        have c21b0 : decide (0 ≤ (ji20)) = true := decide_eq_true c21
        clear c21
        by_cases c22 : (ji20) < (a0.size : Int)
        ·
         rw [if_pos c22] at H
         have c22b0 : decide ((ji20) < (a0.size : Int)) = true := decide_eq_true c22
         clear c22
         replace H := Option.bind_eq_some_iff.mp H
         obtain ⟨t358,A240,H⟩ := H
         replace H : (if 0 ≤ (wrap64 (x6_1 + 2)) then (if (wrap64 (x6_1 + 2)) < (a0.size : Int) then ((spec_hexOf.f kj3 (bt a0 (wrap64 (x6_1 + 2)))).bind fun t359 => (if x5_1.length < 140737488355328 then (spec_Decoded.l0 kj3 a0 a1 (x5_1 ++ [(wrap64 ((wrap64 (16 * t358)) + t359)) % 256]) (wrap64 ((wrap64 (x6_1 + 2)) + 1))) else (none))) else (none)) else (none)) = some r := H
         have A24 := Aside0.mk A240
         clear A240
         obtain ⟨ji25,hji25⟩ : ∃ j_ : Int,(wrap64 (x6_1 + 2)) = j_ := ⟨_,rfl⟩
         replace H : (if 0 ≤ (ji25) then (if (ji25) < (a0.size : Int) then ((spec_hexOf.f kj3 (bt a0 (ji25))).bind fun t359 => (if x5_1.length < 140737488355328 then (spec_Decoded.l0 kj3 a0 a1 (x5_1 ++ [(wrap64 ((wrap64 (16 * t358)) + t359)) % 256]) (wrap64 ((ji25) + 1))) else (none))) else (none)) else (none)) = some r := by first|(rw [hji25] at H;exact H)|(simp only [hji25] at H ⊢;exact H)
         (try rw [hji25] at A24)
         have hji25w : (IntKind.i64.wrap (x6_1 + 2)) = ji25 := (i64_w _).trans hji25
         by_cases c26 : 0 ≤ (ji25)
         ·
          rw [if_pos c26] at H
          have c26b0 : decide (0 ≤ (ji25)) = true := decide_eq_true c26
          clear c26
          by_cases c27 : (ji25) < (a0.size : Int)
          ·
           rw [if_pos c27] at H
           have c27b0 : decide ((ji25) < (a0.size : Int)) = true := decide_eq_true c27
           clear c27
           replace H := Option.bind_eq_some_iff.mp H
           obtain ⟨t359,A290,H⟩ := H
           replace H : (if x5_1.length < 140737488355328 then (spec_Decoded.l0 kj3 a0 a1 (x5_1 ++ [(wrap64 ((wrap64 (16 * t358)) + t359)) % 256]) (wrap64 ((ji25) + 1))) else (none)) = some r := H
           have A29 := Aside0.mk A290
           clear A290
           by_cases c30 : x5_1.length < 140737488355328
           ·
            rw [if_pos c30] at H
            have LMc30 := Aside0.mk c30
            clear c30
            obtain ⟨y360,hy360⟩ : ∃ y_ : List Int,y_ = (x5_1 ++ [(wrap64 ((wrap64 (16 * t358)) + t359)) % 256]) := ⟨_,rfl⟩
            replace H : (spec_Decoded.l0 kj3 a0 a1 y360 (wrap64 ((ji25) + 1))) = some r := by first|(rw [hy360];with_reducible exact H)|(have H2_ := (Option.bind_some _ _).symm.trans H;rw [hy360];with_reducible exact H2_)|(have H2_ := (Option.bind_some _ _).symm.trans H;with_reducible exact H2_)|with_reducible exact H|(rw [hy360];exact H)|exact H
            have Ny360 := Aside0.mk hy360
            clear hy360
            have H' := Aside0.mk H
            clear H
            try go_wp2
            have n0_ := Aside0.mk (Kd.R_drew HO_5.out)
            have n1_ := Aside0.mk (below_drew1 HB.out)
            clear HO_5
            clear HB
            have HO_5 := n0_
            have HB := n1_
            clear n0_ n1_
            have p23 : 0 ≤ ((ji20) : Int) := odt_
            have q23 : (ji20) < (a0.size : Int) := odt_
            have hx23 := bt_at a0 (ji20)
            replace p23 := eq_true p23
            replace q23 := eq_true q23
            have p28 : 0 ≤ ((ji25) : Int) := odt_
            have q28 : (ji25) < (a0.size : Int) := odt_
            have hx28 := bt_at a0 (ji25)
            replace p28 := eq_true p28
            replace q28 := eq_true q28
            refine start_ (n := 17) (S := fun w' => True) (ds := []) #[false,false,false,false,false,false,false,false,false,false,false,false,false,false,false,false,false] (by kernel_rfl) rfl rfl trivial (fun hHeld => ?_);refine with_tabW spec_Decoded.tab7 spec_Decoded.bits7 (fun HT_ HW_ => ?_)
            generalize wc.drew = w31 at HO_5 HB hHeld ⊢
            refine pure_ (i := 0) (N := some 47) (v := ?_) (a' := ?_) #[true,false,false,false,false,false,false,false,false,false,false,false,false,false,false,false,false] rfl rfl (any_of HT_.out (by kernel_rfl)) (fun _ _ _ h => h) (Or.inl ⟨by rfl,?_⟩) ?_ ?_
            rotate_left
            ·
             intro w'
             go_simp
             with_reducible rfl
            rotate_left
            ·
             simp only [Act.put,List.setIfInBounds_toArray,List.set_cons_zero,List.set_cons_succ,i64_w,i32_w]
             rfl
            refine pure_ (i := 1) (N := some 48) (v := ?_) (a' := ?_) #[true,true,false,false,false,false,false,false,false,false,false,false,false,false,false,false,false] rfl rfl (any_of HT_.out (by kernel_rfl)) (fun _ _ _ h => h) (Or.inl ⟨by rfl,?_⟩) ?_ ?_
            rotate_left
            ·
             intro w'
             go_simp
             with_reducible rfl
            rotate_left
            ·
             simp only [Act.put,List.setIfInBounds_toArray,List.set_cons_zero,List.set_cons_succ,i64_w,i32_w]
             rfl
            refine pure_ (i := 2) (N := some 49) (v := ?_) (a' := ?_) #[true,true,true,false,false,false,false,false,false,false,false,false,false,false,false,false,false] rfl rfl (any_of HT_.out (by kernel_rfl)) (fun _ _ _ h => h) (Or.inl ⟨by rfl,?_⟩) ?_ ?_
            rotate_left
            ·
             intro w'
             go_simp
             with_reducible rfl
            rotate_left
            ·
             simp only [Act.put,List.setIfInBounds_toArray,List.set_cons_zero,List.set_cons_succ,i64_w,i32_w]
             rfl
            refine pure_ (i := 3) (N := some 50) (v := ?_) (a' := ?_) #[true,true,true,true,false,false,false,false,false,false,false,false,false,false,false,false,false] rfl rfl (any_of HT_.out (by kernel_rfl)) (fun _ _ _ h => h) (Or.inl ⟨by rfl,?_⟩) ?_ ?_
            rotate_left
            ·
             intro w'
             go_simp
             with_reducible rfl
            rotate_left
            ·
             simp only [Act.put,List.setIfInBounds_toArray,List.set_cons_zero,List.set_cons_succ,i64_w,i32_w]
             rfl
            refine pure_ (i := 7) (N := some 54) (v := ?_) (a' := ?_) #[true,true,true,true,false,false,false,true,false,false,false,false,false,false,false,false,false] rfl rfl (any_of HT_.out (by kernel_rfl)) (fun _ _ _ h => h) (Or.inl ⟨by rfl,?_⟩) ?_ ?_
            rotate_left
            ·
             intro w'
             go_simp
             with_reducible rfl
            rotate_left
            ·
             simp only [Act.put,List.setIfInBounds_toArray,List.set_cons_zero,List.set_cons_succ,i64_w,i32_w]
             rfl
            refine pure_ (i := 8) (N := some 55) (v := ?_) (a' := ?_) #[true,true,true,true,false,false,false,true,true,false,false,false,false,false,false,false,false] rfl rfl (any_of HT_.out (by kernel_rfl)) (fun _ _ _ h => h) (Or.inl ⟨by rfl,?_⟩) ?_ ?_
            rotate_left
            ·
             intro w'
             go_simp
             with_reducible rfl
            rotate_left
            ·
             simp only [Act.put,List.setIfInBounds_toArray,List.set_cons_zero,List.set_cons_succ,i64_w,i32_w]
             rfl
            refine pure_ (i := 9) (N := some 56) (v := ?_) (a' := ?_) #[true,true,true,true,false,false,false,true,true,true,false,false,false,false,false,false,false] rfl rfl (any_of HT_.out (by kernel_rfl)) (fun _ _ _ h => h) (Or.inl ⟨by rfl,?_⟩) ?_ ?_
            rotate_left
            ·
             intro w'
             go_simp
             with_reducible rfl
            rotate_left
            ·
             simp only [Act.put,List.setIfInBounds_toArray,List.set_cons_zero,List.set_cons_succ,i64_w,i32_w]
             rfl
            refine take_ (i := 4) (N := some 51) (v := ?_) (a' := ?_) #[true,true,true,true,true,false,false,true,true,true,false,false,false,false,false,false,false] rfl rfl (take_ofW HT_.out HW_.out (by kernel_rfl)) (fun _ _ _ h => h) (Or.inl ⟨by rfl,?_⟩) hHeld ?_ ?_
            rotate_left
            ·
             intro w' _
             go_simp
             with_reducible rfl
            rotate_left
            ·
             simp only [Act.put,List.setIfInBounds_toArray,List.set_cons_zero,List.set_cons_succ,i64_w,i32_w]
             rfl
            refine take_ (i := 10) (N := some 57) (v := ?_) (a' := ?_) #[true,true,true,true,true,false,false,true,true,true,true,false,false,false,false,false,false] rfl rfl (take_ofW HT_.out HW_.out (by kernel_rfl)) (fun _ _ _ h => h) (Or.inl ⟨by rfl,?_⟩) hHeld ?_ ?_
            rotate_left
            ·
             intro w' _
             go_simp
             with_reducible rfl
            rotate_left
            ·
             simp only [Act.put,List.setIfInBounds_toArray,List.set_cons_zero,List.set_cons_succ,i64_w,i32_w]
             rfl
            refine one_ (i := 5) (N := some 52) #[true,true,true,true,true,true,false,true,true,true,true,false,false,false,false,false,false] rfl rfl (one_of HT_.out (by kernel_rfl)) (by decide) (fun K hK => ?_)
            refine goes_ Try.func75 (by kernel_rfl) rfl #[.int .u8 (bt a0 (ji20))] (by rfl) rfl rfl (by (try simp only [List.map_toArray,List.map_cons,List.map_nil]);first|done|(simp only [hji20];rfl)|rfl|(simp only [List.length_drop,List.length_take];rfl)) ?_
            with_reducible refine (spec_hexOf.calls kj3 (bt a0 (ji20)) t358 _ A24.out).mono ?_
            rintro e w' ⟨rfl,⟨nd,rfl⟩⟩
            refine ⟨_,rfl,?_⟩
            refine hK.out _ _ trivial (fun hHeld => ?_)
            clear hK K
            refine norm_ (a' := ?_) ?_ ?_
            rotate_left
            ·
             show Act.put _ (some 52) _ = _
             simp only [Act.put,List.setIfInBounds_toArray,List.set_cons_zero,List.set_cons_succ,i64_w,i32_w]
             rfl
            refine pure_ (i := 6) (N := some 53) (v := ?_) (a' := ?_) #[true,true,true,true,true,true,true,true,true,true,true,false,false,false,false,false,false] rfl rfl (any_of HT_.out (by kernel_rfl)) (fun _ _ _ h => h) (Or.inl ⟨by rfl,?_⟩) ?_ ?_
            rotate_left
            ·
             intro w'
             go_simp
             with_reducible rfl
            rotate_left
            ·
             simp only [Act.put,List.setIfInBounds_toArray,List.set_cons_zero,List.set_cons_succ,i64_w,i32_w]
             rfl
            refine one_ (i := 11) (N := some 58) #[true,true,true,true,true,true,true,true,true,true,true,true,false,false,false,false,false] rfl rfl (one_of HT_.out (by kernel_rfl)) (by decide) (fun K hK => ?_)
            refine goes_ Try.func75 (by kernel_rfl) rfl #[.int .u8 (bt a0 (ji25))] (by rfl) rfl rfl (by (try simp only [List.map_toArray,List.map_cons,List.map_nil]);first|done|(simp only [hji25];rfl)|rfl|(simp only [List.length_drop,List.length_take];rfl)) ?_
            with_reducible refine (spec_hexOf.calls kj3 (bt a0 (ji25)) t359 _ A29.out).mono ?_
            rintro e w' ⟨rfl,⟨nd,rfl⟩⟩
            refine ⟨_,rfl,?_⟩
            refine hK.out _ _ trivial (fun hHeld => ?_)
            clear hK K
            refine norm_ (a' := ?_) ?_ ?_
            rotate_left
            ·
             show Act.put _ (some 58) _ = _
             simp only [Act.put,List.setIfInBounds_toArray,List.set_cons_zero,List.set_cons_succ,i64_w,i32_w]
             rfl
            refine pure_ (i := 12) (N := some 59) (v := ?_) (a' := ?_) #[true,true,true,true,true,true,true,true,true,true,true,true,true,false,false,false,false] rfl rfl (any_of HT_.out (by kernel_rfl)) (fun _ _ _ h => h) (Or.inl ⟨by rfl,?_⟩) ?_ ?_
            rotate_left
            ·
             intro w'
             go_simp
             with_reducible rfl
            rotate_left
            ·
             simp only [Act.put,List.setIfInBounds_toArray,List.set_cons_zero,List.set_cons_succ,i64_w,i32_w]
             rfl
            refine pure_ (i := 13) (N := some 60) (v := ?_) (a' := ?_) #[true,true,true,true,true,true,true,true,true,true,true,true,true,true,false,false,false] rfl rfl (any_of HT_.out (by kernel_rfl)) (fun _ _ _ h => h) (Or.inl ⟨by rfl,?_⟩) ?_ ?_
            rotate_left
            ·
             intro w'
             go_simp
             with_reducible rfl
            rotate_left
            ·
             simp only [Act.put,List.setIfInBounds_toArray,List.set_cons_zero,List.set_cons_succ,i64_w,i32_w]
             rfl
            refine one_ (i := 14) (N := some 61) #[true,true,true,true,true,true,true,true,true,true,true,true,true,true,true,false,false] rfl rfl (one_of HT_.out (by kernel_rfl)) (by decide) (fun K hK => ?_)
            refine value_ (w1 := ?_) (v := ?_) (by rfl) rfl ?_ ?_
            rotate_left 2
            ·
             go_simp
             constructor
             ·
              rfl
             rfl
            refine hK.out _ _ trivial (fun hHeld => ?_)
            clear hK K
            refine norm_ (a' := ?_) ?_ ?_
            rotate_left
            ·
             show Act.put _ (some 61) _ = _
             simp only [Act.put,List.setIfInBounds_toArray,List.set_cons_zero,List.set_cons_succ,i64_w,i32_w]
             rfl
            refine one_ (i := 15) (N := some 62) #[true,true,true,true,true,true,true,true,true,true,true,true,true,true,true,true,false] rfl rfl (one_of HT_.out (by kernel_rfl)) (by decide) (fun K hK => ?_)
            refine Kd.R_append_step (Kd.int .u8) (w0 := w) w.heap.size (by rfl) (.tmp 47) (.tmp 61) 49 5 (.int .u8 0) 1 rfl Try.underlying49 info5 rfl (by decide) (by omega) u5 x5_1 ((wrap64 ((wrap64 (16 * t358)) + t359)) % 256) [.int .u8 ((wrap64 ((wrap64 (16 * t358)) + t359)) % 256)] (fun _ => True) (fun _ => False) rfl rfl ?aP (fun _ hk => hk.elim) ?aF ?aO ?aB ?aS ?aL ?_
            (case aP => exact rfl)
            (case aB => exact (bl_ HB.out))
            (case aF => exact (fun _ _ => trivial))
            (case aO => exact (by (with_reducible repeat (first|apply Kd.R_alloc|apply Kd.R_drewN|apply Kd.R_drew));exact HO_5.out))
            (case aS => exact (below_size (bl_ HB.out)))
            (case aL => have := LMc30.out;omega)
            intro v361 w32 ho hb hg hat
            rw [← Ny360.out] at ho
            have n0_ := Aside0.mk (hb)
            have n1_ := Aside0.mk (ho)
            clear HB
            clear HO_5
            have HB := n0_
            have HO362 := n1_
            clear n0_ n1_
            clear ho hb hg hat
            refine hK.out _ _ trivial (fun hHeld => ?_)
            clear hK K
            refine norm_ (a' := ?_) ?_ ?_
            rotate_left
            ·
             show Act.put _ (some 62) _ = _
             simp only [Act.put,List.setIfInBounds_toArray,List.set_cons_zero,List.set_cons_succ,i64_w,i32_w]
             rfl
            refine pure_ (i := 16) (N := some 5) (v := ?_) (a' := ?_) #[true,true,true,true,true,true,true,true,true,true,true,true,true,true,true,true,true] rfl rfl (any_of HT_.out (by kernel_rfl)) (fun _ _ _ h => h) (Or.inl ⟨by rfl,?_⟩) ?_ ?_
            rotate_left
            ·
             intro w'
             go_simp
             with_reducible rfl
            rotate_left
            ·
             simp only [Act.put,List.setIfInBounds_toArray,List.set_cons_zero,List.set_cons_succ,i64_w,i32_w]
             rfl
            refine done_ (done_of HT_.out (by kernel_rfl)) ?_
            try go_wp2
            go_roundg kj3
            case measure => have := HK1.out;have := HJ3.out;omega
            case rel => exact ⟨(y360),(wrap64 ((ji25) + 1)),(by first|rfl|(simp;done)|(simp only [← hji25] <;> (first|rfl|simp))|(simp [*];done)|(simp [YtbkeakeldegkeaaX.isEmpty_ne];done)),H',⟨by have := HK1.out;have := HJ3.out;omega⟩,⟨by (with_reducible repeat (first|apply Kd.R_alloc|apply Kd.R_drewN|apply Kd.R_drew));exact HO362.out⟩,⟨bl_ HB.out⟩⟩
           rw [if_neg c30] at H
           exact absurd H (by simp)
          rw [if_neg c27] at H
          exact absurd H (by simp)
         rw [if_neg c26] at H
         exact absurd H (by simp)
        rw [if_neg c22] at H
        exact absurd H (by simp)
       rw [if_neg c21] at H
       exact absurd H (by simp)
      replace c19 := Bool.eq_false_iff.mpr c19
      subst c19
      have H1 : (if 0 ≤ x6_1 then (if x6_1 < (a0.size : Int) then (if (bt a0 x6_1) = 43 then (if a1 = true then (if x5_1.length < 140737488355328 then (spec_Decoded.l0 kj3 a0 a1 (x5_1 ++ [32]) (wrap64 (x6_1 + 1))) else (none)) else (if x5_1.length < 140737488355328 then (spec_Decoded.l0 kj3 a0 a1 (x5_1 ++ [bt a0 x6_1]) (wrap64 (x6_1 + 1))) else (none))) else (if x5_1.length < 140737488355328 then (spec_Decoded.l0 kj3 a0 a1 (x5_1 ++ [bt a0 x6_1]) (wrap64 (x6_1 + 1))) else (none))) else (none)) else (none)) = some r := by rw [if_neg (show ¬ (false = true) by decide)] at H;exact H
      clear H
      have H := H1
      clear H1
      by_cases c33 : 0 ≤ x6_1
      ·
       rw [if_pos c33] at H
       have c33b0 : decide (0 ≤ x6_1) = true := decide_eq_true c33
       clear c33
       by_cases c34 : x6_1 < (a0.size : Int)
       ·
        rw [if_pos c34] at H
        have c34b0 : decide (x6_1 < (a0.size : Int)) = true := decide_eq_true c34
        clear c34
        by_cases c36 : (bt a0 x6_1) = 43
        ·
         rw [if_pos c36] at H
         have c36b0 : ((bt a0 x6_1) == 43) = true := beq_iff_eq.mpr c36
         have c36b1 : ((bt a0 x6_1) != 43) = false := bne_eq_false_iff_eq.mpr c36
         clear c36
         by_cases c37 : a1 = true
         ·
          subst c37
          have H1 : (if x5_1.length < 140737488355328 then (spec_Decoded.l0 kj3 a0 true (x5_1 ++ [32]) (wrap64 (x6_1 + 1))) else (none)) = some r := by rw [if_pos rfl] at H;exact H
          clear H
          have H := H1
          clear H1
          by_cases c38 : x5_1.length < 140737488355328
          ·
           rw [if_pos c38] at H
           have LMc38 := Aside0.mk c38
           clear c38
           obtain ⟨y363,hy363⟩ : ∃ y_ : List Int,y_ = (x5_1 ++ [32]) := ⟨_,rfl⟩
           replace H : (spec_Decoded.l0 kj3 a0 true y363 (wrap64 (x6_1 + 1))) = some r := by first|(rw [hy363];with_reducible exact H)|(have H2_ := (Option.bind_some _ _).symm.trans H;rw [hy363];with_reducible exact H2_)|(have H2_ := (Option.bind_some _ _).symm.trans H;with_reducible exact H2_)|with_reducible exact H|(rw [hy363];exact H)|exact H
           have Ny363 := Aside0.mk hy363
           clear hy363
           have H' := Aside0.mk H
           clear H
           have p35 : 0 ≤ (x6_1 : Int) := odt_
           have q35 : x6_1 < (a0.size : Int) := odt_
           have hx35 := bt_at a0 x6_1
           replace p35 := eq_true p35
           replace q35 := eq_true q35
           go_wp2_with (first|((with_reducible refine gate_builtin (b := .append) (xs := #[.tmp 73,.tmp 74]) rfl ?_);(try (refine gate_guard (by rfl) ?_;dsimp only));at_builtin;refine Kd.R_append (Kd.int .u8) (w0 := w) w.heap.size rfl (.tmp 73) (.tmp 74) 49 5 (.int .u8 0) 1 rfl Try.underlying49 info5 rfl (by decide) (by omega) u5 x5_1 32 [.int .u8 32] (fun _ => True) (fun _ => False) rfl rfl ?aP (fun _ hk => hk.elim) ?aF ?aO ?aB ?aS ?aL ?_;(case aP => exact rfl);(case aB => exact (bl_ HB.out));(case aF => exact (fun _ _ => trivial));(case aO => exact (by (with_reducible repeat (first|apply Kd.R_alloc|apply Kd.R_drewN|apply Kd.R_drew));exact HO_5.out));(case aS => exact (below_size (bl_ HB.out)));(case aL => have := LMc38.out;omega);intro v364 w39 ho hb hg hat;rw [← Ny363.out] at ho;have n0_ := Aside0.mk (hb);have n1_ := Aside0.mk (ho);clear HB;clear HO_5;have HB := n0_;have HO365 := n1_;clear n0_ n1_;clear ho hb hg hat))
           go_roundg kj3
           case measure => have := HK1.out;have := HJ3.out;omega
           case rel => exact ⟨(y363),(wrap64 (x6_1 + 1)),(rs_),H',⟨by have := HK1.out;have := HJ3.out;omega⟩,⟨by (with_reducible repeat (first|apply Kd.R_alloc|apply Kd.R_drewN|apply Kd.R_drew));exact HO365.out⟩,⟨bl_ HB.out⟩⟩
          rw [if_neg c38] at H
          exact absurd H (by simp)
         replace c37 := Bool.eq_false_iff.mpr c37
         subst c37
         have H1 : (if x5_1.length < 140737488355328 then (spec_Decoded.l0 kj3 a0 false (x5_1 ++ [bt a0 x6_1]) (wrap64 (x6_1 + 1))) else (none)) = some r := by rw [if_neg (show ¬ (false = true) by decide)] at H;exact H
         clear H
         have H := H1
         clear H1
         by_cases c41 : x5_1.length < 140737488355328
         ·
          rw [if_pos c41] at H
          have LMc41 := Aside0.mk c41
          clear c41
          obtain ⟨y366,hy366⟩ : ∃ y_ : List Int,y_ = (x5_1 ++ [bt a0 x6_1]) := ⟨_,rfl⟩
          replace H : (spec_Decoded.l0 kj3 a0 false y366 (wrap64 (x6_1 + 1))) = some r := by first|(rw [hy366];with_reducible exact H)|(have H2_ := (Option.bind_some _ _).symm.trans H;rw [hy366];with_reducible exact H2_)|(have H2_ := (Option.bind_some _ _).symm.trans H;with_reducible exact H2_)|with_reducible exact H|(rw [hy366];exact H)|exact H
          have Ny366 := Aside0.mk hy366
          clear hy366
          have H' := Aside0.mk H
          clear H
          have p35 : 0 ≤ (x6_1 : Int) := odt_
          have q35 : x6_1 < (a0.size : Int) := odt_
          have hx35 := bt_at a0 x6_1
          replace p35 := eq_true p35
          replace q35 := eq_true q35
          have p40 : 0 ≤ (x6_1 : Int) := odt_
          have q40 : x6_1 < (a0.size : Int) := odt_
          have hx40 := bt_at a0 x6_1
          replace p40 := eq_true p40
          replace q40 := eq_true q40
          go_wp2_with (first|((with_reducible refine gate_builtin (b := .append) (xs := #[.tmp 13,.tmp 17]) rfl ?_);(try (refine gate_guard (by rfl) ?_;dsimp only));at_builtin;refine Kd.R_append (Kd.int .u8) (w0 := w) w.heap.size rfl (.tmp 13) (.tmp 17) 49 5 (.int .u8 0) 1 rfl Try.underlying49 info5 rfl (by decide) (by omega) u5 x5_1 (bt a0 x6_1) [.int .u8 (bt a0 x6_1)] (fun _ => True) (fun _ => False) rfl rfl ?aP (fun _ hk => hk.elim) ?aF ?aO ?aB ?aS ?aL ?_;(case aP => exact rfl);(case aB => exact (bl_ HB.out));(case aF => exact (fun _ _ => trivial));(case aO => exact (by (with_reducible repeat (first|apply Kd.R_alloc|apply Kd.R_drewN|apply Kd.R_drew));exact HO_5.out));(case aS => exact (below_size (bl_ HB.out)));(case aL => have := LMc41.out;omega);intro v367 w42 ho hb hg hat;rw [← Ny366.out] at ho;have n0_ := Aside0.mk (hb);have n1_ := Aside0.mk (ho);clear HB;clear HO_5;have HB := n0_;have HO368 := n1_;clear n0_ n1_;clear ho hb hg hat))
          go_roundg kj3
          case measure => have := HK1.out;have := HJ3.out;omega
          case rel => exact ⟨(y366),(wrap64 (x6_1 + 1)),(rs_),H',⟨by have := HK1.out;have := HJ3.out;omega⟩,⟨by (with_reducible repeat (first|apply Kd.R_alloc|apply Kd.R_drewN|apply Kd.R_drew));exact HO368.out⟩,⟨bl_ HB.out⟩⟩
         rw [if_neg c41] at H
         exact absurd H (by simp)
        rw [if_neg c36] at H
        have c36b0 : ((bt a0 x6_1) == 43) = false := beq_eq_false_iff_ne.mpr c36
        have c36b1 : ((bt a0 x6_1) != 43) = true := bne_iff_ne.mpr c36
        by_cases c44 : x5_1.length < 140737488355328
        ·
         rw [if_pos c44] at H
         have LMc44 := Aside0.mk c44
         clear c44
         obtain ⟨y369,hy369⟩ : ∃ y_ : List Int,y_ = (x5_1 ++ [bt a0 x6_1]) := ⟨_,rfl⟩
         replace H : (spec_Decoded.l0 kj3 a0 a1 y369 (wrap64 (x6_1 + 1))) = some r := by first|(rw [hy369];with_reducible exact H)|(have H2_ := (Option.bind_some _ _).symm.trans H;rw [hy369];with_reducible exact H2_)|(have H2_ := (Option.bind_some _ _).symm.trans H;with_reducible exact H2_)|with_reducible exact H|(rw [hy369];exact H)|exact H
         have Ny369 := Aside0.mk hy369
         clear hy369
         have H' := Aside0.mk H
         clear H
         have p35 : 0 ≤ (x6_1 : Int) := odt_
         have q35 : x6_1 < (a0.size : Int) := odt_
         have hx35 := bt_at a0 x6_1
         replace p35 := eq_true p35
         replace q35 := eq_true q35
         have p43 : 0 ≤ (x6_1 : Int) := odt_
         have q43 : x6_1 < (a0.size : Int) := odt_
         have hx43 := bt_at a0 x6_1
         replace p43 := eq_true p43
         replace q43 := eq_true q43
         go_wp2_with (first|((with_reducible refine gate_builtin (b := .append) (xs := #[.tmp 13,.tmp 17]) rfl ?_);(try (refine gate_guard (by rfl) ?_;dsimp only));at_builtin;refine Kd.R_append (Kd.int .u8) (w0 := w) w.heap.size rfl (.tmp 13) (.tmp 17) 49 5 (.int .u8 0) 1 rfl Try.underlying49 info5 rfl (by decide) (by omega) u5 x5_1 (bt a0 x6_1) [.int .u8 (bt a0 x6_1)] (fun _ => True) (fun _ => False) rfl rfl ?aP (fun _ hk => hk.elim) ?aF ?aO ?aB ?aS ?aL ?_;(case aP => exact rfl);(case aB => exact (bl_ HB.out));(case aF => exact (fun _ _ => trivial));(case aO => exact (by (with_reducible repeat (first|apply Kd.R_alloc|apply Kd.R_drewN|apply Kd.R_drew));exact HO_5.out));(case aS => exact (below_size (bl_ HB.out)));(case aL => have := LMc44.out;omega);intro v370 w45 ho hb hg hat;rw [← Ny369.out] at ho;have n0_ := Aside0.mk (hb);have n1_ := Aside0.mk (ho);clear HB;clear HO_5;have HB := n0_;have HO371 := n1_;clear n0_ n1_;clear ho hb hg hat))
         go_roundg kj3
         case measure => have := HK1.out;have := HJ3.out;omega
         case rel => exact ⟨(y369),(wrap64 (x6_1 + 1)),(rs_),H',⟨by have := HK1.out;have := HJ3.out;omega⟩,⟨by (with_reducible repeat (first|apply Kd.R_alloc|apply Kd.R_drewN|apply Kd.R_drew));exact HO371.out⟩,⟨bl_ HB.out⟩⟩
        rw [if_neg c44] at H
        exact absurd H (by simp)
       rw [if_neg c34] at H
       exact absurd H (by simp)
      rw [if_neg c33] at H
      exact absurd H (by simp)
   rw [if_neg c3] at H
   have c3b0 : decide (x6_1 < (a0.size : Int)) = false := decide_eq_false c3
   clear c3
   obtain rfl := Option.some.inj H
   have hcv46 := own_string (P := Try.prog) Try.underlying49 Try.underlying5 Try.underlying9 (Kd.own_of_R HO_5.out)
   go_wp2
   go_ret
   exact ⟨by first|rfl|(simp [errW_none,errW_some] <;> rfl)|(simp [*,errW_none,errW_some] <;> rfl),bl_ HB.out⟩
end Go.Proofs.Ytbkeakeldegkeaa.Q
end
