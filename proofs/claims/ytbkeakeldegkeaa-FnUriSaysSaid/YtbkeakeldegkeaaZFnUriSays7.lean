/- FnUriSays: the law's function, called with any arguments, returns true and leaves its arguments as they were: every input, no condition. Part 8 of 16. -/
import Derived.Test.YtbkeakeldegkeaaZFnUriSays1
import Derived.Test.YtbkeakeldegkeaaZFnUriSays6
import Derived.Test.YtbkeakeldegkeaaZFnUriSays5
import Derived.Test.YtbkeakeldegkeaaZFnUriSays3
import Derived.Test.YtbkeakeldegkeaaZFnUriSays2
import Derived.Deep.RegionWith
import Derived.Deep.RegionLaw
set_option linter.unusedVariables false
set_option linter.unusedSimpArgs false
section
namespace Go.Proofs.Ytbkeakeldegkeaa.Q
open Go.RowKit Go.Proofs.YtbkeakeldegkeaaW.PrintWords Go.Proofs.YtbkeakeldegkeaaW.PrintLast Go.Proofs.YtbkeakeldegkeaaW.PrintMore
attribute [local go_sem] max2_int min2_int max_two min_two max_three min_three max_four min_four
attribute [local go_sem high] eqA27
def laws_parses.f  : Option (Bool) := (impl_UriOf.f ⟨#[]⟩ ⟨#[104,116,116,112,58,47,47,104,47,97,63,98,61,99,35,100]⟩).bind fun bt183 => (if bt183.2.2.2.2.2.2.2.2 = true then (some (bt183.1.toList == ([104,116,116,112] : List UInt8) && (bt183.2.1.toList == ([104] : List UInt8) && (bt183.2.2.1.toList == ([47,97] : List UInt8) && (bt183.2.2.2.1.toList == ([47,97] : List UInt8) && (bt183.2.2.2.2.1.toList == ([98,61,99] : List UInt8) && (bt183.2.2.2.2.2.1.toList == ([100] : List UInt8) && (bt183.2.2.2.2.2.2.1.toList == ([] : List UInt8) && (bt183.2.2.2.2.2.2.2.1.toList == ([] : List UInt8)))))))))) else (some false))
set_option maxHeartbeats 8000000 in
set_option maxRecDepth 100000 in
theorem laws_parses.calls  (r : Bool) (w : World) (h : laws_parses.f  = some r) :
  Calls Try.prog 12 #[] w fun e w' => e = .returned (.bool r) ∧ Below w.heap.size w w' := by
 have hu27 := Try.underlying27
 have HB := Aside0.mk (Below.refl w.heap.size w)
 have H : ((impl_UriOf.f ⟨#[]⟩ ⟨#[104,116,116,112,58,47,47,104,47,97,63,98,61,99,35,100]⟩).bind fun bt183 => (if bt183.2.2.2.2.2.2.2.2 = true then (some (bt183.1.toList == ([104,116,116,112] : List UInt8) && (bt183.2.1.toList == ([104] : List UInt8) && (bt183.2.2.1.toList == ([47,97] : List UInt8) && (bt183.2.2.2.1.toList == ([47,97] : List UInt8) && (bt183.2.2.2.2.1.toList == ([98,61,99] : List UInt8) && (bt183.2.2.2.2.2.1.toList == ([100] : List UInt8) && (bt183.2.2.2.2.2.2.1.toList == ([] : List UInt8) && (bt183.2.2.2.2.2.2.2.1.toList == ([] : List UInt8)))))))))) else (some false))) = some r := h
 clear h
 replace H := Option.bind_eq_some_iff.mp H
 obtain ⟨⟨t183,t184,t185,t186,t187,t188,t189,t190,t191⟩,A10,H⟩ := H
 replace H : (if t191 = true then (some (t183.toList == ([104,116,116,112] : List UInt8) && (t184.toList == ([104] : List UInt8) && (t185.toList == ([47,97] : List UInt8) && (t186.toList == ([47,97] : List UInt8) && (t187.toList == ([98,61,99] : List UInt8) && (t188.toList == ([100] : List UInt8) && (t189.toList == ([] : List UInt8) && (t190.toList == ([] : List UInt8)))))))))) else (some false)) = some r := H
 have A1 := Aside0.mk A10
 clear A10
 by_cases c2 : t191 = true
 ·
  subst c2
  have H1 : (some (t183.toList == ([104,116,116,112] : List UInt8) && (t184.toList == ([104] : List UInt8) && (t185.toList == ([47,97] : List UInt8) && (t186.toList == ([47,97] : List UInt8) && (t187.toList == ([98,61,99] : List UInt8) && (t188.toList == ([100] : List UInt8) && (t189.toList == ([] : List UInt8) && (t190.toList == ([] : List UInt8)))))))))) = some r := by rw [if_pos rfl] at H;exact H
  clear H
  have H := H1
  clear H1
  obtain rfl := Option.some.inj H
  go_enter Try.func12,Try.ntmps12
  go_wp2_with (first|((with_reducible refine gate_callee (f := 18) rfl ?_);refine goesL_ (some 4) rfl rfl Try.func18 (by kernel_rfl) rfl #[.string ⟨#[]⟩,.string ⟨#[104,116,116,112,58,47,47,104,47,97,63,98,61,99,35,100]⟩] rfl (by (try simp only [List.map_toArray,List.map_cons,List.map_nil]);first|done|rfl|(simp only [List.length_drop,List.length_take];rfl)) ?_;(with_reducible refine (impl_UriOf.calls ⟨#[]⟩ ⟨#[104,116,116,112,58,47,47,104,47,97,63,98,61,99,35,100]⟩ t183 t184 t185 t186 t187 t188 t189 t190 true _ A1.out).mono ?_);rintro e w3 ⟨rfl,hb⟩;refine ⟨_,rfl,?_⟩;have n0_ := Aside0.mk (below_step (bl_ HB.out) hb);clear HB;have HB := n0_;clear n0_;(try clear hb);(try clear hb2);(try clear hk);(try clear hi))|((with_reducible refine gate_dst (N := 1) rfl ?_);refine box_event ?hg (N := 1) ?hd (cs := #[.string ⟨#[]⟩,.string ⟨#[]⟩,.string ⟨#[]⟩,.string ⟨#[]⟩,.string ⟨#[]⟩,.string ⟨#[]⟩,.string ⟨#[]⟩,.string ⟨#[]⟩]) (t := 27) ?hr ?_;(case hd => rfl);(case hg => rfl);(case hr => first|(go_simp;done)|(go_simp;rfl));intro gb192 hg w4 hbox hb;have n0_ := Aside0.mk (below_step (bl_ HB.out) hb);have n1_ := Aside0.mk (hbox);have n2_ := Aside0.mk ((by rw [hg];exact (below_size (bl_ HB.out)) : w.heap.size ≤ gb192));have n3_ := Aside0.mk ((by rw [hg];exact (below_size (bl_ HB.out)) : w.heap.size ≤ gb192));clear HB;have HB := n0_;have BK192 := n1_;have GW192 := n2_;have GE192 := n3_;clear n0_ n1_ n2_ n3_;clear hb hbox hg;have hcz5_0 : w4.cell? ⟨gb192,0,none⟩ = some (.string ⟨#[]⟩) := (blk_cell BK192.out 0).trans rfl;have hcz5_1 : w4.cell? ⟨gb192,1,none⟩ = some (.string ⟨#[]⟩) := (blk_cell BK192.out 1).trans rfl;have hcz5_2 : w4.cell? ⟨gb192,2,none⟩ = some (.string ⟨#[]⟩) := (blk_cell BK192.out 2).trans rfl;have hcz5_3 : w4.cell? ⟨gb192,3,none⟩ = some (.string ⟨#[]⟩) := (blk_cell BK192.out 3).trans rfl;have hcz5_4 : w4.cell? ⟨gb192,4,none⟩ = some (.string ⟨#[]⟩) := (blk_cell BK192.out 4).trans rfl;have hcz5_5 : w4.cell? ⟨gb192,5,none⟩ = some (.string ⟨#[]⟩) := (blk_cell BK192.out 5).trans rfl;have hcz5_6 : w4.cell? ⟨gb192,6,none⟩ = some (.string ⟨#[]⟩) := (blk_cell BK192.out 6).trans rfl;have hcz5_7 : w4.cell? ⟨gb192,7,none⟩ = some (.string ⟨#[]⟩) := (blk_cell BK192.out 7).trans rfl;have hfz5_0 := blk_frozen BK192.out 0;have hfz5_1 := blk_frozen BK192.out 1;have hfz5_2 := blk_frozen BK192.out 2;have hfz5_3 := blk_frozen BK192.out 3;have hfz5_4 := blk_frozen BK192.out 4;have hfz5_5 := blk_frozen BK192.out 5;have hfz5_6 := blk_frozen BK192.out 6;have hfz5_7 := blk_frozen BK192.out 7))
  go_ret
  exact ⟨by first|rfl|(simp [errW_none,errW_some] <;> rfl)|(simp [*,errW_none,errW_some] <;> rfl),bl1_ HB.out GE192.out⟩
 replace c2 := Bool.eq_false_iff.mpr c2
 subst c2
 have H1 : (some false) = some r := by rw [if_neg (show ¬ (false = true) by decide)] at H;exact H
 clear H
 have H := H1
 clear H1
 obtain rfl := Option.some.inj H
 go_enter Try.func12,Try.ntmps12
 go_wp2_with (first|((with_reducible refine gate_callee (f := 18) rfl ?_);refine goesL_ (some 4) rfl rfl Try.func18 (by kernel_rfl) rfl #[.string ⟨#[]⟩,.string ⟨#[104,116,116,112,58,47,47,104,47,97,63,98,61,99,35,100]⟩] rfl (by (try simp only [List.map_toArray,List.map_cons,List.map_nil]);first|done|rfl|(simp only [List.length_drop,List.length_take];rfl)) ?_;(with_reducible refine (impl_UriOf.calls ⟨#[]⟩ ⟨#[104,116,116,112,58,47,47,104,47,97,63,98,61,99,35,100]⟩ t183 t184 t185 t186 t187 t188 t189 t190 false _ A1.out).mono ?_);rintro e w6 ⟨rfl,hb⟩;refine ⟨_,rfl,?_⟩;have n0_ := Aside0.mk (below_step (bl_ HB.out) hb);clear HB;have HB := n0_;clear n0_;(try clear hb);(try clear hb2);(try clear hk);(try clear hi))|((with_reducible refine gate_dst (N := 1) rfl ?_);refine box_event ?hg (N := 1) ?hd (cs := #[.string ⟨#[]⟩,.string ⟨#[]⟩,.string ⟨#[]⟩,.string ⟨#[]⟩,.string ⟨#[]⟩,.string ⟨#[]⟩,.string ⟨#[]⟩,.string ⟨#[]⟩]) (t := 27) ?hr ?_;(case hd => rfl);(case hg => rfl);(case hr => first|(go_simp;done)|(go_simp;rfl));intro gb192 hg w7 hbox hb;have n0_ := Aside0.mk (below_step (bl_ HB.out) hb);have n1_ := Aside0.mk (hbox);have n2_ := Aside0.mk ((by rw [hg];exact (below_size (bl_ HB.out)) : w.heap.size ≤ gb192));have n3_ := Aside0.mk ((by rw [hg];exact (below_size (bl_ HB.out)) : w.heap.size ≤ gb192));clear HB;have HB := n0_;have BK192 := n1_;have GW192 := n2_;have GE192 := n3_;clear n0_ n1_ n2_ n3_;clear hb hbox hg;have hcz8_0 : w7.cell? ⟨gb192,0,none⟩ = some (.string ⟨#[]⟩) := (blk_cell BK192.out 0).trans rfl;have hcz8_1 : w7.cell? ⟨gb192,1,none⟩ = some (.string ⟨#[]⟩) := (blk_cell BK192.out 1).trans rfl;have hcz8_2 : w7.cell? ⟨gb192,2,none⟩ = some (.string ⟨#[]⟩) := (blk_cell BK192.out 2).trans rfl;have hcz8_3 : w7.cell? ⟨gb192,3,none⟩ = some (.string ⟨#[]⟩) := (blk_cell BK192.out 3).trans rfl;have hcz8_4 : w7.cell? ⟨gb192,4,none⟩ = some (.string ⟨#[]⟩) := (blk_cell BK192.out 4).trans rfl;have hcz8_5 : w7.cell? ⟨gb192,5,none⟩ = some (.string ⟨#[]⟩) := (blk_cell BK192.out 5).trans rfl;have hcz8_6 : w7.cell? ⟨gb192,6,none⟩ = some (.string ⟨#[]⟩) := (blk_cell BK192.out 6).trans rfl;have hcz8_7 : w7.cell? ⟨gb192,7,none⟩ = some (.string ⟨#[]⟩) := (blk_cell BK192.out 7).trans rfl;have hfz8_0 := blk_frozen BK192.out 0;have hfz8_1 := blk_frozen BK192.out 1;have hfz8_2 := blk_frozen BK192.out 2;have hfz8_3 := blk_frozen BK192.out 3;have hfz8_4 := blk_frozen BK192.out 4;have hfz8_5 := blk_frozen BK192.out 5;have hfz8_6 := blk_frozen BK192.out 6;have hfz8_7 := blk_frozen BK192.out 7))
 go_ret
 exact ⟨by first|rfl|(simp [errW_none,errW_some] <;> rfl)|(simp [*,errW_none,errW_some] <;> rfl),bl1_ HB.out GE192.out⟩
end Go.Proofs.Ytbkeakeldegkeaa.Q
namespace Go.Proofs.Ytbkeakeldegkeaa.Q
open Go.RowKit Go.Proofs.YtbkeakeldegkeaaW.PrintWords Go.Proofs.YtbkeakeldegkeaaW.PrintLast Go.Proofs.YtbkeakeldegkeaaW.PrintMore
attribute [local go_sem] max2_int min2_int max_two min_two max_three min_three max_four min_four
def laws_short.l0 : Nat → List ByteArray → List ByteArray → Int → Int → Option (Bool)
 | 0,_,_,_,_ => none
 | k + 1,x0,x5,x6,x7 => if x7 < x6 then (if 0 ≤ x7 then (if x7 < (x5.length : Int) then (if ((rdOf ByteArray.empty x5 x7).size : Int) > 2000 then (some false) else (laws_short.l0 k x0 x5 x6 (wrap64 (x7 + 1)))) else (none)) else (none)) else (some (decide ((x0.length : Int) ≤ 60)))
def laws_short.f (k : Nat) (l0 : List ByteArray) : Option (Bool) := laws_short.l0 k l0 l0 (l0.length : Int) 0
set_option maxHeartbeats 8000000 in
set_option maxRecDepth 100000 in
theorem laws_short.calls (k : Nat) (A0 : Option Addr) (c0 : Nat) (l0 : List ByteArray) (r : Bool) (w : World) (hr0 : Kd.C Kd.string w A0 l0.length l0) (hc0 : l0.length ≤ c0) (h : laws_short.f k l0 = some r) :
  Calls Try.prog 14 #[.slice A0 l0.length c0] w fun e w' => e = .returned (.bool r) ∧ Drawn0 w w' := by
 have HR0 := Aside0.mk hr0
 have HC0 := Aside0.mk hc0
 clear hr0 hc0
 have H : (laws_short.l0 k l0 l0 (l0.length : Int) 0) = some r := h
 clear h
 have H' := Aside0.mk H
 clear H
 go_enter Try.func14,Try.ntmps14
 go_wp2
 go_loopg [7] k (fun kq v7 w' => ∃ (x7_1 : Int),v7 = .int .i64 x7_1 ∧ Aside0 (laws_short.l0 kq l0 l0 (l0.length : Int) x7_1 = some r) ∧ Aside0 (kq ≤ k) ∧ Drawn0 w w')
 case atStart => exact ⟨(0),(rs_),H',⟨Nat.le_refl _⟩,by repeat (first|exact Drawn0.refl _|apply Drawn0.step)⟩
 case round =>
  clear H'
  try clear c1
  obtain ⟨x7_1,rfl,HA,HK1,⟨m1,rfl⟩⟩ := hrel
  cases gk with
  | zero => exact absurd HA.out (by simp [laws_short.l0])
  | succ k1 =>
   have H := HA.out
   clear HA
   simp only [laws_short.l0] at H
   by_cases c2 : x7_1 < (l0.length : Int)
   ·
    rw [if_pos c2] at H
    have c2b0 : decide (x7_1 < (l0.length : Int)) = true := decide_eq_true c2
    clear c2
    by_cases c3 : 0 ≤ x7_1
    ·
     rw [if_pos c3] at H
     have c3b0 : decide (0 ≤ x7_1) = true := decide_eq_true c3
     clear c3
     by_cases c4 : x7_1 < (l0.length : Int)
     ·
      rw [if_pos c4] at H
      have c4b0 : decide (x7_1 < (l0.length : Int)) = true := decide_eq_true c4
      clear c4
      by_cases c5 : ((rdOf ByteArray.empty l0 x7_1).size : Int) > 2000
      ·
       rw [if_pos c5] at H
       have c5b0 : decide (2000 < ((rdOf ByteArray.empty l0 x7_1).size : Int)) = true := decide_eq_true c5
       have c5b1 : decide (2000 < (rdOf ByteArray.empty l0 x7_1).size) = true := decide_eq_true (by omega)
       clear c5
       obtain rfl := Option.some.inj H
       have p193 : 0 ≤ (x7_1 : Int) := odt_
       have q193 : x7_1 < (l0.length : Int) := odt_
       obtain ⟨ad193,e193,hx193_0⟩ := Kd.at_string HR0.out x7_1 p193 q193
       cases e193
       replace p193 := eq_true p193
       replace q193 := eq_true q193
       go_wp2
       go_ret
       exact ⟨rs_,by repeat (first|exact Drawn0.refl _|apply Drawn0.step)⟩
      rw [if_neg c5] at H
      have c5b0 : decide (2000 < ((rdOf ByteArray.empty l0 x7_1).size : Int)) = false := decide_eq_false c5
      have c5b1 : decide (2000 < (rdOf ByteArray.empty l0 x7_1).size) = false := decide_eq_false (by omega)
      clear c5
      have H' := Aside0.mk H
      clear H
      have p193 : 0 ≤ (x7_1 : Int) := odt_
      have q193 : x7_1 < (l0.length : Int) := odt_
      obtain ⟨ad193,e193,hx193_0⟩ := Kd.at_string HR0.out x7_1 p193 q193
      cases e193
      replace p193 := eq_true p193
      replace q193 := eq_true q193
      go_wp2
      go_roundg k1
      case measure => have := HK1.out;omega
      case rel => exact ⟨(wrap64 (x7_1 + 1)),(rs_),H',⟨by have := HK1.out;omega⟩,by repeat (first|exact Drawn0.refl _|apply Drawn0.step)⟩
     rw [if_neg c4] at H
     exact absurd H (by simp)
    rw [if_neg c3] at H
    exact absurd H (by simp)
   rw [if_neg c2] at H
   have c2b0 : decide (x7_1 < (l0.length : Int)) = false := decide_eq_false c2
   clear c2
   obtain rfl := Option.some.inj H
   go_wp2
   go_ret
   exact ⟨rs_,by repeat (first|exact Drawn0.refl _|apply Drawn0.step)⟩
end Go.Proofs.Ytbkeakeldegkeaa.Q
end
section
namespace Go.Proofs.Ytbkeakeldegkeaa.Q
open Go.RowKit Go.Proofs.YtbkeakeldegkeaaW.PrintWords Go.Proofs.YtbkeakeldegkeaaW.PrintLast Go.Proofs.YtbkeakeldegkeaaW.PrintMore
attribute [local go_sem] max2_int min2_int max_two min_two max_three min_three max_four min_four
mutual
def laws_calm.l0 : Nat → List ByteArray → Int → Int → Option (Bool)
 | 0,_,_,_ => none
 | k + 1,x6,x7,x8 => if x8 < x7 then (if 0 ≤ x8 then (if x8 < (x6.length : Int) then (laws_calm.l1 k (rdOf ByteArray.empty x6 x8) x6 x7 x8 ((rdOf ByteArray.empty x6 x8).size : Int) 0) else (none)) else (none)) else (some true)
def laws_calm.l1 : Nat → ByteArray → List ByteArray → Int → Int → Int → Int → Option (Bool)
 | 0,_,_,_,_,_,_ => none
 | k + 1,x4,x6,x7,x8,x13,x14 => if x14 < x13 then (if 0 ≤ x14 then (if x14 < (x4.size : Int) then (if (bt x4 x14) < 32 then (some false) else (if (bt x4 x14) = 127 then (some false) else (laws_calm.l1 k x4 x6 x7 x8 x13 (wrap64 (x14 + 1))))) else (none)) else (none)) else (laws_calm.l0 k x6 x7 (wrap64 (x8 + 1)))
end
def laws_calm.f (k : Nat) (l0 : List ByteArray) : Option (Bool) := laws_calm.l0 k l0 (l0.length : Int) 0
set_option maxHeartbeats 8000000 in
set_option maxRecDepth 100000 in
theorem laws_calm.calls (k : Nat) (A0 : Option Addr) (c0 : Nat) (l0 : List ByteArray) (r : Bool) (w : World) (hr0 : Kd.C Kd.string w A0 l0.length l0) (hc0 : l0.length ≤ c0) (h : laws_calm.f k l0 = some r) :
  Calls Try.prog 15 #[.slice A0 l0.length c0] w fun e w' => e = .returned (.bool r) ∧ Drawn0 w w' := by
 have HR0 := Aside0.mk hr0
 have HC0 := Aside0.mk hc0
 clear hr0 hc0
 have H : (laws_calm.l0 k l0 (l0.length : Int) 0) = some r := h
 clear h
 have H' := Aside0.mk H
 clear H
 go_enter Try.func15,Try.ntmps15
 go_wp2
 go_loopg [8] k (fun kq v8 w' => ∃ (x8_1 : Int),v8 = .int .i64 x8_1 ∧ Aside0 (laws_calm.l0 kq l0 (l0.length : Int) x8_1 = some r) ∧ Aside0 (kq ≤ k) ∧ Drawn0 w w')
 case atStart => exact ⟨(0),(rs_),H',⟨Nat.le_refl _⟩,by repeat (first|exact Drawn0.refl _|apply Drawn0.step)⟩
 case round =>
  clear H'
  try clear c1
  obtain ⟨x8_1,rfl,HA,HK1,⟨m1,rfl⟩⟩ := hrel
  cases gk with
  | zero => exact absurd HA.out (by simp [laws_calm.l0])
  | succ k1 =>
   have H := HA.out
   clear HA
   simp only [laws_calm.l0] at H
   by_cases c2 : x8_1 < (l0.length : Int)
   ·
    rw [if_pos c2] at H
    have c2b0 : decide (x8_1 < (l0.length : Int)) = true := decide_eq_true c2
    clear c2
    by_cases c3 : 0 ≤ x8_1
    ·
     rw [if_pos c3] at H
     have c3b0 : decide (0 ≤ x8_1) = true := decide_eq_true c3
     clear c3
     by_cases c4 : x8_1 < (l0.length : Int)
     ·
      rw [if_pos c4] at H
      have c4b0 : decide (x8_1 < (l0.length : Int)) = true := decide_eq_true c4
      clear c4
      have H' := Aside0.mk H
      clear H
      have p194 : 0 ≤ (x8_1 : Int) := odt_
      have q194 : x8_1 < (l0.length : Int) := odt_
      obtain ⟨ad194,e194,hx194_0⟩ := Kd.at_string HR0.out x8_1 p194 q194
      cases e194
      replace p194 := eq_true p194
      replace q194 := eq_true q194
      go_wp2
      go_loopg [14] k1 (fun kq v14 w' => ∃ (x14_2 : Int),v14 = .int .i64 x14_2 ∧ Aside0 (laws_calm.l1 kq (rdOf ByteArray.empty l0 x8_1) l0 (l0.length : Int) x8_1 ((rdOf ByteArray.empty l0 x8_1).size : Int) x14_2 = some r) ∧ Aside0 (kq ≤ k1) ∧ Drawn0 w w')
      case atStart => exact ⟨(0),(rs_),H',⟨Nat.le_refl _⟩,by repeat (first|exact Drawn0.refl _|apply Drawn0.step)⟩
      case round =>
       clear H'
       try clear c1
       try clear p1
       try clear q1
       try clear hx1
       try clear c2
       try clear c2b0
       try clear p2
       try clear c3
       try clear c3b0
       try clear c4
       try clear c4b0
       try clear hx194_0
       try clear p194
       try clear q194
       obtain ⟨x14_2,rfl,HA,HK2,⟨m2,rfl⟩⟩ := hrel
       cases gk with
       | zero => exact absurd HA.out (by simp [laws_calm.l1])
       | succ k2 =>
        have H := HA.out
        clear HA
        simp only [laws_calm.l1] at H
        by_cases c5 : x14_2 < ((rdOf ByteArray.empty l0 x8_1).size : Int)
        ·
         rw [if_pos c5] at H
         have c5b0 : decide (x14_2 < ((rdOf ByteArray.empty l0 x8_1).size : Int)) = true := decide_eq_true c5
         clear c5
         by_cases c6 : 0 ≤ x14_2
         ·
          rw [if_pos c6] at H
          have c6b0 : decide (0 ≤ x14_2) = true := decide_eq_true c6
          clear c6
          by_cases c7 : x14_2 < ((rdOf ByteArray.empty l0 x8_1).size : Int)
          ·
           rw [if_pos c7] at H
           have c7b0 : decide (x14_2 < ((rdOf ByteArray.empty l0 x8_1).size : Int)) = true := decide_eq_true c7
           clear c7
           by_cases c9 : (bt (rdOf ByteArray.empty l0 x8_1) x14_2) < 32
           ·
            rw [if_pos c9] at H
            have c9b0 : decide ((bt (rdOf ByteArray.empty l0 x8_1) x14_2) < 32) = true := decide_eq_true c9
            clear c9
            obtain rfl := Option.some.inj H
            have p8 : 0 ≤ (x14_2 : Int) := odt_
            have q8 : x14_2 < ((rdOf ByteArray.empty l0 x8_1).size : Int) := odt_
            have hx8 := bt_at (rdOf ByteArray.empty l0 x8_1) x14_2
            replace p8 := eq_true p8
            replace q8 := eq_true q8
            go_wp2
            go_ret
            exact ⟨rs_,by repeat (first|exact Drawn0.refl _|apply Drawn0.step)⟩
           rw [if_neg c9] at H
           have c9b0 : decide ((bt (rdOf ByteArray.empty l0 x8_1) x14_2) < 32) = false := decide_eq_false c9
           clear c9
           by_cases c11 : (bt (rdOf ByteArray.empty l0 x8_1) x14_2) = 127
           ·
            rw [if_pos c11] at H
            have c11b0 : ((bt (rdOf ByteArray.empty l0 x8_1) x14_2) == 127) = true := beq_iff_eq.mpr c11
            have c11b1 : ((bt (rdOf ByteArray.empty l0 x8_1) x14_2) != 127) = false := bne_eq_false_iff_eq.mpr c11
            clear c11
            obtain rfl := Option.some.inj H
            have p8 : 0 ≤ (x14_2 : Int) := odt_
            have q8 : x14_2 < ((rdOf ByteArray.empty l0 x8_1).size : Int) := odt_
            have hx8 := bt_at (rdOf ByteArray.empty l0 x8_1) x14_2
            replace p8 := eq_true p8
            replace q8 := eq_true q8
            have p10 : 0 ≤ (x14_2 : Int) := odt_
            have q10 : x14_2 < ((rdOf ByteArray.empty l0 x8_1).size : Int) := odt_
            have hx10 := bt_at (rdOf ByteArray.empty l0 x8_1) x14_2
            replace p10 := eq_true p10
            replace q10 := eq_true q10
            go_wp2
            go_ret
            exact ⟨rs_,by repeat (first|exact Drawn0.refl _|apply Drawn0.step)⟩
           rw [if_neg c11] at H
           have c11b0 : ((bt (rdOf ByteArray.empty l0 x8_1) x14_2) == 127) = false := beq_eq_false_iff_ne.mpr c11
           have c11b1 : ((bt (rdOf ByteArray.empty l0 x8_1) x14_2) != 127) = true := bne_iff_ne.mpr c11
           have H' := Aside0.mk H
           clear H
           have p8 : 0 ≤ (x14_2 : Int) := odt_
           have q8 : x14_2 < ((rdOf ByteArray.empty l0 x8_1).size : Int) := odt_
           have hx8 := bt_at (rdOf ByteArray.empty l0 x8_1) x14_2
           replace p8 := eq_true p8
           replace q8 := eq_true q8
           have p10 : 0 ≤ (x14_2 : Int) := odt_
           have q10 : x14_2 < ((rdOf ByteArray.empty l0 x8_1).size : Int) := odt_
           have hx10 := bt_at (rdOf ByteArray.empty l0 x8_1) x14_2
           replace p10 := eq_true p10
           replace q10 := eq_true q10
           go_wp2
           go_roundg k2
           case measure => have := HK1.out;have := HK2.out;omega
           case rel => exact ⟨(wrap64 (x14_2 + 1)),(rs_),H',⟨by have := HK1.out;have := HK2.out;omega⟩,by repeat (first|exact Drawn0.refl _|apply Drawn0.step)⟩
          rw [if_neg c7] at H
          exact absurd H (by simp)
         rw [if_neg c6] at H
         exact absurd H (by simp)
        rw [if_neg c5] at H
        have c5b0 : decide (x14_2 < ((rdOf ByteArray.empty l0 x8_1).size : Int)) = false := decide_eq_false c5
        clear c5
        have H' := Aside0.mk H
        clear H
        go_wp2
        go_roundg k2
        case measure => have := HK1.out;have := HK2.out;omega
        case rel => exact ⟨(wrap64 (x8_1 + 1)),(rs_),H',⟨by have := HK1.out;have := HK2.out;omega⟩,by repeat (first|exact Drawn0.refl _|apply Drawn0.step)⟩
     rw [if_neg c4] at H
     exact absurd H (by simp)
    rw [if_neg c3] at H
    exact absurd H (by simp)
   rw [if_neg c2] at H
   have c2b0 : decide (x8_1 < (l0.length : Int)) = false := decide_eq_false c2
   clear c2
   obtain rfl := Option.some.inj H
   go_wp2
   go_ret
   exact ⟨rs_,by repeat (first|exact Drawn0.refl _|apply Drawn0.step)⟩
end Go.Proofs.Ytbkeakeldegkeaa.Q
namespace Go.Proofs.Ytbkeakeldegkeaa.Q
open Go.RowKit Go.Proofs.YtbkeakeldegkeaaW.PrintWords Go.Proofs.YtbkeakeldegkeaaW.PrintLast Go.Proofs.YtbkeakeldegkeaaW.PrintMore
attribute [local go_sem] max2_int min2_int max_two min_two max_three min_three max_four min_four
end Go.Proofs.Ytbkeakeldegkeaa.Q
end
section
namespace Go.Proofs.Ytbkeakeldegkeaa.Q
open Go.RowKit Go.Proofs.YtbkeakeldegkeaaW.PrintWords Go.Proofs.YtbkeakeldegkeaaW.PrintLast Go.Proofs.YtbkeakeldegkeaaW.PrintMore
open Go.Proofs.Ytbkeakeldegkeaa.SpA (toI toI_length toI_append quoteP path_ev)
open Go.Proofs.Ytbkeakeldegkeaa.Ob
structure AB (S : Nat → Prop) (T : TypeId) (w0 W : World) (g : Nat) (vals : List Value) (rows : List (Option (Bool × List UInt8))) (v : Value) (acc : List UInt8) : Prop where
 ob : OBJ W g T vals rows
 bv : BV W v acc
 ap : Apart g vals rows v
 on : Only S w0 W
 hv : ∀ k,v.ownBlock = some k → S k ∨ w0.heap.size ≤ k
section
variable {S : Nat → Prop} {T : TypeId} {w0 W W1 : World} {g : Nat} {vals : List Value} {rows : List (Option (Bool × List UInt8))} {v v1 : Value} {acc acc1 : List UInt8}
theorem AB.below (h : AB S T w0 W g vals rows v acc) (hb : Below W.heap.size W W1) : AB S T w0 W1 g vals rows v acc :=
 ⟨h.ob.below hb,h.bv.move fun k hk => hb.block k (h.bv.lt k hk),h.ap,h.on.trans (Only.of_below (S := fun _ => False) hb) (fun _ _ e => e.elim),h.hv⟩
theorem AB.alloc (h : AB S T w0 W g vals rows v acc) (o : Obj) : AB S T w0 (W.alloc o) g vals rows v acc := h.below (below_alloc (Below.refl _ _) o)
theorem AB.step (h : AB S T w0 W g vals rows v acc) (hb : BV W1 v1 acc1) (ho : Only (fun j => v.ownBlock = some j) W W1) (hat : v1.ownBlock = v.ownBlock ∨ ∃ b,v1.ownBlock = some b ∧ W.heap.size ≤ b) : AB S T w0 W1 g vals rows v1 acc1 := by
 refine ⟨h.ob.only h.ap ho,hb,?_,h.on.trans ho fun i hi hs => ?_,fun k hk => ?_⟩
 ·
  rcases hat with e|⟨b,hb1,hb2⟩
  ·
   exact ⟨by rw [e];exact h.ap.1,fun i l u k hi hu hk => h.ap.2 i l u k hi hu (by rw [← e];exact hk)⟩
  exact h.ob.apart_new hb1 hb2
 ·
  rcases h.hv i hs with h1|h1
  ·
   exact h1
  omega
 rcases hat with e|⟨b,hb1,hb2⟩
 ·
  exact h.hv k (by rw [← e];exact hk)
 rw [hb1] at hk;cases hk
 exact .inr (Nat.le_trans h.on.size hb2)
theorem AB.C (h : AB S T w0 W g vals rows v acc) (i : Nat) {b : Bool} {l : List UInt8} {A : Option Addr} {n c : Nat} (hi : rows[i]? = some (some (b,l))) (hv : vals[i]? = some (.slice A n c)) : Kd.C (Kd.int .u8) W A n (toI l) := by
 obtain ⟨v',hv',hb'⟩ := h.ob.row i b l hi
 rw [hv] at hv';cases hv'
 exact hb'.C
variable {P : Program} {ops : Array Oper} {rest : List Oper} {o : Oper} {a : Act} {Q : Exit → Act → World → Prop}
theorem AB.app (h : AB S T w0 W g vals rows v acc) (m : List UInt8) (A : Option Addr) (n c : Nat) (hgd : o.guard = none) (s x : Operand) (t : TypeId) (ho : o.op = .call { callee := .builtin .append,args := #[s,x],argTypes := #[t,t] })
  (ht : P.underlying t = some (.slice 5)) (hinfo : (P.info? 5).map (fun i => (i.zero,i.size,i.bytes)) = some (some (.int .u8 0),1,1))
  (hs : a.eval s = v) (hx : a.eval x = .slice A n c) (hm : Kd.C (Kd.int .u8) W A n (toI m)) (hl : acc.length + m.length ≤ 140737488355328)
  (hk : ∀ v1 W1,AB S T w0 W1 g vals rows v1 (acc ++ m) → wpList P ops Q rest (a.put o.dst v1) W1) : wpList P ops Q (o :: rest) a W :=
 app_BV hgd s x t ho ht hinfo v acc m A n c hs hx h.bv hm hl fun v1 W1 h1 h2 h3 => hk v1 W1 (h.step h1 h2 h3)
theorem AB.turn (h : AB S T w0 W g vals rows v acc) {vals2 : List Value} {rows2 : List (Option (Bool × List UInt8))} {R : Nat → Prop} (hob : OBJ W1 g T vals2 rows2) (ho : Only R W W1) (hR : ∀ k,R k → S k ∨ w0.heap.size ≤ k) (hvR : ∀ k,v.ownBlock = some k → ¬ R k) (hap : Apart g vals2 rows2 v) : AB S T w0 W1 g vals2 rows2 v acc :=
 ⟨hob,h.bv.move fun k hk => ho.block k (h.bv.lt k hk) (hvR k hk),hap,h.on.trans ho fun i hi hs => by
  rcases hR i hs with h1|h1
  ·
   exact h1
  omega,h.hv⟩
end
theorem quote_BV {W : World} {v : Value} {l m : List UInt8} (hv : BV W v l) (A : Option Addr) (n c : Nat) (hn : n = m.length) (hc : n ≤ c) (hC : ∀ W',Kept W W' (fun k => v.ownBlock = some k) → Kd.C (Kd.int .u8) W' A n (toI m)) (hne : l ++ quoteP m ≠ []) (hx : m.length ≤ 1000000000000) (hl : l.length + 3 * m.length + 3 ≤ 100000000000000) :
  Calls Try.prog 32 #[v,.slice A n c] W fun e w' => ∃ v',e = .returned v' ∧ BV w' v' (l ++ quoteP m) ∧ Only (fun j => v.ownBlock = some j) W w' ∧ (v'.ownBlock = v.ownBlock ∨ ∃ b,v'.ownBlock = some b ∧ W.heap.size ≤ b) := by
 obtain ⟨k,hk⟩ := path_ev m l hx hl
 have hB : Below ({ W with heap := #[] } : World).heap.size { W with heap := #[] } W := ⟨rfl,rfl,rfl,Nat.zero_le _,fun k hk => absurd hk (Nat.not_lt_zero _)⟩
 have e1 : n = (toI m).length := by rw [toI_length];exact hn
 rw [e1] at hC hc ⊢
 refine (hertzconv_AppendQuotedPath.calls k (fun k_ => v.ownBlock = some k_) v (toI l) A c (toI m) (toI (l ++ quoteP m)) { W with heap := #[] } W hB hv.R0 hC hc (hk k (Nat.le_refl _))).mono ?_
 rintro e w' ⟨v',rfl,hr,hb,hkp⟩
 exact ⟨v',rfl,BV.grew hr hne hb hkp⟩
end Go.Proofs.Ytbkeakeldegkeaa.Q
end
section
namespace Go.Proofs.Ytbkeakeldegkeaa.Q
open Go.RowKit Go.Proofs.YtbkeakeldegkeaaW.PrintWords Go.Proofs.YtbkeakeldegkeaaW.PrintLast Go.Proofs.YtbkeakeldegkeaaW.PrintMore
open Go.Proofs.Ytbkeakeldegkeaa.SpA (toI toI_length toI_append lowU UR SEP quoteP)
open Go.Proofs.Ytbkeakeldegkeaa.Ob
def schL (s : List UInt8) : List UInt8 := if s = [] then [104,116,116,112] else s
def ASHPost (S : Nat → Prop) (w0 : World) (g : Nat) (vals : List Value) (rows : List (Option (Bool × List UInt8))) (acc : List UInt8) (e : Ending) (w' : World) : Prop := ∃ v1,e = .returned v1 ∧ AB S 54 w0 w' g vals rows v1 acc
set_option maxHeartbeats 8000000 in
set_option maxRecDepth 100000 in
theorem ash_calls (S : Nat → Prop) (w0 w : World) (g : Nat) (vals : List Value) (rows : List (Option (Bool × List UInt8))) (v : Value) (acc : List UInt8) (h : AB S 54 w0 w g vals rows v acc) (A1 A5 : Option Addr) (n1 c1 n5 c5 : Nat) (b1 b5 : Bool) (s ho : List UInt8) (r1 : rows[1]? = some (some (b1,s))) (k1 : vals[1]? = some (.slice A1 n1 c1)) (r5 : rows[5]? = some (some (b5,ho))) (k5 : vals[5]? = some (.slice A5 n5 c5)) (hl : acc.length + s.length + ho.length ≤ 100000000000) :
  Calls Try.prog 103 #[.pointer (some ⟨g,0,none⟩),v] w (ASHPost S w0 g vals rows (acc ++ schL s ++ SEP ++ ho)) := by
 have HS := Aside0.mk h
 have HR1 := Aside0.mk r1
 have HK1 := Aside0.mk k1
 have HR5 := Aside0.mk r5
 have HK5 := Aside0.mk k5
 have HL := Aside0.mk hl
 have HSL : Aside0 ((schL s).length ≤ s.length + 4) := ⟨by unfold schL;split <;> simp⟩
 clear h r1 k1 r5 k5 hl
 go_enter Try.func103,Try.ntmps103
 go_wp2_with (first|((with_reducible refine gate_callee (f := 60) rfl ?_);refine goesL_ (some 7) rfl rfl Try.func60 (by kernel_rfl) rfl #[.pointer (some ⟨g,0,none⟩)] rfl (by (try simp only [List.map_toArray,List.map_cons,List.map_nil]);first|done|rfl) ?_;refine (uScheme_calls _ g vals rows A1 n1 c1 b1 s HS.out.ob HR1.out HK1.out).mono ?_;rintro e wa ⟨At,nt,ct,rfl,hC,hct,hb⟩;refine ⟨_,rfl,?_⟩;have HA := Aside0.mk (HS.out.below hb);have HC : Aside0 (Kd.C (Kd.int .u8) wa At nt (toI (schL s))) := ⟨hC⟩;clear hC hct hb)|((with_reducible refine gate_builtin (b := .append) (xs := #[.tmp 5,.tmp 7]) rfl ?_);at_builtin;refine AB.app HA.out (schL s) _ _ _ rfl (.tmp 5) (.tmp 7) 49 rfl Try.underlying49 info5 rfl rfl (by exact HC.out) (by have := HL.out;have := HSL.out;omega) ?_;intro v1 w1 h1;have HS1 := Aside0.mk h1;clear h1)|((with_reducible refine gate_callee (f := 80) rfl ?_);refine goesL_ (some 10) rfl rfl Try.func80 (by kernel_rfl) rfl #[] rfl (by (try simp only [List.map_toArray,List.map_cons,List.map_nil]);first|done|rfl) ?_;refine (strColonSlashSlash_calls _).mono ?_;rintro e wb ⟨g2,c2,rfl,hc2,hb2,hg2,hw2⟩;refine ⟨_,rfl,?_⟩;have HB := Aside0.mk (HS1.out.below hw2);have HR2 := Aside0.mk (Ob.BR.C hb2 (by decide));clear hc2 hb2 hg2 hw2)|((with_reducible refine gate_builtin (b := .append) (xs := #[.tmp 9,.tmp 10]) rfl ?_);at_builtin;refine AB.app HB.out SEP _ _ _ rfl (.tmp 9) (.tmp 10) 49 rfl Try.underlying49 info5 rfl rfl (by exact HR2.out) (by have := HL.out;have := HSL.out;simp [SEP];omega) ?_;intro v2 w2 h2;have HS2 := Aside0.mk h2;clear h2)|((with_reducible refine gate_callee (f := 61) rfl ?_);refine goesL_ (some 14) rfl rfl Try.func61 (by kernel_rfl) rfl #[.pointer (some ⟨g,0,none⟩)] rfl (by (try simp only [List.map_toArray,List.map_cons,List.map_nil]);first|done|rfl) ?_;refine (uHost_calls _ g vals rows A5 n5 c5 HS2.out.ob HK5.out).mono ?_;rintro e wc ⟨rfl,hb⟩;refine ⟨_,rfl,?_⟩;have HD := Aside0.mk (HS2.out.below hb);clear hb)|((with_reducible refine gate_builtin (b := .append) (xs := #[.tmp 12,.tmp 14]) rfl ?_);at_builtin;refine AB.app HD.out ho _ _ _ rfl (.tmp 12) (.tmp 14) 49 rfl Try.underlying49 info5 rfl rfl (by exact HD.out.C 5 HR5.out HK5.out) (by have := HL.out;have := HSL.out;simp [SEP];omega) ?_;intro v3 w3 h3;have HS3 := Aside0.mk h3;clear h3))
 go_ret
 exact ⟨_,rfl,HS3.out⟩
def reqL (raw : Bool) (o p q : List UInt8) : List UInt8 := (if raw then o else quoteP p) ++ (if q = [] then [] else [63] ++ q)
def ReqPost (g : Nat) (w : World) (v0 : Value) (vals : List Value) (rows : List (Option (Bool × List UInt8))) (t : List UInt8) (e : Ending) (w' : World) : Prop := ∃ A n c,e = .returned (.slice A n c) ∧ OBJ w' g 54 (vals.set 11 (.slice A n c)) (rows.set 11 (some (true,t))) ∧ Only (fun j => j = g ∨ v0.ownBlock = some j) w w' ∧ ∀ k,(Value.slice A n c).ownBlock = some k → v0.ownBlock = some k ∨ w.heap.size ≤ k
set_option maxHeartbeats 8000000 in
set_option maxRecDepth 100000 in
theorem argsLen_calls (w : World) (g : Nat) (c6 : w.cell? ⟨g,6,none⟩ = some (.slice none 0 0)) :
  Calls Try.prog 69 #[.pointer (some ⟨g,6,none⟩)] w fun e w' => e = .returned (.int .i64 0) ∧ w' = w := by
 go_enter Try.func69,Try.ntmps69
 go_wp2
 go_ret
 exact ⟨rfl,rfl⟩
theorem AB.row2 {S : Nat → Prop} {T : TypeId} {w0 W : World} {g : Nat} {vals : List Value} {rows : List (Option (Bool × List UInt8))} {v : Value} {acc : List UInt8} (h : AB S T w0 W g vals rows v acc) {i : Nat} {b : Bool} {l : List UInt8} {A : Option Addr} {n c : Nat} (hr : rows[i]? = some (some (b,l))) (hv : vals[i]? = some (.slice A n c)) : n = l.length ∧ n ≤ c := by
 obtain ⟨u,hu,hb⟩ := h.ob.row i b l hr
 rw [hv] at hu;cases hu
 exact hb.cap
theorem AB.kept {S : Nat → Prop} {T : TypeId} {w0 W : World} {g : Nat} {vals : List Value} {rows : List (Option (Bool × List UInt8))} {v : Value} {acc : List UInt8} (h : AB S T w0 W g vals rows v acc) (i : Nat) {b : Bool} {l : List UInt8} {A : Option Addr} {n c : Nat} (hr : rows[i]? = some (some (b,l))) (hv : vals[i]? = some (.slice A n c)) : ∀ W',Kept W W' (fun k => v.ownBlock = some k) → Kd.C (Kd.int .u8) W' A n (toI l) := by
 intro W' hk
 obtain ⟨u,hu,hb⟩ := h.ob.row i b l hr
 rw [hv] at hu;cases hu
 exact (hb.move fun q hq => hk.2 q (hb.lt q hq) (fun e => h.ap.2 i (b,l) _ q hr hv e hq)).C
theorem quote_ne {p : List UInt8} (h : p ≠ []) : quoteP p ≠ [] := by
 have key : ∀ l : List UInt8,l ≠ [] → l.flatMap SpA.escP ≠ [] := fun l hl e => by
  cases l with
  | nil => exact hl rfl
  | cons c t =>
   rw [List.flatMap_cons,List.append_eq_nil_iff] at e
   have : SpA.escP c ≠ [] := by unfold SpA.escP;split <;> simp
   exact this e.1
 unfold quoteP
 split
 ·
  simp
 exact key p h
theorem quoteP_len (p : List UInt8) : (quoteP p).length ≤ 3 * p.length + 1 := by
 have key : ∀ l : List UInt8,(l.flatMap SpA.escP).length ≤ 3 * l.length := fun l => by
  induction l with
  | nil => simp
  | cons c t ih => have := SpA.escP_len c;simp only [List.flatMap_cons,List.length_append,List.length_cons];omega
 unfold quoteP
 split
 ·
  simp
 have := key p;omega
theorem req_fin {w W : World} {g : Nat} {vals : List Value} {rows : List (Option (Bool × List UInt8))} {v0 : Value} {A : Option Addr} {n c : Nat} {t : List UInt8} (h : AB (fun j => j = g ∨ v0.ownBlock = some j) 54 w W g vals (rows.set 11 none) (.slice A n c) t) (hT : (54 : TypeId) ≠ 5) (hl : 11 < vals.length) : ReqPost g w v0 vals rows t (.returned (.slice A n c)) (W.setCell ⟨g,11,none⟩ (.slice A n c)) := by
 refine ⟨A,n,c,rfl,OBJ.restore hT 11 hl h.ob h.ap (BV.rw h.bv),h.on.set (.inl (.inl rfl)) _ _,fun k hk => ?_⟩
 rcases h.hv k hk with (e|e)|e
 ·
  exact absurd (by rw [hk,e]) h.ap.1
 ·
  exact .inl e
 exact .inr e
set_option maxHeartbeats 16000000 in
set_option maxRecDepth 100000 in
theorem req_raw (w : World) (g : Nat) (vals : List Value) (rows : List (Option (Bool × List UInt8))) (h : OBJ w g 54 vals rows) (A0 A2 A3 A11 : Option Addr) (n0 c0 n2 c2 n3 c3 n11 c11 : Nat) (b2 : Bool) (o p q y : List UInt8)
  (r0 : rows[0]? = some (some (true,o))) (k0 : vals[0]? = some (.slice A0 n0 c0)) (r2 : rows[2]? = some (some (b2,p))) (k2 : vals[2]? = some (.slice A2 n2 c2)) (r3 : rows[3]? = some (some (true,q))) (k3 : vals[3]? = some (.slice A3 n3 c3)) (r11 : rows[11]? = some (some (true,y))) (k11 : vals[11]? = some (.slice A11 n11 c11)) (k9 : vals[9]? = some (.bool true)) (k6 : vals[6]? = some (.slice none 0 0))
  (hp : p ≠ []) (hq : q = []) (hl : o.length + p.length + q.length ≤ 10000000000) :
  Calls Try.prog 35 #[.pointer (some ⟨g,0,none⟩)] w (ReqPost g w (.slice A11 n11 c11) vals rows (o)) := by
 obtain ⟨i0,hi0,_,hsz0,_⟩ := info_parts info5
 have hcut := cut0_run (P := Try.prog) Try.underlying49 hi0 A11 n11 c11 0 (0 : Int) rfl (Nat.zero_le _)
 have hlen : 11 < vals.length := by rcases Nat.lt_or_ge 11 vals.length with h1|h1;exact h1;rw [List.getElem?_eq_none h1] at k11;cases k11
 have hsame : (Value.slice A11 0 c11).ownBlock = (Value.slice A11 n11 c11).ownBlock := by cases A11 <;> rfl
 obtain ⟨u,hu,hb11⟩ := h.row 11 true y r11
 rw [k11] at hu;cases hu
 have hab : AB (fun j => j = g ∨ (Value.slice A11 n11 c11).ownBlock = some j) 54 w w g vals (rows.set 11 none) (.slice A11 0 c11) [] := ⟨h.drop 11,hb11.bv.cut0,h.apart (by decide) 11 r11 k11 hsame,Only.refl _ _,fun k hk => .inl (.inr (by rw [← hsame];exact hk))⟩
 have HS := Aside0.mk hab
 have HK0 := Aside0.mk k0
 have HK2 := Aside0.mk k2
 have HK3 := Aside0.mk k3
 have HR0 : Aside0 ((rows.set 11 none)[0]? = some (some (true,o))) := ⟨by rw [List.getElem?_set,if_neg (by decide)];exact r0⟩
 have HR2 : Aside0 ((rows.set 11 none)[2]? = some (some (b2,p))) := ⟨by rw [List.getElem?_set,if_neg (by decide)];exact r2⟩
 have HR3 : Aside0 ((rows.set 11 none)[3]? = some (some (true,q))) := ⟨by rw [List.getElem?_set,if_neg (by decide)];exact r3⟩
 have HLEN := Aside0.mk hlen
 have HP := Aside0.mk hp
 have HL := Aside0.mk hl
 have HK6 := Aside0.mk k6
 have HK9 := Aside0.mk k9
 have HK11 := Aside0.mk k11
 have e9 := h.cell 9 _ k9
 have e6 := h.cell 6 _ k6
 have e11 := h.cell 11 _ k11
 have e3 := h.cell 3 _ k3
 have hn3 : n3 = q.length := by
  obtain ⟨u,hu,hb3⟩ := h.row 3 true q r3
  rw [k3] at hu;cases hu
  exact hb3.cap.1
 have HN3 := Aside0.mk hn3
 obtain rfl : n3 = 0 := by rw [hn3,hq];rfl
 clear h r0 k0 r2 k2 r3 k3 r11 k11 k9 k6 hp hl hab hb11 hi0 hsz0 hlen hsame hn3 hq
 go_enter Try.func35,Try.ntmps35
 go_wp2
 go_region_law (first|(refine step_app_BV rfl (.tmp 12) (.tmp 14) 49 rfl Try.underlying49 info5 (.slice A11 0 c11) [] o A0 n0 c0 (by simp [Act.eval,Act.put]) (by simp [Act.eval,Act.put]) (by exact HS.out.bv) (by exact HS.out.C 0 HR0.out HK0.out) (by have := HL.out;simp;omega) ?_;intro v1 w1 hb ho hat;rw [List.nil_append] at hb;obtain ⟨Av,nv,cv,rfl⟩ := hb.form;have h1 := HS.out.step hb ho hat;clear e3 e6 e11;have e3 := h1.ob.cell 3 _ HK3.out;have e6 := h1.ob.cell 6 _ HK6.out;have e11 := h1.ob.cell 11 _ HK11.out;have z11 := h1.ob.fz 11;have HS1 := Aside0.mk h1;clear HS hb ho hat h1;have HS := HS1;clear HS1)|(go_simp;go_at_call 63;(have n0_ := Aside0.mk (HS.out.below (below_drew1 (Below.refl _ _)));clear HS;have HS := n0_;clear n0_);refine (uOrig_calls _ g vals _ A0 n0 c0 HS.out.ob HK0.out).mono ?_;rintro e wa ⟨rfl,hb⟩;have n0_ := Aside0.mk (HS.out.below hb);clear HS hb;have HS := n0_;clear n0_ e11 e3 e6;have e11 := HS.out.ob.cell 11 _ HK11.out;have e3 := HS.out.ob.cell 3 _ HK3.out;have e6 := HS.out.ob.cell 6 _ HK6.out))
 all_goals go_wp2
 all_goals go_ret
 all_goals exact req_fin HS.out (by decide) HLEN.out
set_option maxHeartbeats 16000000 in
set_option maxRecDepth 100000 in
theorem req_raw_q (w : World) (g : Nat) (vals : List Value) (rows : List (Option (Bool × List UInt8))) (h : OBJ w g 54 vals rows) (A0 A2 A3 A11 : Option Addr) (n0 c0 n2 c2 n3 c3 n11 c11 : Nat) (b2 : Bool) (o p q y : List UInt8)
  (r0 : rows[0]? = some (some (true,o))) (k0 : vals[0]? = some (.slice A0 n0 c0)) (r2 : rows[2]? = some (some (b2,p))) (k2 : vals[2]? = some (.slice A2 n2 c2)) (r3 : rows[3]? = some (some (true,q))) (k3 : vals[3]? = some (.slice A3 n3 c3)) (r11 : rows[11]? = some (some (true,y))) (k11 : vals[11]? = some (.slice A11 n11 c11)) (k9 : vals[9]? = some (.bool true)) (k6 : vals[6]? = some (.slice none 0 0))
  (hp : p ≠ []) (hq : q ≠ []) (hl : o.length + p.length + q.length ≤ 10000000000) :
  Calls Try.prog 35 #[.pointer (some ⟨g,0,none⟩)] w (ReqPost g w (.slice A11 n11 c11) vals rows (o ++ [63] ++ q)) := by
 obtain ⟨i0,hi0,_,hsz0,_⟩ := info_parts info5
 have hcut := cut0_run (P := Try.prog) Try.underlying49 hi0 A11 n11 c11 0 (0 : Int) rfl (Nat.zero_le _)
 have hlen : 11 < vals.length := by rcases Nat.lt_or_ge 11 vals.length with h1|h1;exact h1;rw [List.getElem?_eq_none h1] at k11;cases k11
 have hsame : (Value.slice A11 0 c11).ownBlock = (Value.slice A11 n11 c11).ownBlock := by cases A11 <;> rfl
 obtain ⟨u,hu,hb11⟩ := h.row 11 true y r11
 rw [k11] at hu;cases hu
 have hab : AB (fun j => j = g ∨ (Value.slice A11 n11 c11).ownBlock = some j) 54 w w g vals (rows.set 11 none) (.slice A11 0 c11) [] := ⟨h.drop 11,hb11.bv.cut0,h.apart (by decide) 11 r11 k11 hsame,Only.refl _ _,fun k hk => .inl (.inr (by rw [← hsame];exact hk))⟩
 have HS := Aside0.mk hab
 have HK0 := Aside0.mk k0
 have HK2 := Aside0.mk k2
 have HK3 := Aside0.mk k3
 have HR0 : Aside0 ((rows.set 11 none)[0]? = some (some (true,o))) := ⟨by rw [List.getElem?_set,if_neg (by decide)];exact r0⟩
 have HR2 : Aside0 ((rows.set 11 none)[2]? = some (some (b2,p))) := ⟨by rw [List.getElem?_set,if_neg (by decide)];exact r2⟩
 have HR3 : Aside0 ((rows.set 11 none)[3]? = some (some (true,q))) := ⟨by rw [List.getElem?_set,if_neg (by decide)];exact r3⟩
 have HLEN := Aside0.mk hlen
 have HP := Aside0.mk hp
 have HL := Aside0.mk hl
 have HK6 := Aside0.mk k6
 have HK9 := Aside0.mk k9
 have HK11 := Aside0.mk k11
 have e9 := h.cell 9 _ k9
 have e6 := h.cell 6 _ k6
 have e11 := h.cell 11 _ k11
 have e3 := h.cell 3 _ k3
 have hn3 : n3 = q.length := by
  obtain ⟨u,hu,hb3⟩ := h.row 3 true q r3
  rw [k3] at hu;cases hu
  exact hb3.cap.1
 have HN3 := Aside0.mk hn3
 have gn3 : 0 < n3 := by have := List.length_pos_iff.2 hq;omega
 clear h r0 k0 r2 k2 r3 k3 r11 k11 k9 k6 hp hl hab hb11 hi0 hsz0 hlen hsame hn3 hq
 go_enter Try.func35,Try.ntmps35
 go_wp2
 go_region_law (first|(refine step_app_BV rfl (.tmp 12) (.tmp 14) 49 rfl Try.underlying49 info5 (.slice A11 0 c11) [] o A0 n0 c0 (by simp [Act.eval,Act.put]) (by simp [Act.eval,Act.put]) (by exact HS.out.bv) (by exact HS.out.C 0 HR0.out HK0.out) (by have := HL.out;simp;omega) ?_;intro v1 w1 hb ho hat;rw [List.nil_append] at hb;obtain ⟨Av,nv,cv,rfl⟩ := hb.form;have h1 := HS.out.step hb ho hat;clear e3 e6 e11;have e3 := h1.ob.cell 3 _ HK3.out;have e6 := h1.ob.cell 6 _ HK6.out;have e11 := h1.ob.cell 11 _ HK11.out;have z11 := h1.ob.fz 11;have HS1 := Aside0.mk h1;clear HS hb ho hat h1;have HS := HS1;clear HS1)|(go_simp;go_at_call 63;(have n0_ := Aside0.mk (HS.out.below (below_drew1 (Below.refl _ _)));clear HS;have HS := n0_;clear n0_);refine (uOrig_calls _ g vals _ A0 n0 c0 HS.out.ob HK0.out).mono ?_;rintro e wa ⟨rfl,hb⟩;have n0_ := Aside0.mk (HS.out.below hb);clear HS hb;have HS := n0_;clear n0_ e11 e3 e6;have e11 := HS.out.ob.cell 11 _ HK11.out;have e3 := HS.out.ob.cell 3 _ HK3.out;have e6 := HS.out.ob.cell 6 _ HK6.out))
 all_goals have HQL := Aside0.mk (quoteP_len p)
 all_goals go_wp2_with (first|((with_reducible refine gate_callee (f := 69) rfl ?_);refine goesL_ (some 27) rfl rfl Try.func69 (by kernel_rfl) rfl #[.pointer (some ⟨g,6,none⟩)] rfl (by (try simp only [List.map_toArray,List.map_cons,List.map_nil]);first|done|rfl) ?_;refine (argsLen_calls _ g e6).mono ?_;rintro e wx ⟨rfl,rfl⟩;refine ⟨_,rfl,?_⟩;skip)|((with_reducible refine gate_builtin (b := .append) (xs := #[.tmp 43,.tmp 44]) rfl ?_);at_builtin;refine AB.app (HS.out.alloc _) [63] _ _ _ rfl (.tmp 43) (.tmp 44) 49 rfl Try.underlying49 info5 rfl rfl (by exact lit_C [63] _ rfl (heap_alloc_new _ _) (by decide)) (by have := HL.out;have := HQL.out;(try simp);omega) ?_;intro v2 w2 h2;clear e3;have e3 := h2.ob.cell 3 _ HK3.out;have HS2 := Aside0.mk h2;clear h2)|((with_reducible refine gate_builtin (b := .append) (xs := #[.tmp 46,.tmp 50]) rfl ?_);at_builtin;refine AB.app HS2.out q _ _ _ rfl (.tmp 46) (.tmp 50) 49 rfl Try.underlying49 info5 rfl rfl (by exact HS2.out.C 3 HR3.out HK3.out) (by have := HL.out;have := HQL.out;(try simp);omega) ?_;intro v3 w3 h3;obtain ⟨Aw,nw,cw,rfl⟩ := h3.bv.form;clear e11 z11;have e11 := h3.ob.cell 11 _ HK11.out;have z11 := h3.ob.fz 11;have HS3 := Aside0.mk h3;clear h3))
 all_goals go_ret
 all_goals exact req_fin HS3.out (by decide) HLEN.out
set_option maxHeartbeats 16000000 in
set_option maxRecDepth 100000 in
theorem req_esc (w : World) (g : Nat) (vals : List Value) (rows : List (Option (Bool × List UInt8))) (h : OBJ w g 54 vals rows) (A0 A2 A3 A11 : Option Addr) (n0 c0 n2 c2 n3 c3 n11 c11 : Nat) (b2 : Bool) (o p q y : List UInt8)
  (r0 : rows[0]? = some (some (true,o))) (k0 : vals[0]? = some (.slice A0 n0 c0)) (r2 : rows[2]? = some (some (b2,p))) (k2 : vals[2]? = some (.slice A2 n2 c2)) (r3 : rows[3]? = some (some (true,q))) (k3 : vals[3]? = some (.slice A3 n3 c3)) (r11 : rows[11]? = some (some (true,y))) (k11 : vals[11]? = some (.slice A11 n11 c11)) (k9 : vals[9]? = some (.bool false)) (k6 : vals[6]? = some (.slice none 0 0))
  (hp : p ≠ []) (hq : q = []) (hl : o.length + p.length + q.length ≤ 10000000000) :
  Calls Try.prog 35 #[.pointer (some ⟨g,0,none⟩)] w (ReqPost g w (.slice A11 n11 c11) vals rows (quoteP p)) := by
 obtain ⟨i0,hi0,_,hsz0,_⟩ := info_parts info5
 have hcut := cut0_run (P := Try.prog) Try.underlying49 hi0 A11 n11 c11 0 (0 : Int) rfl (Nat.zero_le _)
 have hlen : 11 < vals.length := by rcases Nat.lt_or_ge 11 vals.length with h1|h1;exact h1;rw [List.getElem?_eq_none h1] at k11;cases k11
 have hsame : (Value.slice A11 0 c11).ownBlock = (Value.slice A11 n11 c11).ownBlock := by cases A11 <;> rfl
 obtain ⟨u,hu,hb11⟩ := h.row 11 true y r11
 rw [k11] at hu;cases hu
 have hab : AB (fun j => j = g ∨ (Value.slice A11 n11 c11).ownBlock = some j) 54 w w g vals (rows.set 11 none) (.slice A11 0 c11) [] := ⟨h.drop 11,hb11.bv.cut0,h.apart (by decide) 11 r11 k11 hsame,Only.refl _ _,fun k hk => .inl (.inr (by rw [← hsame];exact hk))⟩
 have HS := Aside0.mk hab
 have HK0 := Aside0.mk k0
 have HK2 := Aside0.mk k2
 have HK3 := Aside0.mk k3
 have HR0 : Aside0 ((rows.set 11 none)[0]? = some (some (true,o))) := ⟨by rw [List.getElem?_set,if_neg (by decide)];exact r0⟩
 have HR2 : Aside0 ((rows.set 11 none)[2]? = some (some (b2,p))) := ⟨by rw [List.getElem?_set,if_neg (by decide)];exact r2⟩
 have HR3 : Aside0 ((rows.set 11 none)[3]? = some (some (true,q))) := ⟨by rw [List.getElem?_set,if_neg (by decide)];exact r3⟩
 have HLEN := Aside0.mk hlen
 have HP := Aside0.mk hp
 have HL := Aside0.mk hl
 have HK6 := Aside0.mk k6
 have HK9 := Aside0.mk k9
 have HK11 := Aside0.mk k11
 have e9 := h.cell 9 _ k9
 have e6 := h.cell 6 _ k6
 have e11 := h.cell 11 _ k11
 have e3 := h.cell 3 _ k3
 have hn3 : n3 = q.length := by
  obtain ⟨u,hu,hb3⟩ := h.row 3 true q r3
  rw [k3] at hu;cases hu
  exact hb3.cap.1
 have HN3 := Aside0.mk hn3
 obtain rfl : n3 = 0 := by rw [hn3,hq];rfl
 clear h r0 k0 r2 k2 r3 k3 r11 k11 k9 k6 hp hl hab hb11 hi0 hsz0 hlen hsame hn3 hq
 go_enter Try.func35,Try.ntmps35
 go_wp2
 go_region_with (first|(go_at_call 62;(have n0_ := Aside0.mk (HS.out.below (below_drew1 (Below.refl _ _)));clear HS;have HS := n0_;clear n0_);refine (uPath_ne _ g vals _ A2 n2 c2 b2 p HS.out.ob HR2.out HK2.out HP.out).mono ?_;rintro e wa ⟨rfl,hb⟩;have n0_ := Aside0.mk (HS.out.below hb);clear HS hb e11 e3 e6;have HS := n0_;clear n0_;have e11 := HS.out.ob.cell 11 _ HK11.out;have e3 := HS.out.ob.cell 3 _ HK3.out;have e6 := HS.out.ob.cell 6 _ HK6.out)|(go_at_call 32;refine (quote_BV (m := p) HS.out.bv A2 n2 c2 (AB.row2 HS.out HR2.out HK2.out).1 (AB.row2 HS.out HR2.out HK2.out).2 (AB.kept HS.out 2 HR2.out HK2.out) (by rw [List.nil_append];exact quote_ne HP.out) (by have := HL.out;omega) (by have := HL.out;simp;omega)).mono ?_;rintro e w1 ⟨v1,rfl,hb,ho,hat⟩;rw [List.nil_append] at hb;obtain ⟨Av,nv,cv,rfl⟩ := hb.form;have h1 := HS.out.step hb ho hat;clear e3 e6 e11;have e3 := h1.ob.cell 3 _ HK3.out;have e6 := h1.ob.cell 6 _ HK6.out;have e11 := h1.ob.cell 11 _ HK11.out;have z11 := h1.ob.fz 11;have HS1 := Aside0.mk h1;clear HS hb ho hat h1;have HS := HS1;clear HS1))
 all_goals go_wp2
 all_goals go_ret
 all_goals exact req_fin HS.out (by decide) HLEN.out
set_option maxHeartbeats 16000000 in
set_option maxRecDepth 100000 in
theorem req_esc_q (w : World) (g : Nat) (vals : List Value) (rows : List (Option (Bool × List UInt8))) (h : OBJ w g 54 vals rows) (A0 A2 A3 A11 : Option Addr) (n0 c0 n2 c2 n3 c3 n11 c11 : Nat) (b2 : Bool) (o p q y : List UInt8)
  (r0 : rows[0]? = some (some (true,o))) (k0 : vals[0]? = some (.slice A0 n0 c0)) (r2 : rows[2]? = some (some (b2,p))) (k2 : vals[2]? = some (.slice A2 n2 c2)) (r3 : rows[3]? = some (some (true,q))) (k3 : vals[3]? = some (.slice A3 n3 c3)) (r11 : rows[11]? = some (some (true,y))) (k11 : vals[11]? = some (.slice A11 n11 c11)) (k9 : vals[9]? = some (.bool false)) (k6 : vals[6]? = some (.slice none 0 0))
  (hp : p ≠ []) (hq : q ≠ []) (hl : o.length + p.length + q.length ≤ 10000000000) :
  Calls Try.prog 35 #[.pointer (some ⟨g,0,none⟩)] w (ReqPost g w (.slice A11 n11 c11) vals rows (quoteP p ++ [63] ++ q)) := by
 obtain ⟨i0,hi0,_,hsz0,_⟩ := info_parts info5
 have hcut := cut0_run (P := Try.prog) Try.underlying49 hi0 A11 n11 c11 0 (0 : Int) rfl (Nat.zero_le _)
 have hlen : 11 < vals.length := by rcases Nat.lt_or_ge 11 vals.length with h1|h1;exact h1;rw [List.getElem?_eq_none h1] at k11;cases k11
 have hsame : (Value.slice A11 0 c11).ownBlock = (Value.slice A11 n11 c11).ownBlock := by cases A11 <;> rfl
 obtain ⟨u,hu,hb11⟩ := h.row 11 true y r11
 rw [k11] at hu;cases hu
 have hab : AB (fun j => j = g ∨ (Value.slice A11 n11 c11).ownBlock = some j) 54 w w g vals (rows.set 11 none) (.slice A11 0 c11) [] := ⟨h.drop 11,hb11.bv.cut0,h.apart (by decide) 11 r11 k11 hsame,Only.refl _ _,fun k hk => .inl (.inr (by rw [← hsame];exact hk))⟩
 have HS := Aside0.mk hab
 have HK0 := Aside0.mk k0
 have HK2 := Aside0.mk k2
 have HK3 := Aside0.mk k3
 have HR0 : Aside0 ((rows.set 11 none)[0]? = some (some (true,o))) := ⟨by rw [List.getElem?_set,if_neg (by decide)];exact r0⟩
 have HR2 : Aside0 ((rows.set 11 none)[2]? = some (some (b2,p))) := ⟨by rw [List.getElem?_set,if_neg (by decide)];exact r2⟩
 have HR3 : Aside0 ((rows.set 11 none)[3]? = some (some (true,q))) := ⟨by rw [List.getElem?_set,if_neg (by decide)];exact r3⟩
 have HLEN := Aside0.mk hlen
 have HP := Aside0.mk hp
 have HL := Aside0.mk hl
 have HK6 := Aside0.mk k6
 have HK9 := Aside0.mk k9
 have HK11 := Aside0.mk k11
 have e9 := h.cell 9 _ k9
 have e6 := h.cell 6 _ k6
 have e11 := h.cell 11 _ k11
 have e3 := h.cell 3 _ k3
 have hn3 : n3 = q.length := by
  obtain ⟨u,hu,hb3⟩ := h.row 3 true q r3
  rw [k3] at hu;cases hu
  exact hb3.cap.1
 have HN3 := Aside0.mk hn3
 have gn3 : 0 < n3 := by have := List.length_pos_iff.2 hq;omega
 clear h r0 k0 r2 k2 r3 k3 r11 k11 k9 k6 hp hl hab hb11 hi0 hsz0 hlen hsame hn3 hq
 go_enter Try.func35,Try.ntmps35
 go_wp2
 go_region_with (first|(go_at_call 62;(have n0_ := Aside0.mk (HS.out.below (below_drew1 (Below.refl _ _)));clear HS;have HS := n0_;clear n0_);refine (uPath_ne _ g vals _ A2 n2 c2 b2 p HS.out.ob HR2.out HK2.out HP.out).mono ?_;rintro e wa ⟨rfl,hb⟩;have n0_ := Aside0.mk (HS.out.below hb);clear HS hb e11 e3 e6;have HS := n0_;clear n0_;have e11 := HS.out.ob.cell 11 _ HK11.out;have e3 := HS.out.ob.cell 3 _ HK3.out;have e6 := HS.out.ob.cell 6 _ HK6.out)|(go_at_call 32;refine (quote_BV (m := p) HS.out.bv A2 n2 c2 (AB.row2 HS.out HR2.out HK2.out).1 (AB.row2 HS.out HR2.out HK2.out).2 (AB.kept HS.out 2 HR2.out HK2.out) (by rw [List.nil_append];exact quote_ne HP.out) (by have := HL.out;omega) (by have := HL.out;simp;omega)).mono ?_;rintro e w1 ⟨v1,rfl,hb,ho,hat⟩;rw [List.nil_append] at hb;obtain ⟨Av,nv,cv,rfl⟩ := hb.form;have h1 := HS.out.step hb ho hat;clear e3 e6 e11;have e3 := h1.ob.cell 3 _ HK3.out;have e6 := h1.ob.cell 6 _ HK6.out;have e11 := h1.ob.cell 11 _ HK11.out;have z11 := h1.ob.fz 11;have HS1 := Aside0.mk h1;clear HS hb ho hat h1;have HS := HS1;clear HS1))
 all_goals have HQL := Aside0.mk (quoteP_len p)
 all_goals go_wp2_with (first|((with_reducible refine gate_callee (f := 69) rfl ?_);refine goesL_ (some 27) rfl rfl Try.func69 (by kernel_rfl) rfl #[.pointer (some ⟨g,6,none⟩)] rfl (by (try simp only [List.map_toArray,List.map_cons,List.map_nil]);first|done|rfl) ?_;refine (argsLen_calls _ g e6).mono ?_;rintro e wx ⟨rfl,rfl⟩;refine ⟨_,rfl,?_⟩;skip)|((with_reducible refine gate_builtin (b := .append) (xs := #[.tmp 43,.tmp 44]) rfl ?_);at_builtin;refine AB.app (HS.out.alloc _) [63] _ _ _ rfl (.tmp 43) (.tmp 44) 49 rfl Try.underlying49 info5 rfl rfl (by exact lit_C [63] _ rfl (heap_alloc_new _ _) (by decide)) (by have := HL.out;have := HQL.out;(try simp);omega) ?_;intro v2 w2 h2;clear e3;have e3 := h2.ob.cell 3 _ HK3.out;have HS2 := Aside0.mk h2;clear h2)|((with_reducible refine gate_builtin (b := .append) (xs := #[.tmp 46,.tmp 50]) rfl ?_);at_builtin;refine AB.app HS2.out q _ _ _ rfl (.tmp 46) (.tmp 50) 49 rfl Try.underlying49 info5 rfl rfl (by exact HS2.out.C 3 HR3.out HK3.out) (by have := HL.out;have := HQL.out;(try simp);omega) ?_;intro v3 w3 h3;obtain ⟨Aw,nw,cw,rfl⟩ := h3.bv.form;clear e11 z11;have e11 := h3.ob.cell 11 _ HK11.out;have z11 := h3.ob.fz 11;have HS3 := Aside0.mk h3;clear h3))
 all_goals go_ret
 all_goals exact req_fin HS3.out (by decide) HLEN.out
end Go.Proofs.Ytbkeakeldegkeaa.Q
end
section
namespace Go.Proofs.Ytbkeakeldegkeaa.Q
open Go.RowKit Go.Proofs.YtbkeakeldegkeaaW.PrintWords Go.Proofs.YtbkeakeldegkeaaW.PrintLast Go.Proofs.YtbkeakeldegkeaaW.PrintMore
open Go.Proofs.Ytbkeakeldegkeaa.SpA (toI toI_length toI_append lowU UR SEP quoteP)
open Go.Proofs.Ytbkeakeldegkeaa.Ob
theorem req_calls (w : World) (g : Nat) (vals : List Value) (rows : List (Option (Bool × List UInt8))) (h : OBJ w g 54 vals rows) (A0 A2 A3 A11 : Option Addr) (n0 c0 n2 c2 n3 c3 n11 c11 : Nat) (b2 raw : Bool) (o p q y : List UInt8)
  (r0 : rows[0]? = some (some (true,o))) (k0 : vals[0]? = some (.slice A0 n0 c0)) (r2 : rows[2]? = some (some (b2,p))) (k2 : vals[2]? = some (.slice A2 n2 c2)) (r3 : rows[3]? = some (some (true,q))) (k3 : vals[3]? = some (.slice A3 n3 c3)) (r11 : rows[11]? = some (some (true,y))) (k11 : vals[11]? = some (.slice A11 n11 c11)) (k9 : vals[9]? = some (.bool raw)) (k6 : vals[6]? = some (.slice none 0 0))
  (hp : p ≠ []) (hl : o.length + p.length + q.length ≤ 10000000000) :
  Calls Try.prog 35 #[.pointer (some ⟨g,0,none⟩)] w (ReqPost g w (.slice A11 n11 c11) vals rows (reqL raw o p q)) := by
 cases raw with
 | true =>
  by_cases hq : q = []
  ·
   have e : reqL true o p q = o := by simp [reqL,hq]
   rw [e];exact req_raw w g vals rows h A0 A2 A3 A11 n0 c0 n2 c2 n3 c3 n11 c11 b2 o p q y r0 k0 r2 k2 r3 k3 r11 k11 k9 k6 hp hq hl
  have e : reqL true o p q = o ++ [63] ++ q := by simp [reqL,hq]
  rw [e];exact req_raw_q w g vals rows h A0 A2 A3 A11 n0 c0 n2 c2 n3 c3 n11 c11 b2 o p q y r0 k0 r2 k2 r3 k3 r11 k11 k9 k6 hp hq hl
 | false =>
  by_cases hq : q = []
  ·
   have e : reqL false o p q = quoteP p := by simp [reqL,hq]
   rw [e];exact req_esc w g vals rows h A0 A2 A3 A11 n0 c0 n2 c2 n3 c3 n11 c11 b2 o p q y r0 k0 r2 k2 r3 k3 r11 k11 k9 k6 hp hq hl
  have e : reqL false o p q = quoteP p ++ [63] ++ q := by simp [reqL,hq]
  rw [e];exact req_esc_q w g vals rows h A0 A2 A3 A11 n0 c0 n2 c2 n3 c3 n11 c11 b2 o p q y r0 k0 r2 k2 r3 k3 r11 k11 k9 k6 hp hq hl
theorem reqL_len (raw : Bool) (o p q : List UInt8) : (reqL raw o p q).length ≤ o.length + 3 * p.length + q.length + 2 := by
 have := quoteP_len p
 unfold reqL
 cases raw <;> by_cases hq : q = [] <;> simp [hq] <;> omega
theorem ab_turn11 {S : Nat → Prop} {T : TypeId} {w0 W W1 : World} {g : Nat} {vals : List Value} {rows : List (Option (Bool × List UInt8))} {v : Value} {acc : List UInt8} (h : AB S T w0 W g vals rows v acc) {A11 : Option Addr} {n11 c11 : Nat} {b : Bool} {y : List UInt8} (r11 : rows[11]? = some (some (b,y))) (k11 : vals[11]? = some (.slice A11 n11 c11)) (hSg : S g) (hS11 : ∀ k,(Value.slice A11 n11 c11).ownBlock = some k → S k ∨ w0.heap.size ≤ k) {A : Option Addr} {n c : Nat} {t : List UInt8}
  (hob : OBJ W1 g T (vals.set 11 (.slice A n c)) (rows.set 11 (some (true,t)))) (ho : Only (fun j => j = g ∨ (Value.slice A11 n11 c11).ownBlock = some j) W W1) (hown : ∀ k,(Value.slice A n c).ownBlock = some k → (Value.slice A11 n11 c11).ownBlock = some k ∨ W.heap.size ≤ k) : AB S T w0 W1 g (vals.set 11 (.slice A n c)) (rows.set 11 (some (true,t))) v acc := by
 have hlen : 11 < vals.length := by rcases Nat.lt_or_ge 11 vals.length with h1|h1;exact h1;rw [List.getElem?_eq_none h1] at k11;cases k11
 refine h.turn hob ho ?_ ?_ ?_
 ·
  rintro k (rfl|e)
  ·
   exact .inl hSg
  exact hS11 k e
 ·
  rintro k hk (rfl|e)
  ·
   exact h.ap.1 hk
  exact h.ap.2 11 _ _ k r11 k11 hk e
 refine ⟨h.ap.1,fun i l u k hi hu hk e => ?_⟩
 by_cases h11 : i = 11
 ·
  subst h11
  rw [List.getElem?_set_self hlen] at hu
  cases hu
  rcases hown k e with e2|e2
  ·
   exact h.ap.2 11 _ _ k r11 k11 hk e2
  have := h.bv.lt k hk
  omega
 rw [List.getElem?_set_ne (fun e => h11 e.symm)] at hi hu
 exact h.ap.2 i _ _ k hi hu hk e
def ABPost (S : Nat → Prop) (w0 : World) (g : Nat) (vals : List Value) (rows : List (Option (Bool × List UInt8))) (t acc : List UInt8) (e : Ending) (w' : World) : Prop := ∃ v1 A n c,e = .returned v1 ∧ AB S 54 w0 w' g (vals.set 11 (.slice A n c)) (rows.set 11 (some (true,t))) v1 acc ∧ ∀ k,(Value.slice A n c).ownBlock = some k → S k ∨ w0.heap.size ≤ k
set_option maxHeartbeats 8000000 in
set_option maxRecDepth 100000 in
theorem appB_no (S : Nat → Prop) (w0 w : World) (g : Nat) (vals : List Value) (rows : List (Option (Bool × List UInt8))) (v : Value) (acc : List UInt8) (h : AB S 54 w0 w g vals rows v acc) (A0 A1 A2 A3 A4 A5 A11 : Option Addr) (n0 c0 n1 c1 n2 c2 n3 c3 n4 c4 n5 c5 n11 c11 : Nat) (b1 b2 b4 b5 raw : Bool) (s ho o p q ha y : List UInt8)
  (r0 : rows[0]? = some (some (true,o))) (k0 : vals[0]? = some (.slice A0 n0 c0)) (r1 : rows[1]? = some (some (b1,s))) (k1 : vals[1]? = some (.slice A1 n1 c1)) (r2 : rows[2]? = some (some (b2,p))) (k2 : vals[2]? = some (.slice A2 n2 c2)) (r3 : rows[3]? = some (some (true,q))) (k3 : vals[3]? = some (.slice A3 n3 c3)) (r4 : rows[4]? = some (some (b4,ha))) (k4 : vals[4]? = some (.slice A4 n4 c4)) (r5 : rows[5]? = some (some (b5,ho))) (k5 : vals[5]? = some (.slice A5 n5 c5)) (r11 : rows[11]? = some (some (true,y))) (k11 : vals[11]? = some (.slice A11 n11 c11)) (k9 : vals[9]? = some (.bool raw)) (k6 : vals[6]? = some (.slice none 0 0))
  (hSg : S g) (hS11 : ∀ k,(Value.slice A11 n11 c11).ownBlock = some k → S k ∨ w0.heap.size ≤ k) (hp : p ≠ []) (hh : ha = []) (hl : acc.length + s.length + ho.length + o.length + p.length + q.length + ha.length ≤ 10000000000) :
  Calls Try.prog 89 #[.pointer (some ⟨g,0,none⟩),v] w (ABPost S w0 g vals rows (reqL raw o p q) (acc ++ schL s ++ SEP ++ ho ++ reqL raw o p q)) := by
 have hrl : 11 < rows.length := by rcases Nat.lt_or_ge 11 rows.length with h1|h1;exact h1;rw [List.getElem?_eq_none h1] at r11;cases r11
 have hlen : 11 < vals.length := by rcases Nat.lt_or_ge 11 vals.length with h1|h1;exact h1;rw [List.getElem?_eq_none h1] at k11;cases k11
 have hn4 : n4 = ha.length := (h.row2 r4 k4).1
 obtain rfl : n4 = 0 := by rw [hn4,hh];rfl
 have HS := Aside0.mk h
 have HRL := Aside0.mk hrl
 have HLEN := Aside0.mk hlen
 have HSG := Aside0.mk hSg
 have HS11 := Aside0.mk hS11
 have HP := Aside0.mk hp
 have HL := Aside0.mk hl
 have HK9 := Aside0.mk k9
 have HK6 := Aside0.mk k6
 have HR0 := Aside0.mk r0
 have HK0 := Aside0.mk k0
 have HR1 := Aside0.mk r1
 have HK1 := Aside0.mk k1
 have HR2 := Aside0.mk r2
 have HK2 := Aside0.mk k2
 have HR3 := Aside0.mk r3
 have HK3 := Aside0.mk k3
 have HR4 := Aside0.mk r4
 have HK4 := Aside0.mk k4
 have HR5 := Aside0.mk r5
 have HK5 := Aside0.mk k5
 have HR11 := Aside0.mk r11
 have HK11 := Aside0.mk k11
 have HQ := Aside0.mk (reqL_len raw o p q)
 have HSL : Aside0 ((schL s).length ≤ s.length + 4) := ⟨by unfold schL;split <;> simp⟩
 clear h hrl hlen hSg hS11 hp hl k9 k6 r0 k0 r1 k1 r2 k2 r3 k3 r4 k4 r5 k5 r11 k11 hn4 hh
 go_enter Try.func89,Try.ntmps89
 go_wp2_with (first|((with_reducible refine gate_callee (f := 103) rfl ?_);refine goesL_ (some 7) rfl rfl Try.func103 (by kernel_rfl) rfl #[.pointer (some ⟨g,0,none⟩),v] rfl (by (try simp only [List.map_toArray,List.map_cons,List.map_nil]);first|done|rfl) ?_;refine (ash_calls S w0 _ g vals rows v acc HS.out A1 A5 n1 c1 n5 c5 b1 b5 s ho HR1.out HK1.out HR5.out HK5.out (by have := HL.out;omega)).mono ?_;rintro e wa ⟨v1,rfl,h1⟩;refine ⟨_,rfl,?_⟩;have HA := Aside0.mk h1;clear h1)|((with_reducible refine gate_callee (f := 35) rfl ?_);refine goesL_ (some 10) rfl rfl Try.func35 (by kernel_rfl) rfl #[.pointer (some ⟨g,0,none⟩)] rfl (by (try simp only [List.map_toArray,List.map_cons,List.map_nil]);first|done|rfl) ?_;refine (req_calls _ g vals rows HA.out.ob A0 A2 A3 A11 n0 c0 n2 c2 n3 c3 n11 c11 b2 raw o p q y HR0.out HK0.out HR2.out HK2.out HR3.out HK3.out HR11.out HK11.out HK9.out HK6.out HP.out (by have := HL.out;omega)).mono ?_;rintro e wb ⟨Aq,nq,cq,rfl,hob,hon,hown⟩;refine ⟨_,rfl,?_⟩;have HOWN : Aside0 (∀ k,(Value.slice Aq nq cq).ownBlock = some k → S k ∨ w0.heap.size ≤ k) := ⟨fun k hk => by rcases hown k hk with e2|e2;exact HS11.out k e2;exact .inr (Nat.le_trans HA.out.on.size e2)⟩;have HB := Aside0.mk (ab_turn11 HA.out HR11.out HK11.out HSG.out HS11.out hob hon hown);have HR4n : Aside0 ((rows.set 11 (some (true,reqL raw o p q)))[4]? = some (some (b4,ha))) := ⟨by rw [List.getElem?_set,if_neg (by decide)];exact HR4.out⟩;have HK4n : Aside0 ((vals.set 11 (.slice Aq nq cq))[4]? = some (.slice A4 0 c4)) := ⟨by rw [List.getElem?_set,if_neg (by decide)];exact HK4.out⟩;have HR11n : Aside0 ((rows.set 11 (some (true,reqL raw o p q)))[11]? = some (some (true,reqL raw o p q))) := ⟨List.getElem?_set_self HRL.out⟩;have HK11n : Aside0 ((vals.set 11 (.slice Aq nq cq))[11]? = some (.slice Aq nq cq)) := ⟨List.getElem?_set_self HLEN.out⟩;clear hob hon hown)|((with_reducible refine gate_builtin (b := .append) (xs := #[.tmp 8,.tmp 10]) rfl ?_);at_builtin;refine AB.app HB.out (reqL raw o p q) _ _ _ rfl (.tmp 8) (.tmp 10) 49 rfl Try.underlying49 info5 rfl rfl (by exact HB.out.C 11 HR11n.out HK11n.out) (by have := HL.out;have := HQ.out;have := HSL.out;(try simp [SEP]);omega) ?_;intro v2 w2 h2;have e4 := h2.ob.cell 4 _ HK4n.out;have HC := Aside0.mk h2;clear h2)|((with_reducible refine gate_builtin (b := .append) (xs := #[.tmp 18,.tmp 19]) rfl ?_);at_builtin;refine AB.app (HC.out.alloc _) [35] _ _ _ rfl (.tmp 18) (.tmp 19) 49 rfl Try.underlying49 info5 rfl rfl (by exact lit_C [35] _ rfl (heap_alloc_new _ _) (by decide)) (by have := HL.out;have := HQ.out;have := HSL.out;(try simp [SEP]);omega) ?_;intro v3 w3 h3;clear e4;have e4 := h3.ob.cell 4 _ HK4n.out;have HD := Aside0.mk h3;clear h3)|((with_reducible refine gate_builtin (b := .append) (xs := #[.tmp 21,.tmp 25]) rfl ?_);at_builtin;refine AB.app HD.out ha _ _ _ rfl (.tmp 21) (.tmp 25) 49 rfl Try.underlying49 info5 rfl rfl (by exact HD.out.C 4 HR4n.out HK4n.out) (by have := HL.out;have := HQ.out;have := HSL.out;(try simp [SEP]);omega) ?_;intro v4 w4 h4;have HE := Aside0.mk h4;clear h4))
 go_ret
 exact ⟨_,_,_,_,rfl,HC.out,HOWN.out⟩
set_option maxHeartbeats 8000000 in
set_option maxRecDepth 100000 in
theorem appB_hash (S : Nat → Prop) (w0 w : World) (g : Nat) (vals : List Value) (rows : List (Option (Bool × List UInt8))) (v : Value) (acc : List UInt8) (h : AB S 54 w0 w g vals rows v acc) (A0 A1 A2 A3 A4 A5 A11 : Option Addr) (n0 c0 n1 c1 n2 c2 n3 c3 n4 c4 n5 c5 n11 c11 : Nat) (b1 b2 b4 b5 raw : Bool) (s ho o p q ha y : List UInt8)
  (r0 : rows[0]? = some (some (true,o))) (k0 : vals[0]? = some (.slice A0 n0 c0)) (r1 : rows[1]? = some (some (b1,s))) (k1 : vals[1]? = some (.slice A1 n1 c1)) (r2 : rows[2]? = some (some (b2,p))) (k2 : vals[2]? = some (.slice A2 n2 c2)) (r3 : rows[3]? = some (some (true,q))) (k3 : vals[3]? = some (.slice A3 n3 c3)) (r4 : rows[4]? = some (some (b4,ha))) (k4 : vals[4]? = some (.slice A4 n4 c4)) (r5 : rows[5]? = some (some (b5,ho))) (k5 : vals[5]? = some (.slice A5 n5 c5)) (r11 : rows[11]? = some (some (true,y))) (k11 : vals[11]? = some (.slice A11 n11 c11)) (k9 : vals[9]? = some (.bool raw)) (k6 : vals[6]? = some (.slice none 0 0))
  (hSg : S g) (hS11 : ∀ k,(Value.slice A11 n11 c11).ownBlock = some k → S k ∨ w0.heap.size ≤ k) (hp : p ≠ []) (hh : ha ≠ []) (hl : acc.length + s.length + ho.length + o.length + p.length + q.length + ha.length ≤ 10000000000) :
  Calls Try.prog 89 #[.pointer (some ⟨g,0,none⟩),v] w (ABPost S w0 g vals rows (reqL raw o p q) (acc ++ schL s ++ SEP ++ ho ++ reqL raw o p q ++ [35] ++ ha)) := by
 have hrl : 11 < rows.length := by rcases Nat.lt_or_ge 11 rows.length with h1|h1;exact h1;rw [List.getElem?_eq_none h1] at r11;cases r11
 have hlen : 11 < vals.length := by rcases Nat.lt_or_ge 11 vals.length with h1|h1;exact h1;rw [List.getElem?_eq_none h1] at k11;cases k11
 have hn4 : n4 = ha.length := (h.row2 r4 k4).1
 have gn4 : 0 < n4 := by have := List.length_pos_iff.2 hh;omega
 have HS := Aside0.mk h
 have HRL := Aside0.mk hrl
 have HLEN := Aside0.mk hlen
 have HSG := Aside0.mk hSg
 have HS11 := Aside0.mk hS11
 have HP := Aside0.mk hp
 have HL := Aside0.mk hl
 have HK9 := Aside0.mk k9
 have HK6 := Aside0.mk k6
 have HR0 := Aside0.mk r0
 have HK0 := Aside0.mk k0
 have HR1 := Aside0.mk r1
 have HK1 := Aside0.mk k1
 have HR2 := Aside0.mk r2
 have HK2 := Aside0.mk k2
 have HR3 := Aside0.mk r3
 have HK3 := Aside0.mk k3
 have HR4 := Aside0.mk r4
 have HK4 := Aside0.mk k4
 have HR5 := Aside0.mk r5
 have HK5 := Aside0.mk k5
 have HR11 := Aside0.mk r11
 have HK11 := Aside0.mk k11
 have HQ := Aside0.mk (reqL_len raw o p q)
 have HSL : Aside0 ((schL s).length ≤ s.length + 4) := ⟨by unfold schL;split <;> simp⟩
 clear h hrl hlen hSg hS11 hp hl k9 k6 r0 k0 r1 k1 r2 k2 r3 k3 r4 k4 r5 k5 r11 k11 hn4 hh
 go_enter Try.func89,Try.ntmps89
 go_wp2_with (first|((with_reducible refine gate_callee (f := 103) rfl ?_);refine goesL_ (some 7) rfl rfl Try.func103 (by kernel_rfl) rfl #[.pointer (some ⟨g,0,none⟩),v] rfl (by (try simp only [List.map_toArray,List.map_cons,List.map_nil]);first|done|rfl) ?_;refine (ash_calls S w0 _ g vals rows v acc HS.out A1 A5 n1 c1 n5 c5 b1 b5 s ho HR1.out HK1.out HR5.out HK5.out (by have := HL.out;omega)).mono ?_;rintro e wa ⟨v1,rfl,h1⟩;refine ⟨_,rfl,?_⟩;have HA := Aside0.mk h1;clear h1)|((with_reducible refine gate_callee (f := 35) rfl ?_);refine goesL_ (some 10) rfl rfl Try.func35 (by kernel_rfl) rfl #[.pointer (some ⟨g,0,none⟩)] rfl (by (try simp only [List.map_toArray,List.map_cons,List.map_nil]);first|done|rfl) ?_;refine (req_calls _ g vals rows HA.out.ob A0 A2 A3 A11 n0 c0 n2 c2 n3 c3 n11 c11 b2 raw o p q y HR0.out HK0.out HR2.out HK2.out HR3.out HK3.out HR11.out HK11.out HK9.out HK6.out HP.out (by have := HL.out;omega)).mono ?_;rintro e wb ⟨Aq,nq,cq,rfl,hob,hon,hown⟩;refine ⟨_,rfl,?_⟩;have HOWN : Aside0 (∀ k,(Value.slice Aq nq cq).ownBlock = some k → S k ∨ w0.heap.size ≤ k) := ⟨fun k hk => by rcases hown k hk with e2|e2;exact HS11.out k e2;exact .inr (Nat.le_trans HA.out.on.size e2)⟩;have HB := Aside0.mk (ab_turn11 HA.out HR11.out HK11.out HSG.out HS11.out hob hon hown);have HR4n : Aside0 ((rows.set 11 (some (true,reqL raw o p q)))[4]? = some (some (b4,ha))) := ⟨by rw [List.getElem?_set,if_neg (by decide)];exact HR4.out⟩;have HK4n : Aside0 ((vals.set 11 (.slice Aq nq cq))[4]? = some (.slice A4 n4 c4)) := ⟨by rw [List.getElem?_set,if_neg (by decide)];exact HK4.out⟩;have HR11n : Aside0 ((rows.set 11 (some (true,reqL raw o p q)))[11]? = some (some (true,reqL raw o p q))) := ⟨List.getElem?_set_self HRL.out⟩;have HK11n : Aside0 ((vals.set 11 (.slice Aq nq cq))[11]? = some (.slice Aq nq cq)) := ⟨List.getElem?_set_self HLEN.out⟩;clear hob hon hown)|((with_reducible refine gate_builtin (b := .append) (xs := #[.tmp 8,.tmp 10]) rfl ?_);at_builtin;refine AB.app HB.out (reqL raw o p q) _ _ _ rfl (.tmp 8) (.tmp 10) 49 rfl Try.underlying49 info5 rfl rfl (by exact HB.out.C 11 HR11n.out HK11n.out) (by have := HL.out;have := HQ.out;have := HSL.out;(try simp [SEP]);omega) ?_;intro v2 w2 h2;have e4 := h2.ob.cell 4 _ HK4n.out;have HC := Aside0.mk h2;clear h2)|((with_reducible refine gate_builtin (b := .append) (xs := #[.tmp 18,.tmp 19]) rfl ?_);at_builtin;refine AB.app (HC.out.alloc _) [35] _ _ _ rfl (.tmp 18) (.tmp 19) 49 rfl Try.underlying49 info5 rfl rfl (by exact lit_C [35] _ rfl (heap_alloc_new _ _) (by decide)) (by have := HL.out;have := HQ.out;have := HSL.out;(try simp [SEP]);omega) ?_;intro v3 w3 h3;clear e4;have e4 := h3.ob.cell 4 _ HK4n.out;have HD := Aside0.mk h3;clear h3)|((with_reducible refine gate_builtin (b := .append) (xs := #[.tmp 21,.tmp 25]) rfl ?_);at_builtin;refine AB.app HD.out ha _ _ _ rfl (.tmp 21) (.tmp 25) 49 rfl Try.underlying49 info5 rfl rfl (by exact HD.out.C 4 HR4n.out HK4n.out) (by have := HL.out;have := HQ.out;have := HSL.out;(try simp [SEP]);omega) ?_;intro v4 w4 h4;have HE := Aside0.mk h4;clear h4))
 go_ret
 exact ⟨_,_,_,_,rfl,HE.out,HOWN.out⟩
theorem appB_calls (S : Nat → Prop) (w0 w : World) (g : Nat) (vals : List Value) (rows : List (Option (Bool × List UInt8))) (v : Value) (acc : List UInt8) (h : AB S 54 w0 w g vals rows v acc) (A0 A1 A2 A3 A4 A5 A11 : Option Addr) (n0 c0 n1 c1 n2 c2 n3 c3 n4 c4 n5 c5 n11 c11 : Nat) (b1 b2 b4 b5 raw : Bool) (s ho o p q ha y : List UInt8)
  (r0 : rows[0]? = some (some (true,o))) (k0 : vals[0]? = some (.slice A0 n0 c0)) (r1 : rows[1]? = some (some (b1,s))) (k1 : vals[1]? = some (.slice A1 n1 c1)) (r2 : rows[2]? = some (some (b2,p))) (k2 : vals[2]? = some (.slice A2 n2 c2)) (r3 : rows[3]? = some (some (true,q))) (k3 : vals[3]? = some (.slice A3 n3 c3)) (r4 : rows[4]? = some (some (b4,ha))) (k4 : vals[4]? = some (.slice A4 n4 c4)) (r5 : rows[5]? = some (some (b5,ho))) (k5 : vals[5]? = some (.slice A5 n5 c5)) (r11 : rows[11]? = some (some (true,y))) (k11 : vals[11]? = some (.slice A11 n11 c11)) (k9 : vals[9]? = some (.bool raw)) (k6 : vals[6]? = some (.slice none 0 0))
  (hSg : S g) (hS11 : ∀ k,(Value.slice A11 n11 c11).ownBlock = some k → S k ∨ w0.heap.size ≤ k) (hp : p ≠ []) (hl : acc.length + s.length + ho.length + o.length + p.length + q.length + ha.length ≤ 10000000000) :
  Calls Try.prog 89 #[.pointer (some ⟨g,0,none⟩),v] w (ABPost S w0 g vals rows (reqL raw o p q) (acc ++ schL s ++ SEP ++ ho ++ reqL raw o p q ++ (if ha = [] then [] else [35] ++ ha))) := by
 by_cases hh : ha = []
 ·
  rw [if_pos hh,List.append_nil]
  exact appB_no S w0 w g vals rows v acc h A0 A1 A2 A3 A4 A5 A11 n0 c0 n1 c1 n2 c2 n3 c3 n4 c4 n5 c5 n11 c11 b1 b2 b4 b5 raw s ho o p q ha y r0 k0 r1 k1 r2 k2 r3 k3 r4 k4 r5 k5 r11 k11 k9 k6 hSg hS11 hp hh hl
 rw [if_neg hh,← List.append_assoc]
 exact appB_hash S w0 w g vals rows v acc h A0 A1 A2 A3 A4 A5 A11 n0 c0 n1 c1 n2 c2 n3 c3 n4 c4 n5 c5 n11 c11 b1 b2 b4 b5 raw s ho o p q ha y r0 k0 r1 k1 r2 k2 r3 k3 r4 k4 r5 k5 r11 k11 k9 k6 hSg hS11 hp hh hl
def fullL (s ho : List UInt8) (raw : Bool) (o p q ha : List UInt8) : List UInt8 := schL s ++ SEP ++ ho ++ reqL raw o p q ++ (if ha = [] then [] else [35] ++ ha)
def FullPost (S : Nat → Prop) (w : World) (g : Nat) (vals : List Value) (rows : List (Option (Bool × List UInt8))) (rq t : List UInt8) (e : Ending) (w' : World) : Prop := ∃ A n c A' n' c',e = .returned (.slice A n c) ∧ OBJ w' g 54 ((vals.set 11 (.slice A' n' c')).set 10 (.slice A n c)) ((rows.set 11 (some (true,rq))).set 10 (some (true,t))) ∧ Only S w w' ∧ (∀ k,(Value.slice A' n' c').ownBlock = some k → S k ∨ w.heap.size ≤ k) ∧ ∀ k,(Value.slice A n c).ownBlock = some k → S k ∨ w.heap.size ≤ k
set_option maxHeartbeats 8000000 in
set_option maxRecDepth 100000 in
theorem full_calls (w : World) (g : Nat) (vals : List Value) (rows : List (Option (Bool × List UInt8))) (h : OBJ w g 54 vals rows) (A0 A1 A2 A3 A4 A5 A10 A11 : Option Addr) (n0 c0 n1 c1 n2 c2 n3 c3 n4 c4 n5 c5 n10 c10 n11 c11 : Nat) (b1 b2 b4 b5 raw : Bool) (s ho o p q ha x y : List UInt8)
  (r0 : rows[0]? = some (some (true,o))) (k0 : vals[0]? = some (.slice A0 n0 c0)) (r1 : rows[1]? = some (some (b1,s))) (k1 : vals[1]? = some (.slice A1 n1 c1)) (r2 : rows[2]? = some (some (b2,p))) (k2 : vals[2]? = some (.slice A2 n2 c2)) (r3 : rows[3]? = some (some (true,q))) (k3 : vals[3]? = some (.slice A3 n3 c3)) (r4 : rows[4]? = some (some (b4,ha))) (k4 : vals[4]? = some (.slice A4 n4 c4)) (r5 : rows[5]? = some (some (b5,ho))) (k5 : vals[5]? = some (.slice A5 n5 c5)) (r11 : rows[11]? = some (some (true,y))) (k11 : vals[11]? = some (.slice A11 n11 c11)) (k9 : vals[9]? = some (.bool raw)) (k6 : vals[6]? = some (.slice none 0 0))
  (r10 : rows[10]? = some (some (true,x))) (k10 : vals[10]? = some (.slice A10 n10 c10)) (hp : p ≠ []) (hl : s.length + ho.length + o.length + p.length + q.length + ha.length ≤ 10000000000) :
  Calls Try.prog 68 #[.pointer (some ⟨g,0,none⟩)] w (FullPost (fun j => j = g ∨ (Value.slice A10 n10 c10).ownBlock = some j ∨ (Value.slice A11 n11 c11).ownBlock = some j) w g vals rows (reqL raw o p q) (fullL s ho raw o p q ha)) := by
 obtain ⟨i0,hi0,_,hsz0,_⟩ := info_parts info5
 have hcut := cut0_run (P := Try.prog) Try.underlying49 hi0 A10 n10 c10 0 (0 : Int) rfl (Nat.zero_le _)
 have hlen : 10 < vals.length := by rcases Nat.lt_or_ge 10 vals.length with h1|h1;exact h1;rw [List.getElem?_eq_none h1] at k10;cases k10
 have hsame : (Value.slice A10 0 c10).ownBlock = (Value.slice A10 n10 c10).ownBlock := by cases A10 <;> rfl
 obtain ⟨u,hu,hb10⟩ := h.row 10 true x r10
 rw [k10] at hu;cases hu
 have hab : AB (fun j => j = g ∨ (Value.slice A10 n10 c10).ownBlock = some j ∨ (Value.slice A11 n11 c11).ownBlock = some j) 54 w w g vals (rows.set 10 none) (.slice A10 0 c10) [] := ⟨h.drop 10,hb10.bv.cut0,h.apart (by decide) 10 r10 k10 hsame,Only.refl _ _,fun k hk => .inl (.inr (.inl (by rw [← hsame];exact hk)))⟩
 have HS := Aside0.mk hab
 have HR0 : Aside0 ((rows.set 10 none)[0]? = some (some (true,o))) := ⟨by rw [List.getElem?_set,if_neg (by decide)];exact r0⟩
 have HK0 := Aside0.mk k0
 have HR1 : Aside0 ((rows.set 10 none)[1]? = some (some (b1,s))) := ⟨by rw [List.getElem?_set,if_neg (by decide)];exact r1⟩
 have HK1 := Aside0.mk k1
 have HR2 : Aside0 ((rows.set 10 none)[2]? = some (some (b2,p))) := ⟨by rw [List.getElem?_set,if_neg (by decide)];exact r2⟩
 have HK2 := Aside0.mk k2
 have HR3 : Aside0 ((rows.set 10 none)[3]? = some (some (true,q))) := ⟨by rw [List.getElem?_set,if_neg (by decide)];exact r3⟩
 have HK3 := Aside0.mk k3
 have HR4 : Aside0 ((rows.set 10 none)[4]? = some (some (b4,ha))) := ⟨by rw [List.getElem?_set,if_neg (by decide)];exact r4⟩
 have HK4 := Aside0.mk k4
 have HR5 : Aside0 ((rows.set 10 none)[5]? = some (some (b5,ho))) := ⟨by rw [List.getElem?_set,if_neg (by decide)];exact r5⟩
 have HK5 := Aside0.mk k5
 have HR11 : Aside0 ((rows.set 10 none)[11]? = some (some (true,y))) := ⟨by rw [List.getElem?_set,if_neg (by decide)];exact r11⟩
 have HK11 := Aside0.mk k11
 have HLEN := Aside0.mk hlen
 have HP := Aside0.mk hp
 have HL := Aside0.mk hl
 have HK6 := Aside0.mk k6
 have HK9 := Aside0.mk k9
 have HK10 := Aside0.mk k10
 have e10 := h.cell 10 _ k10
 clear h r0 k0 r1 k1 r2 k2 r3 k3 r4 k4 r5 k5 r10 k10 r11 k11 k9 k6 hp hl hab hb10 hi0 hsz0 hlen hsame
 go_enter Try.func68,Try.ntmps68
 go_wp2_with (first|((with_reducible refine gate_callee (f := 89) rfl ?_);refine goesL_ (some 10) rfl rfl Try.func89 (by kernel_rfl) rfl #[.pointer (some ⟨g,0,none⟩),.slice A10 0 c10] rfl (by (try simp only [List.map_toArray,List.map_cons,List.map_nil]);first|done|rfl) ?_;refine (appB_calls (fun j => j = g ∨ (Value.slice A10 n10 c10).ownBlock = some j ∨ (Value.slice A11 n11 c11).ownBlock = some j) w _ g vals (rows.set 10 none) (.slice A10 0 c10) [] HS.out A0 A1 A2 A3 A4 A5 A11 n0 c0 n1 c1 n2 c2 n3 c3 n4 c4 n5 c5 n11 c11 b1 b2 b4 b5 raw s ho o p q ha y HR0.out HK0.out HR1.out HK1.out HR2.out HK2.out HR3.out HK3.out HR4.out HK4.out HR5.out HK5.out HR11.out HK11.out HK9.out HK6.out (.inl rfl) (fun k hk => .inl (.inr (.inr hk))) HP.out (by have := HL.out;simp only [List.length_nil];omega)).mono ?_;rintro e wa ⟨v1,Aq,nq,cq,rfl,h1,ho1⟩;have HO1 := Aside0.mk ho1;clear ho1;obtain ⟨Av,nv,cv,rfl⟩ := h1.bv.form;refine ⟨_,rfl,?_⟩;have k10q : (vals.set 11 (.slice Aq nq cq))[10]? = some (.slice A10 n10 c10) := (by rw [List.getElem?_set,if_neg (by decide)];exact HK10.out);have e10q := h1.ob.cell 10 _ k10q;have z10 := h1.ob.fz 10;have HB := Aside0.mk h1;clear h1 k10q))
 go_ret
 have hob := HB.out.ob
 rw [show (rows.set 10 none).set 11 (some (true,reqL raw o p q)) = (rows.set 11 (some (true,reqL raw o p q))).set 10 none from List.set_comm _ _ (by decide)] at hob
 have hap := HB.out.ap
 rw [show (rows.set 10 none).set 11 (some (true,reqL raw o p q)) = (rows.set 11 (some (true,reqL raw o p q))).set 10 none from List.set_comm _ _ (by decide)] at hap
 exact ⟨_,_,_,_,_,_,rfl,OBJ.restore (by decide) 10 (by rw [List.length_set];exact HLEN.out) hob hap (BV.rw HB.out.bv),HB.out.on.set (.inl (.inl rfl)) _ _,HO1.out,HB.out.hv⟩
def UStrPost (S : Nat → Prop) (w : World) (g : Nat) (vals : List Value) (rows : List (Option (Bool × List UInt8))) (rq t : List UInt8) (e : Ending) (w' : World) : Prop := ∃ A n c A' n' c',e = .returned (.string ⟨t.toArray⟩) ∧ OBJ w' g 54 ((vals.set 11 (.slice A' n' c')).set 10 (.slice A n c)) ((rows.set 11 (some (true,rq))).set 10 (some (true,t))) ∧ Only S w w' ∧ (∀ k,(Value.slice A' n' c').ownBlock = some k → S k ∨ w.heap.size ≤ k) ∧ ∀ k,(Value.slice A n c).ownBlock = some k → S k ∨ w.heap.size ≤ k
set_option maxHeartbeats 8000000 in
set_option maxRecDepth 100000 in
theorem string_calls (w : World) (g : Nat) (vals : List Value) (rows : List (Option (Bool × List UInt8))) (h : OBJ w g 54 vals rows) (A0 A1 A2 A3 A4 A5 A10 A11 : Option Addr) (n0 c0 n1 c1 n2 c2 n3 c3 n4 c4 n5 c5 n10 c10 n11 c11 : Nat) (b1 b2 b4 b5 raw : Bool) (s ho o p q ha x y : List UInt8)
  (r0 : rows[0]? = some (some (true,o))) (k0 : vals[0]? = some (.slice A0 n0 c0)) (r1 : rows[1]? = some (some (b1,s))) (k1 : vals[1]? = some (.slice A1 n1 c1)) (r2 : rows[2]? = some (some (b2,p))) (k2 : vals[2]? = some (.slice A2 n2 c2)) (r3 : rows[3]? = some (some (true,q))) (k3 : vals[3]? = some (.slice A3 n3 c3)) (r4 : rows[4]? = some (some (b4,ha))) (k4 : vals[4]? = some (.slice A4 n4 c4)) (r5 : rows[5]? = some (some (b5,ho))) (k5 : vals[5]? = some (.slice A5 n5 c5)) (r11 : rows[11]? = some (some (true,y))) (k11 : vals[11]? = some (.slice A11 n11 c11)) (k9 : vals[9]? = some (.bool raw)) (k6 : vals[6]? = some (.slice none 0 0))
  (r10 : rows[10]? = some (some (true,x))) (k10 : vals[10]? = some (.slice A10 n10 c10)) (hp : p ≠ []) (hl : s.length + ho.length + o.length + p.length + q.length + ha.length ≤ 10000000000) :
  Calls Try.prog 34 #[.pointer (some ⟨g,0,none⟩)] w (UStrPost (fun j => j = g ∨ (Value.slice A10 n10 c10).ownBlock = some j ∨ (Value.slice A11 n11 c11).ownBlock = some j) w g vals rows (reqL raw o p q) (fullL s ho raw o p q ha)) := by
 have hlen : 10 < vals.length := by rcases Nat.lt_or_ge 10 vals.length with h1|h1;exact h1;rw [List.getElem?_eq_none h1] at k10;cases k10
 have hrl : 10 < rows.length := by rcases Nat.lt_or_ge 10 rows.length with h1|h1;exact h1;rw [List.getElem?_eq_none h1] at r10;cases r10
 have HS := Aside0.mk h
 have HRL := Aside0.mk hrl
 have HLEN := Aside0.mk hlen
 have HP := Aside0.mk hp
 have HL := Aside0.mk hl
 have HK9 := Aside0.mk k9
 have HK6 := Aside0.mk k6
 have HR0 := Aside0.mk r0
 have HK0 := Aside0.mk k0
 have HR1 := Aside0.mk r1
 have HK1 := Aside0.mk k1
 have HR2 := Aside0.mk r2
 have HK2 := Aside0.mk k2
 have HR3 := Aside0.mk r3
 have HK3 := Aside0.mk k3
 have HR4 := Aside0.mk r4
 have HK4 := Aside0.mk k4
 have HR5 := Aside0.mk r5
 have HK5 := Aside0.mk k5
 have HR10 := Aside0.mk r10
 have HK10 := Aside0.mk k10
 have HR11 := Aside0.mk r11
 have HK11 := Aside0.mk k11
 clear h hrl hlen hp hl k9 k6 r0 k0 r1 k1 r2 k2 r3 k3 r4 k4 r5 k5 r10 k10 r11 k11
 go_enter Try.func34,Try.ntmps34
 go_wp2_with (first|((with_reducible refine gate_callee (f := 68) rfl ?_);refine goesL_ (some 4) rfl rfl Try.func68 (by kernel_rfl) rfl #[.pointer (some ⟨g,0,none⟩)] rfl (by (try simp only [List.map_toArray,List.map_cons,List.map_nil]);first|done|rfl) ?_;refine (full_calls _ g vals rows HS.out A0 A1 A2 A3 A4 A5 A10 A11 n0 c0 n1 c1 n2 c2 n3 c3 n4 c4 n5 c5 n10 c10 n11 c11 b1 b2 b4 b5 raw s ho o p q ha x y HR0.out HK0.out HR1.out HK1.out HR2.out HK2.out HR3.out HK3.out HR4.out HK4.out HR5.out HK5.out HR11.out HK11.out HK9.out HK6.out HR10.out HK10.out HP.out HL.out).mono ?_;rintro e wa ⟨Af,nf,cf,Aq,nq,cq,rfl,hob,hon,ho1,ho2⟩;have HO1 := Aside0.mk ho1;have HO2 := Aside0.mk ho2;clear ho1 ho2;refine ⟨_,rfl,?_⟩;obtain ⟨u,hu,hb⟩ := hob.row 10 true (fullL s ho raw o p q ha) (by rw [List.getElem?_set_self];rw [List.length_set];exact HRL.out);rw [List.getElem?_set_self (by rw [List.length_set];exact HLEN.out)] at hu;cases hu;have hcv := conv_C (P := Try.prog) (c := cf) hb.C Try.underlying49 Try.underlying5 Try.underlying9;have HB := Aside0.mk hob;have HO := Aside0.mk hon;clear hob hon hb))
 go_ret
 exact ⟨_,_,_,_,_,_,rfl,HB.out,HO.out,HO1.out,HO2.out⟩
end Go.Proofs.Ytbkeakeldegkeaa.Q
end
section
namespace Go.Proofs.Ytbkeakeldegkeaa.Q
open Go.RowKit Go.Proofs.YtbkeakeldegkeaaW.PrintWords Go.Proofs.YtbkeakeldegkeaaW.PrintLast Go.Proofs.YtbkeakeldegkeaaW.PrintMore
open Go.Proofs.YtbkeakeldegkeaaKit (L size_L)
open Go.Proofs.Ytbkeakeldegkeaa.SpA (toI toI_length toI_append lowU UR SEP quoteP parseU lastU)
open Go.Proofs.Ytbkeakeldegkeaa.Ob
theorem lastU_none {l : List UInt8} (h : (47 : UInt8) ∉ l) : lastU l = l := by
 unfold lastU
 have : ∀ m : List UInt8,(47 : UInt8) ∉ m → m.takeWhile (· != 47) = m := fun m => by
  induction m with
  | nil => simp
  | cons a t ih => intro hm;simp only [List.mem_cons,not_or] at hm;simp [Ne.symm hm.1,ih hm.2]
 rw [this _ (by simpa using h),List.reverse_reverse]
theorem lastU_some {p y : List UInt8} (h : (47 : UInt8) ∉ y) : lastU (p ++ 47 :: y) = y := by
 unfold lastU
 have : ∀ m r : List UInt8,(47 : UInt8) ∉ m → (m ++ 47 :: r).takeWhile (· != 47) = m := fun m r => by
  induction m with
  | nil => simp
  | cons a t ih => intro hm;simp only [List.mem_cons,not_or] at hm;simp [Ne.symm hm.1,ih hm.2]
 rw [List.reverse_append,List.reverse_cons,List.append_assoc,List.singleton_append,this _ _ (by simpa using h),List.reverse_reverse]
theorem OBJ.len2 {W : World} {g : Nat} {T : TypeId} {vals : List Value} {rows : List (Option (Bool × List UInt8))} (h : OBJ W g T vals rows) (i : Nat) {b : Bool} {l : List UInt8} {A : Option Addr} {n c : Nat} (hr : rows[i]? = some (some (b,l))) (hv : vals[i]? = some (.slice A n c)) : n = l.length ∧ n ≤ c := by
 obtain ⟨v,hv',hw⟩ := h.row i b l hr
 rw [hv] at hv';cases hv'
 exact hw.cap
theorem OBJ.vw {S : Nat → Prop} {W : World} {g : Nat} {T : TypeId} {vals : List Value} {rows : List (Option (Bool × List UInt8))} (h : OBJ W g T vals rows) (i : Nat) {b : Bool} {l : List UInt8} {A : Option Addr} {n c : Nat} (hr : rows[i]? = some (some (b,l))) (hv : vals[i]? = some (.slice A n c)) (hS : ∀ k,(Value.slice A n c).ownBlock = some k → ¬ S k) : VW S W A n c l := by
 obtain ⟨v,hv',hw⟩ := h.row i b l hr
 rw [hv] at hv';cases hv'
 exact ⟨hw.cap.1,hw.cap.2,fun W2 ho => (hw.move fun k hk => ho.block k (hw.lt k hk) (hS k hk)).C⟩
theorem lib_at {w : World} {g : Nat} {vals : List Value} {rows : List (Option (Bool × List UInt8))} {A : Option Addr} {n c : Nat} {b : Bool} {l : List UInt8} (x : Int) {r : Int} (hx : x = r) (hev : Ev (fun k => bytes_LastIndexByte.f k (toI l) (((47 : UInt8).toNat : Nat) : Int)) r) (hn : n = l.length) (hc : n ≤ c) (h : OBJ w g 54 vals rows) (hr : rows[2]? = some (some (b,l))) (hv : vals[2]? = some (.slice A n c)) :
  Calls Try.prog 71 #[.slice A n c,.int .u8 47] w fun e w' => e = .returned (.int .i64 x) ∧ Drawn0 w w' := by
 obtain ⟨v,hv',hw⟩ := h.row 2 b l hr
 rw [hv] at hv';cases hv'
 obtain ⟨k,hk⟩ := hev
 have h1 := hw.C
 have e1 : n = (toI l).length := by rw [toI_length];exact hn
 rw [e1] at h1 hc ⊢
 rw [hx]
 exact bytes_LastIndexByte.calls k A c (toI l) 47 r w h1 hc (hk k (Nat.le_refl k))
def LastAt (A : Option Addr) (n c : Nat) (l : List UInt8) (B : Option Addr) (m d : Nat) : Prop := (∀ (S : Nat → Prop) (W : World),VW S W A n c l → VW S W B m d (lastU l)) ∧ ∀ (w : World) (g : Nat) (vals : List Value) (rows : List (Option (Bool × List UInt8))) (b : Bool),OBJ w g 54 vals rows → rows[2]? = some (some (b,l)) → vals[2]? = some (.slice A n c) → Calls Try.prog 36 #[.pointer (some ⟨g,0,none⟩)] w fun e w' => e = .returned (.slice B m d) ∧ Below w.heap.size w w'
set_option maxHeartbeats 8000000 in
set_option maxRecDepth 100000 in
theorem last_at (A : Option Addr) (n c : Nat) (l : List UInt8) (hn : n = l.length) (hc : n ≤ c) (hl : l ≠ []) (hb : l.length ≤ 4611686018427387) : ∃ B m d,LastAt A n c l B m d := by
 obtain ⟨i0,hi0,_,hsz0,_⟩ := info_parts info5
 rcases SpA.lastIB l 47 (by omega) with ⟨p,y,hpy,hy,hev⟩|⟨hno,hev⟩
 ·
  obtain ⟨x,hx⟩ : ∃ x : Int,x = (p.length : Int) := ⟨_,rfl⟩
  have hlen : p.length + 1 ≤ n := by rw [hn,hpy];simp
  obtain ⟨B,m,d,hcut,hv⟩ := cutFromU (P := Try.prog) Try.underlying49 hi0 hsz0 A n c (p.length + 1) (x + 1) (by omega) hlen
  refine ⟨B,m,d,fun S W h => ?_,fun w g vals rows b h hr hvv => ?_⟩
  ·
   have := hv S W l h
   rw [hpy,show (p ++ 47 :: y).drop (p.length + 1) = y by simp [List.drop_append]] at this
   rw [hpy,lastU_some hy]
   rw [hpy] at h
   exact this
  have hw : IntKind.i64.wrap (x + 1) = x + 1 := by
   exact (YtbkeakeldegkeaaX.wrap_i64 _).trans (Go.Proofs.YtbkeakeldegkeaaKit.wrap_id (by omega) (by omega))
  have hx0 : decide (x < 0) = false := decide_eq_false (by omega)
  have HN := Aside0.mk hn
  have HC := Aside0.mk hc
  have HL := Aside0.mk hl
  have HH := Aside0.mk h
  have HR := Aside0.mk hr
  have HV := Aside0.mk hvv
  have HX := Aside0.mk hx
  have HEV := Aside0.mk hev
  have HB := Aside0.mk (Below.refl w.heap.size w)
  clear hn hc hl h hr hvv hx hev hpy hy hlen hv hb hi0 hsz0
  go_enter Try.func36,Try.ntmps36
  go_wp2_with (first|((with_reducible refine gate_callee (f := 62) rfl ?_);refine goesL_ (some 6) rfl rfl Try.func62 (by kernel_rfl) rfl #[.pointer (some ⟨g,0,none⟩)] rfl (by (try simp only [List.map_toArray,List.map_cons,List.map_nil]);first|done|rfl) ?_;refine (uPath_ne _ g vals rows A n c b l (HH.out.below (bl_ HB.out)) HR.out HV.out HL.out).mono ?_;rintro e w1 ⟨rfl,hb1⟩;refine ⟨_,rfl,?_⟩;have n0_ := Aside0.mk (below_step (bl_ HB.out) hb1);clear HB hb1;have HB := n0_;clear n0_)|((with_reducible refine gate_callee (f := 71) rfl ?_);refine goesL_ (some 8) rfl rfl Try.func71 (by kernel_rfl) rfl #[.slice A n c,.int .u8 47] rfl (by (try simp only [List.map_toArray,List.map_cons,List.map_nil]);first|done|rfl) ?_;refine (lib_at x HX.out HEV.out HN.out HC.out (HH.out.below HB.out) HR.out HV.out).mono ?_;rintro e w2 ⟨rfl,hd⟩;refine ⟨_,rfl,?_⟩;have hb1 := hd.below;have n0_ := Aside0.mk (below_step HB.out hb1);clear HB hb1 hd;have HB := n0_;clear n0_))
  go_ret
  exact ⟨rfl,bl_ HB.out⟩
 refine ⟨A,n,c,fun S W h => by rw [lastU_none hno];exact h,fun w g vals rows b h hr hvv => ?_⟩
 have HN := Aside0.mk hn
 have HC := Aside0.mk hc
 have HL := Aside0.mk hl
 have HH := Aside0.mk h
 have HR := Aside0.mk hr
 have HV := Aside0.mk hvv
 have HEV := Aside0.mk hev
 have HB := Aside0.mk (Below.refl w.heap.size w)
 clear hn hc hl h hr hvv hev hno hb hi0 hsz0
 go_enter Try.func36,Try.ntmps36
 go_wp2_with (first|((with_reducible refine gate_callee (f := 62) rfl ?_);refine goesL_ (some 6) rfl rfl Try.func62 (by kernel_rfl) rfl #[.pointer (some ⟨g,0,none⟩)] rfl (by (try simp only [List.map_toArray,List.map_cons,List.map_nil]);first|done|rfl) ?_;refine (uPath_ne _ g vals rows A n c b l (HH.out.below (bl_ HB.out)) HR.out HV.out HL.out).mono ?_;rintro e w1 ⟨rfl,hb1⟩;refine ⟨_,rfl,?_⟩;have n0_ := Aside0.mk (below_step (bl_ HB.out) hb1);clear HB hb1;have HB := n0_;clear n0_)|((with_reducible refine gate_callee (f := 71) rfl ?_);refine goesL_ (some 8) rfl rfl Try.func71 (by kernel_rfl) rfl #[.slice A n c,.int .u8 47] rfl (by (try simp only [List.map_toArray,List.map_cons,List.map_nil]);first|done|rfl) ?_;refine (lib_at (-1) rfl HEV.out HN.out HC.out (HH.out.below HB.out) HR.out HV.out).mono ?_;rintro e w2 ⟨rfl,hd⟩;refine ⟨_,rfl,?_⟩;have hb1 := hd.below;have n0_ := Aside0.mk (below_step HB.out hb1);clear HB hb1 hd;have HB := n0_;clear n0_))
 go_ret
 exact ⟨rfl,bl_ HB.out⟩
end Go.Proofs.Ytbkeakeldegkeaa.Q
end
