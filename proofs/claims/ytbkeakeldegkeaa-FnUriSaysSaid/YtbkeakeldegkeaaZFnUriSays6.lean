/- FnUriSays: the law's function, called with any arguments, returns true and leaves its arguments as they were: every input, no condition. Part 7 of 16. -/
import Derived.Test.YtbkeakeldegkeaaZFnUriSays5
import Derived.Deep.RegionWith
import Derived.Deep.CutRange
import Derived.Deep.RegionHeld3
import Derived.Defers
import Derived.Recover
import Derived.Laws.Pointers
import Derived.Test.YtbkeakeldegkeaaZFnUriSays1
set_option linter.unusedVariables false
set_option linter.unusedSimpArgs false
section
namespace Go.Proofs.Ytbkeakeldegkeaa.Q
open Go.RowKit Go.Proofs.YtbkeakeldegkeaaW.PrintWords Go.Proofs.YtbkeakeldegkeaaW.PrintLast Go.Proofs.YtbkeakeldegkeaaW.PrintMore
open Go.Proofs.Ytbkeakeldegkeaa.SpA (toI toI_length toI_append lowU UR ix upto past partU HTTP parseU restU authU pathU SEP ib_none ib_some upto_none upto_some past_none ix1 norm)
open Go.Proofs.Ytbkeakeldegkeaa.Ob
def ParsePost (g : Nat) (w : World) (vals : List Value) (v10 v11 : Value) (f : Bool) (fu rq : List UInt8) (r : UR) (e : Ending) (w' : World) : Prop := e = .returned (.tuple #[]) ∧ ∃ x0 x1 x2 x3 x4 x5 x12 x13,OBJ w' g 54 (urV x0 x1 x2 x3 x4 x5 false false v10 v11 x12 x13) (urW f r.orig r.scheme r.path r.query r.hash r.host fu rq r.user r.pass) ∧ PStep g w vals w' (urV x0 x1 x2 x3 x4 x5 false false v10 v11 x12 x13)
theorem parse_split {h u : List UInt8} {r : UR} (hp : parseU h u = some r) (hc : u.any SpA.isCtl = false) : ∃ bq s0 h' z,bq = decide (h = [] ∨ 0 ≤ ix SEP u 0) ∧ ((bq = true ∧ ∃ x,partU h u = some (x,h',z) ∧ s0 = x.map lowU) ∨ (bq = false ∧ s0 = [] ∧ h' = h ∧ z = u)) ∧ r = restU s0 h' z ∧ h'.length ≤ h.length + u.length ∧ z.length ≤ u.length + 1 := by
 unfold parseU at hp
 rw [hc] at hp
 simp only [Bool.false_eq_true,if_false] at hp
 split at hp
 ·
  rename_i hcond
  cases hq : partU h u with
  | none => rw [hq] at hp;cases hp
  | some t =>
   obtain ⟨x,y,z⟩ := t
   rw [hq] at hp
   cases hp
   have hl := partU_len hq
   exact ⟨true,_,y,z,(decide_eq_true hcond).symm,.inl ⟨rfl,x,rfl,rfl⟩,rfl,hl.2.1,hl.2.2⟩
 rename_i hcond
 cases hp
 exact ⟨false,[],h,u,(decide_eq_false hcond).symm,.inr ⟨rfl,rfl,rfl,rfl⟩,rfl,by omega,by omega⟩
set_option maxHeartbeats 64000000 in
set_option maxRecDepth 100000 in
theorem parse_calls (w : World) (g : Nat) (A0 : Option Addr) (n0 c0 : Nat) (A1 : Option Addr) (n1 c1 : Nat) (A2 : Option Addr) (n2 c2 : Nat) (A3 : Option Addr) (n3 c3 : Nat) (A4 : Option Addr) (n4 c4 : Nat) (A12 : Option Addr) (n12 c12 : Nat) (A13 : Option Addr) (n13 c13 : Nat) (A5 : Option Addr) (n5 c5 : Nat) (b8 b9 f : Bool) (v10 v11 : Value) (o s p q hs ho fu rq us pa : List UInt8) (h0 : OBJ w g 54 (urV (.slice A0 n0 c0) (.slice A1 n1 c1) (.slice A2 n2 c2) (.slice A3 n3 c3) (.slice A4 n4 c4) (.slice A5 n5 c5) b8 b9 v10 v11 (.slice A12 n12 c12) (.slice A13 n13 c13)) (urW f o s p q hs ho fu rq us pa))
  (A B : Option Addr) (n c m d : Nat) (h u : List UInt8) (hh : VW (OS g (urV (.slice A0 n0 c0) (.slice A1 n1 c1) (.slice A2 n2 c2) (.slice A3 n3 c3) (.slice A4 n4 c4) (.slice A5 n5 c5) b8 b9 v10 v11 (.slice A12 n12 c12) (.slice A13 n13 c13))) w A n c h) (hu : VW (OS g (urV (.slice A0 n0 c0) (.slice A1 n1 c1) (.slice A2 n2 c2) (.slice A3 n3 c3) (.slice A4 n4 c4) (.slice A5 n5 c5) b8 b9 v10 v11 (.slice A12 n12 c12) (.slice A13 n13 c13))) w B m d u) (hN : NormInto f (.slice A2 0 c2)) (r : UR) (hp : parseU h u = some r) (hlh : h.length ≤ 3000000000) (hlu : u.length ≤ 3000000000) (hpo : r.orig.length ≤ 2147483647) :
  Calls Try.prog 59 #[.pointer (some ⟨g,0,none⟩),.slice A n c,.slice B m d,.bool false] w (ParsePost g w (urV (.slice A0 n0 c0) (.slice A1 n1 c1) (.slice A2 n2 c2) (.slice A3 n3 c3) (.slice A4 n4 c4) (.slice A5 n5 c5) b8 b9 v10 v11 (.slice A12 n12 c12) (.slice A13 n13 c13)) v10 v11 f fu rq r) := by
 have HH0 := Aside0.mk h0
 have HVH0 := Aside0.mk hh
 have HVU0 := Aside0.mk hu
 have HN := Aside0.mk hN
 have HLH := Aside0.mk hlh
 have HLU := Aside0.mk hlu
 have HP := Aside0.mk hp
 clear h0 hh hu hN hp hlh hlu
 by_cases hctl : u.any SpA.isCtl = true
 ·
  have HCT := Aside0.mk hctl
  clear hctl
  go_enter Try.func59,Try.ntmps59
  go_wp2_with (first|((with_reducible refine gate_callee (f := 77) rfl ?_);refine goesL_ (some 18) rfl rfl Try.func77 (by kernel_rfl) rfl #[.pointer (some ⟨g,0,none⟩)] rfl (by (try simp only [List.map_toArray,List.map_cons,List.map_nil]);first|done|rfl) ?_;refine (uriReset_calls w g A0 n0 c0 A1 n1 c1 A2 n2 c2 A3 n3 c3 A4 n4 c4 A12 n12 c12 A13 n13 c13 A5 n5 c5 b8 b9 f v10 v11 o s p q hs ho fu rq us pa HH0.out).mono ?_;rintro e w1 ⟨rfl,h1,ho1⟩;refine ⟨_,rfl,?_⟩;have HS : Aside0 (US 54 g w (urV (.slice A0 n0 c0) (.slice A1 n1 c1) (.slice A2 n2 c2) (.slice A3 n3 c3) (.slice A4 n4 c4) (.slice A5 n5 c5) b8 b9 v10 v11 (.slice A12 n12 c12) (.slice A13 n13 c13)) _ (urV (.slice A0 0 c0) (.slice A1 0 c1) (.slice A2 0 c2) (.slice A3 0 c3) (.slice A4 0 c4) (.slice A5 0 c5) false false v10 v11 (.slice A12 0 c12) (.slice A13 0 c13)) (urW f [] [] [] [] [] [] fu rq [] []) A n c h B m d u) := ⟨⟨h1,reset_step ho1,HVH0.out.step (reset_step ho1),HVU0.out.step (reset_step ho1)⟩⟩;clear h1 ho1)|((with_reducible refine gate_callee (f := 78) rfl ?_);refine goesL_ (some 20) rfl rfl Try.func78 (by kernel_rfl) rfl #[.slice B m d] rfl (by (try simp only [List.map_toArray,List.map_cons,List.map_nil]);first|done|rfl) ?_;refine (ctl_VW HS.out.vu (by have := HLU.out;omega) true HCT.out).mono ?_;rintro e w2 ⟨rfl,hd⟩;refine ⟨_,rfl,?_⟩;have hb1 := hd.below;clear hd;have n0_ := Aside0.mk (HS.out.below (below_step (by repeat (first|exact Below.refl _ _|apply below_alloc|apply pw_below_drewN|apply below_drew1)) hb1));clear HS hb1;have HS := n0_;clear n0_))
  go_end0
  have hr : r = ⟨[],[],[],[],[],[],[],[]⟩ := by
   have h1 := HP.out
   unfold parseU at h1
   rw [if_pos HCT.out] at h1
   exact (Option.some.inj h1).symm
  subst hr
  exact ⟨rfl,_,_,_,_,_,_,_,_,HS.out.ob,HS.out.ps⟩
 obtain ⟨bq,s0,h',z,hbq,hsplit,rfl,hlh',hlz⟩ := parse_split HP.out (by simpa using hctl)
 have HCT : Aside0 (u.any SpA.isCtl = false) := ⟨by simpa using hctl⟩
 have HLH' : Aside0 (h'.length ≤ 6000000000) := ⟨by have := HLH.out;have := HLU.out;omega⟩
 have HLZ : Aside0 (z.length ≤ 3000000001) := ⟨by have := HLU.out;omega⟩
 have HSP := Aside0.mk hsplit
 have HBQ := Aside0.mk hbq
 obtain ⟨ua,pw,hr,hau⟩ : ∃ a b c,authU h' = (a,b,c) := ⟨_,_,_,rfl⟩
 obtain ⟨po,pq,ph,hpu⟩ : ∃ a b c,pathU z = (a,b,c) := ⟨_,_,_,rfl⟩
 rw [show restU s0 h' z = ⟨s0,hr.map lowU,po,norm po,pq,ph,ua,pw⟩ by unfold restU;rw [hau,hpu]]
 have HPO : Aside0 (po.length ≤ 2147483647) := ⟨by have h1 := hpo;simp only [restU,hpu] at h1;exact h1⟩
 have HAU := Aside0.mk hau
 have HPU := Aside0.mk hpu
 clear hau hpu hpo
 clear hctl hsplit hlh' hlz HP hbq
 go_enter Try.func59,Try.ntmps59
 go_upto_region 2 with (first|((with_reducible refine gate_callee (f := 77) rfl ?_);refine goesL_ (some 18) rfl rfl Try.func77 (by kernel_rfl) rfl #[.pointer (some ⟨g,0,none⟩)] rfl (by (try simp only [List.map_toArray,List.map_cons,List.map_nil]);first|done|rfl) ?_;refine (uriReset_calls w g A0 n0 c0 A1 n1 c1 A2 n2 c2 A3 n3 c3 A4 n4 c4 A12 n12 c12 A13 n13 c13 A5 n5 c5 b8 b9 f v10 v11 o s p q hs ho fu rq us pa HH0.out).mono ?_;rintro e w1 ⟨rfl,h1,ho1⟩;refine ⟨_,rfl,?_⟩;have HS : Aside0 (US 54 g w (urV (.slice A0 n0 c0) (.slice A1 n1 c1) (.slice A2 n2 c2) (.slice A3 n3 c3) (.slice A4 n4 c4) (.slice A5 n5 c5) b8 b9 v10 v11 (.slice A12 n12 c12) (.slice A13 n13 c13)) _ (urV (.slice A0 0 c0) (.slice A1 0 c1) (.slice A2 0 c2) (.slice A3 0 c3) (.slice A4 0 c4) (.slice A5 0 c5) false false v10 v11 (.slice A12 0 c12) (.slice A13 0 c13)) (urW f [] [] [] [] [] [] fu rq [] []) A n c h B m d u) := ⟨⟨h1,reset_step ho1,HVH0.out.step (reset_step ho1),HVU0.out.step (reset_step ho1)⟩⟩;clear h1 ho1)|((with_reducible refine gate_callee (f := 78) rfl ?_);refine goesL_ (some 20) rfl rfl Try.func78 (by kernel_rfl) rfl #[.slice B m d] rfl (by (try simp only [List.map_toArray,List.map_cons,List.map_nil]);first|done|rfl) ?_;refine (ctl_VW HS.out.vu (by have := HLU.out;omega) false HCT.out).mono ?_;rintro e w2 ⟨rfl,hd⟩;refine ⟨_,rfl,?_⟩;have hb1 := hd.below;clear hd;have n0_ := Aside0.mk (HS.out.below (below_step (by repeat (first|exact Below.refl _ _|apply below_alloc|apply pw_below_drewN|apply below_drew1)) hb1));clear HS hb1;have HS := n0_;clear n0_))
 try simp only [Act.put,List.setIfInBounds_toArray,List.set_cons_succ,List.set_cons_zero]
 go_cut [28] from 21 to 28 (fun v28_ wx => v28_ = .bool bq ∧ Aside0 (US 54 g w (urV (.slice A0 n0 c0) (.slice A1 n1 c1) (.slice A2 n2 c2) (.slice A3 n3 c3) (.slice A4 n4 c4) (.slice A5 n5 c5) b8 b9 v10 v11 (.slice A12 n12 c12) (.slice A13 n13 c13)) wx (urV (.slice A0 0 c0) (.slice A1 0 c1) (.slice A2 0 c2) (.slice A3 0 c3) (.slice A4 0 c4) (.slice A5 0 c5) false false v10 v11 (.slice A12 0 c12) (.slice A13 0 c13)) (urW f [] [] [] [] [] [] fu rq [] []) A n c h B m d u))
 case first =>
  by_cases hh0 : h = []
  ·
   have hq : bq = true := by rw [HBQ.out];exact decide_eq_true (.inl hh0)
   subst hh0 hq
   obtain rfl : n = 0 := HS.out.vh.len
   go_wp2_with (fail)
   go_meet
   case rel => exact ⟨rfl,HS⟩
  have hn0 : ((n : Int) == 0) = false := beq_eq_false_iff_ne.2 (by have := HS.out.vh.len;have := List.length_pos_iff.2 hh0;omega)
  have HIX : Aside0 (decide (0 ≤ ix SEP u 0) = bq) := ⟨by rw [HBQ.out];simp [hh0]⟩
  clear hh0
  go_wp2_with (first|((with_reducible refine gate_callee (f := 80) rfl ?_);(refine gate_guard (by kernel_rfl) ?_);refine goesL_ (some 26) rfl rfl Try.func80 (by kernel_rfl) rfl #[] rfl (by (try simp only [List.map_toArray,List.map_cons,List.map_nil]);first|done|rfl) ?_;refine (strColonSlashSlash_calls _).mono ?_;rintro e w3 ⟨gS,kS,rfl,hcS,hbS,hgS,hb1⟩;refine ⟨_,rfl,?_⟩;have HSEP := Aside0.mk (VW.of_BR (S := fun _ => False) hbS (fun e => e) hcS (by decide));clear hcS hbS hgS;have n0_ := Aside0.mk (HS.out.below (below_step (by repeat (first|exact Below.refl _ _|apply below_alloc|apply pw_below_drewN|apply below_drew1)) hb1));clear HS hb1;have HS := n0_;clear n0_)|((with_reducible refine gate_callee (f := 79) rfl ?_);(refine gate_guard (by kernel_rfl) ?_);refine goesL_ (some 27) rfl rfl Try.func79 (by kernel_rfl) rfl #[.slice B m d,.slice (some ⟨gS,0,none⟩) 3 kS] rfl (by (try simp only [List.map_toArray,List.map_cons,List.map_nil]);first|done|rfl) ?_;refine (zc_VW HS.out.vu HSEP.out (by decide) (by have := HLU.out;omega) (by decide) bq HIX.out).mono ?_;rintro e w4 ⟨rfl,hd⟩;refine ⟨_,rfl,?_⟩;have hb1 := hd.below;clear hd;have n0_ := Aside0.mk (HS.out.below (below_step (by repeat (first|exact Below.refl _ _|apply below_alloc|apply pw_below_drewN|apply below_drew1)) hb1));clear HS hb1;have HS := n0_;clear n0_))
  go_meet
  case rel => exact ⟨rfl,HS⟩
 case rest =>
  obtain ⟨rfl,HSX⟩ := hcut
  clear HS
  have HS := HSX
  clear HSX HBQ
  go_upto_if 28 with (fail)
  go_cut [1,2] from 29 to 51 (fun v1_ v2_ wx => ∃ A' n' c' B' m' d' Ay ny cy,v1_ = .slice A' n' c' ∧ v2_ = .slice B' m' d' ∧ Aside0 (US 54 g w (urV (.slice A0 n0 c0) (.slice A1 n1 c1) (.slice A2 n2 c2) (.slice A3 n3 c3) (.slice A4 n4 c4) (.slice A5 n5 c5) b8 b9 v10 v11 (.slice A12 n12 c12) (.slice A13 n13 c13)) wx (urV (.slice A0 0 c0) (.slice Ay ny cy) (.slice A2 0 c2) (.slice A3 0 c3) (.slice A4 0 c4) (.slice A5 0 c5) false false v10 v11 (.slice A12 0 c12) (.slice A13 0 c13)) (urW f [] s0 [] [] [] [] fu rq [] []) A' n' c' h' B' m' d' z))
  case first =>
   rcases HSP.out with ⟨rfl,x,hx,rfl⟩|⟨rfl,rfl,rfl,rfl⟩
   ·
    have HX := Aside0.mk hx
    have hxl := (partU_len hx).1
    have HXL : Aside0 (x.length ≤ 3000000004) := ⟨by have := HLU.out;omega⟩
    clear hx hxl
    have e1 := HS.out.ob.cell 1 _ rfl
    have z1 := HS.out.ob.fz 1
    go_wp2_with (first|((with_reducible refine gate_callee (f := 81) rfl ?_);refine goesL_ (some 32) rfl rfl Try.func81 (by kernel_rfl) rfl #[.slice A n c,.slice B m d] rfl (by (try simp only [List.map_toArray,List.map_cons,List.map_nil]);first|done|rfl) ?_;refine (split_calls _ A B n c m d h u x h' z HS.out.vh HS.out.vu (fun k hk => OS_lt HS.out.ob (urW_rows _ _ _ _ _ _ _ _ _ _ _) k hk) HX.out).mono ?_;rintro e w5 ⟨⟨Ax,nx,cx,Ap,np,cp,Aq,nq,cq,rfl,hvx,hvp,hvq⟩,hb1⟩;refine ⟨_,rfl,?_⟩;have n0_ := Aside0.mk (HS.out.below (below_step (by repeat (first|exact Below.refl _ _|apply below_alloc|apply pw_below_drewN|apply below_drew1)) hb1));clear HS hb1;have HS := n0_;clear n0_;have n0_ := Aside0.mk (HS.out.views hvp hvq);have HVX := Aside0.mk hvx;clear HS hvp hvq hvx;have HS := n0_;clear n0_ e1 z1;have e1 := HS.out.ob.cell 1 _ rfl;have z1 := HS.out.ob.fz 1)|((with_reducible refine gate_builtin (b := .append) (xs := #[.tmp 40,.tmp 41]) rfl ?_);at_builtin;refine app_BV rfl (.tmp 40) (.tmp 41) 49 rfl Try.underlying49 info5 (.slice A1 0 c1) [] x Ax nx cx rfl rfl (by exact HS.out.bv 1 rfl rfl) (by exact HVX.out.C) (by have := HXL.out;simp;omega) ?_;intro v1 W1 hb ho hat;obtain ⟨Ay,ny,cy,rfl⟩ := hb.form;obtain ⟨hd,hs1⟩ := HS.out.app (by decide) 1 rfl rfl rfl hb ho hat;clear e1 z1;have e1 := hd.cell 1 _ rfl;have z1 := hd.fz 1;have n0_ : Aside0 (US 54 g w (urV (.slice A0 n0 c0) (.slice A1 n1 c1) (.slice A2 n2 c2) (.slice A3 n3 c3) (.slice A4 n4 c4) (.slice A5 n5 c5) b8 b9 v10 v11 (.slice A12 n12 c12) (.slice A13 n13 c13)) _ (urV (.slice A0 0 c0) (.slice Ay ny cy) (.slice A2 0 c2) (.slice A3 0 c3) (.slice A4 0 c4) (.slice A5 0 c5) false false v10 v11 (.slice A12 0 c12) (.slice A13 0 c13)) (urW f [] x [] [] [] [] fu rq [] []) Ap np cp h' Aq nq cq z) := ⟨hs1⟩;clear HS hb ho hat hd hs1;have HS := n0_;clear n0_)|((with_reducible refine gate_callee (f := 73) rfl ?_);refine goesL_ (some 49) rfl rfl Try.func73 (by kernel_rfl) rfl #[.slice Ay ny cy] rfl (by (try simp only [List.map_toArray,List.map_cons,List.map_nil]);first|done|rfl) ?_;refine (lowercase_calls _ Ay ny cy x (HS.out.bv 1 rfl rfl) (by have := HXL.out;omega)).mono ?_;rintro e w6 ⟨rfl,hbv,hon⟩;refine ⟨_,rfl,?_⟩;have n0_ : Aside0 (US 54 g w (urV (.slice A0 n0 c0) (.slice A1 n1 c1) (.slice A2 n2 c2) (.slice A3 n3 c3) (.slice A4 n4 c4) (.slice A5 n5 c5) b8 b9 v10 v11 (.slice A12 n12 c12) (.slice A13 n13 c13)) _ (urV (.slice A0 0 c0) (.slice Ay ny cy) (.slice A2 0 c2) (.slice A3 0 c3) (.slice A4 0 c4) (.slice A5 0 c5) false false v10 v11 (.slice A12 0 c12) (.slice A13 0 c13)) (urW f [] (x.map lowU) [] [] [] [] fu rq [] []) Ap np cp h' Aq nq cq z) := ⟨HS.out.turn (by decide) 1 rfl rfl rfl hon hbv⟩;clear HS hbv hon;have HS := n0_;clear n0_ e1 z1))
    go_meet
    case rel => exact ⟨_,_,_,_,_,_,_,_,_,rfl,rfl,HS⟩
   go_wp2_with (fail)
   go_meet
   case rel => exact ⟨_,_,_,_,_,_,_,_,_,rfl,rfl,HS⟩
  case rest =>
   obtain ⟨A',n',c',B',m',d',Ay,ny,cy,rfl,rfl,HSX⟩ := hcut
   clear HS
   have HS := HSX
   clear HSX HCT HSP HH0 HVH0 HVU0
   obtain ⟨xa,hxa⟩ : ∃ x,ix [64] h' 0 = x := ⟨_,rfl⟩
   have HXA := Aside0.mk hxa
   clear hxa
   obtain ⟨ba,hba⟩ : ∃ b,decide (0 ≤ xa) = b := ⟨_,rfl⟩
   have HBA := Aside0.mk hba
   clear hba
   go_upto_region 11 with (first|((with_reducible refine gate_callee (f := 84) rfl ?_);refine goesL_ (some 64) rfl rfl Try.func84 (by kernel_rfl) rfl #[] rfl (by (try simp only [List.map_toArray,List.map_cons,List.map_nil]);first|done|rfl) ?_;refine (strAt_calls _).mono ?_;rintro e w3 ⟨gS,kS,rfl,hcS,hbS,hgS,hb1⟩;refine ⟨_,rfl,?_⟩;have HAT := Aside0.mk (VW.of_BR (S := fun _ => False) hbS (fun e => e) hcS (by decide));clear hcS hbS hgS;have n0_ := Aside0.mk (HS.out.below (below_step (by repeat (first|exact Below.refl _ _|apply below_alloc|apply pw_below_drewN|apply below_drew1)) hb1));clear HS hb1;have HS := n0_;clear n0_)|((with_reducible refine gate_callee (f := 83) rfl ?_);refine goesL_ (some 65) rfl rfl Try.func83 (by kernel_rfl) rfl #[.slice A' n' c',.slice (some ⟨gS,0,none⟩) 1 kS] rfl (by (try simp only [List.map_toArray,List.map_cons,List.map_nil]);first|done|rfl) ?_;refine (zz_VW HS.out.vh HAT.out (by decide) (by have := HLH'.out;omega) (by decide) xa HXA.out).mono ?_;rintro e w4 ⟨rfl,hd⟩;refine ⟨_,rfl,?_⟩;have hb1 := hd.below;clear hd;have n0_ := Aside0.mk (HS.out.below (below_step (by repeat (first|exact Below.refl _ _|apply below_alloc|apply pw_below_drewN|apply below_drew1)) hb1));clear HS hb1;have HS := n0_;clear n0_))
   try simp only [Act.put,List.setIfInBounds_toArray,List.set_cons_succ,List.set_cons_zero]
   go_cut [67] from 66 to 67 (fun v67_ wx => v67_ = .bool ba ∧ Aside0 (US 54 g w (urV (.slice A0 n0 c0) (.slice A1 n1 c1) (.slice A2 n2 c2) (.slice A3 n3 c3) (.slice A4 n4 c4) (.slice A5 n5 c5) b8 b9 v10 v11 (.slice A12 n12 c12) (.slice A13 n13 c13)) wx (urV (.slice A0 0 c0) (.slice Ay ny cy) (.slice A2 0 c2) (.slice A3 0 c3) (.slice A4 0 c4) (.slice A5 0 c5) false false v10 v11 (.slice A12 0 c12) (.slice A13 0 c13)) (urW f [] s0 [] [] [] [] fu rq [] []) A' n' c' h' B' m' d' z))
   case first =>
    have hb := HBA.out
    go_wp2
    go_meet
    case rel => exact ⟨rfl,HS⟩
   case rest =>
   obtain ⟨rfl,HSX⟩ := hcut
   clear HS
   have HS := HSX
   clear HSX
   go_upto_if 67 with (fail)
   go_cut [1] from 68 to 122 (fun v1_ wx => ∃ Ah nh ch Au nu cu Aw nw cw,v1_ = .slice Ah nh ch ∧ Aside0 (US 54 g w (urV (.slice A0 n0 c0) (.slice A1 n1 c1) (.slice A2 n2 c2) (.slice A3 n3 c3) (.slice A4 n4 c4) (.slice A5 n5 c5) b8 b9 v10 v11 (.slice A12 n12 c12) (.slice A13 n13 c13)) wx (urV (.slice A0 0 c0) (.slice Ay ny cy) (.slice A2 0 c2) (.slice A3 0 c3) (.slice A4 0 c4) (.slice A5 0 c5) false false v10 v11 (.slice Au nu cu) (.slice Aw nw cw)) (urW f [] s0 [] [] [] [] fu rq ua pw) Ah nh ch hr B' m' d' z))
   case first =>
    obtain ⟨i0,hi0,_,hsz0,_⟩ := info_parts info5
    have hnl := HS.out.vh.len
    have hcap := HS.out.vh.cap
    by_cases h64 : (64 : UInt8) ∈ h'
    ·
     obtain ⟨x1,j1,B2,m2,d2,hix,_,hxj,hjn,hj,hr1,hr2,hv1,hv2⟩ := cuts_at (P := Try.prog) Try.underlying49 hi0 hsz0 A' n' c' h' 64 hnl hcap h64
     obtain rfl : x1 = xa := hix.symm.trans HXA.out
     obtain rfl : ba = true := by rw [← HBA.out];exact decide_eq_true (by omega)
     have q0 : 0 ≤ x1 := by omega
     have q1 : x1 ≤ 6000000000 := by have := HLH'.out;omega
     have HV1 := Aside0.mk hv1
     have HV2 := Aside0.mk hv2
     have HJ := Aside0.mk hj
     have HJL : Aside0 ((upto 64 h').length ≤ 6000000000) := ⟨by have := HLH'.out;omega⟩
     have hj1c : j1 ≤ c' := by omega
     by_cases h58 : (58 : UInt8) ∈ upto 64 h'
     ·
      obtain ⟨x2,j2,B4,m4,d4,hix2,_,hxj2,hjn2,hj2,hr3,hr4,hv3,hv4⟩ := cuts_at (P := Try.prog) Try.underlying49 hi0 hsz0 A' j1 c' (upto 64 h') 58 hj hj1c h58
      have HX2 := Aside0.mk hix2
      have b1 : decide (0 ≤ x2) = true := decide_eq_true (by omega)
      have q2 : 0 ≤ x2 := by omega
      have q3 : x2 ≤ 6000000000 := by have := HJL.out;omega
      have hw2 : IntKind.i64.wrap (x2 + 1) = x2 + 1 := (YtbkeakeldegkeaaX.wrap_i64 _).trans (by unfold wrap64;omega)
      have HV3 := Aside0.mk hv3
      have HV4 := Aside0.mk hv4
      have HE : Aside0 (authU h' = (upto 58 (upto 64 h'),past 58 (upto 64 h'),past 64 h')) := ⟨by unfold authU;rw [if_pos h64,if_pos h58]⟩
      obtain ⟨rfl,rfl,rfl⟩ : ua = upto 58 (upto 64 h') ∧ pw = past 58 (upto 64 h') ∧ hr = past 64 h' := by have := HAU.out.symm.trans HE.out;simpa using this
      have HL3 : Aside0 ((upto 58 (upto 64 h')).length ≤ 6000000000 ∧ (past 58 (upto 64 h')).length ≤ 6000000000) := ⟨by have := (upto_some h58).2.2.2.2.2.1;have h9 := congrArg List.length this;simp only [List.length_append,List.length_cons] at h9;have := HJL.out;omega⟩
      have HCUT12 := cut0_run (P := Try.prog) Try.underlying49 hi0 A12 0 c12 0 (0 : Int) rfl (Nat.zero_le _)
      have HCUT13 := cut0_run (P := Try.prog) Try.underlying49 hi0 A13 0 c13 0 (0 : Int) rfl (Nat.zero_le _)
      clear h64 h58 hix hxj hjn hj hv1 hv2 hix2 hxj2 hjn2 hj2 hv3 hv4 hi0 hsz0 hnl hcap hj1c HE
      go_wp2_with (first|((with_reducible refine gate_callee (f := 85) rfl ?_);refine goesL_ (some 76) rfl rfl Try.func85 (by kernel_rfl) rfl #[] rfl (by (try simp only [List.map_toArray,List.map_cons,List.map_nil]);first|done|rfl) ?_;refine (strColon_calls _).mono ?_;rintro e w3 ⟨gS,kS,rfl,hcS,hbS,hgS,hb1⟩;refine ⟨_,rfl,?_⟩;have HCO := Aside0.mk (VW.of_BR (S := fun _ => False) hbS (fun e => e) hcS (by decide));clear hcS hbS hgS;have n0_ := Aside0.mk (HS.out.below (below_step (by repeat (first|exact Below.refl _ _|apply below_alloc|apply pw_below_drewN|apply below_drew1)) hb1));clear HS hb1;have HS := n0_;clear n0_)|((with_reducible refine gate_callee (f := 83) rfl ?_);refine goesL_ (some 77) rfl rfl Try.func83 (by kernel_rfl) rfl #[.slice A' j1 c',.slice (some ⟨gS,0,none⟩) 1 kS] rfl (by (try simp only [List.map_toArray,List.map_cons,List.map_nil]);first|done|rfl) ?_;refine (zz_VW (HV1.out _ _ HS.out.vh) HCO.out (by decide) (by have := HJL.out;omega) (by decide) x2 HX2.out).mono ?_;rintro e w4 ⟨rfl,hd⟩;refine ⟨_,rfl,?_⟩;have hb1 := hd.below;clear hd;have n0_ := Aside0.mk (HS.out.below (below_step (by repeat (first|exact Below.refl _ _|apply below_alloc|apply pw_below_drewN|apply below_drew1)) hb1));clear HS hb1;have HS := n0_;clear n0_))
      have e12 := HS.out.ob.cell 12 _ rfl
      have z12 := HS.out.ob.fz 12
      have e13 := HS.out.ob.cell 13 _ rfl
      have z13 := HS.out.ob.fz 13
      go_region_law (((have n0_ := Aside0.mk (HS.out.below (below_drew1 (Below.refl _ _)));clear HS;have HS := n0_;clear n0_);(refine step_app_BV rfl (.tmp 85) (.tmp 88) 49 rfl Try.underlying49 info5 (.slice A12 0 c12) [] (upto 58 (upto 64 h')) A' j2 c' (by simp [Act.eval,Act.put]) (by simp [Act.eval,Act.put]) (by exact HS.out.bv 12 rfl rfl) (by exact (HV3.out _ _ (HV1.out _ _ HS.out.vh)).C) (by have := HL3.out;simp;omega) ?_;intro v1 W1 hb ho hat;obtain ⟨Au,nu,cu,rfl⟩ := hb.form;obtain ⟨hd,hs1⟩ := HS.out.app (by decide) 12 rfl rfl rfl hb ho hat;clear e12 z12;have e12 := hd.cell 12 _ rfl;have z12 := hd.fz 12;have n0_ : Aside0 (US 54 g w (urV (.slice A0 n0 c0) (.slice A1 n1 c1) (.slice A2 n2 c2) (.slice A3 n3 c3) (.slice A4 n4 c4) (.slice A5 n5 c5) b8 b9 v10 v11 (.slice A12 n12 c12) (.slice A13 n13 c13)) _ (urV (.slice A0 0 c0) (.slice Ay ny cy) (.slice A2 0 c2) (.slice A3 0 c3) (.slice A4 0 c4) (.slice A5 0 c5) false false v10 v11 (.slice Au nu cu) (.slice A13 0 c13)) (urW f [] s0 [] [] [] [] fu rq (upto 58 (upto 64 h')) []) A' n' c' h' B' m' d' z) := ⟨hs1⟩;clear HS hb ho hat hd hs1;have HS := n0_;clear n0_)))
      all_goals clear e13 z13
      all_goals (have e13 := HS.out.ob.cell 13 _ rfl;have z13 := HS.out.ob.fz 13)
      all_goals go_wp2
      all_goals go_region_law (((have n0_ := Aside0.mk (HS.out.below (below_drew1 (Below.refl _ _)));clear HS;have HS := n0_;clear n0_);(refine step_app_BV rfl (.tmp 97) (.tmp 101) 49 rfl Try.underlying49 info5 (.slice A13 0 c13) [] (past 58 (upto 64 h')) B4 m4 d4 (by simp [Act.eval,Act.put]) (by simp [Act.eval,Act.put]) (by exact HS.out.bv 13 rfl rfl) (by exact (HV4.out _ _ (HV1.out _ _ HS.out.vh)).C) (by have := HL3.out;simp;omega) ?_;intro v1 W1 hb ho hat;obtain ⟨Aw,nw,cw,rfl⟩ := hb.form;obtain ⟨hd,hs1⟩ := HS.out.app (by decide) 13 rfl rfl rfl hb ho hat;clear e13 z13;have e13 := hd.cell 13 _ rfl;have z13 := hd.fz 13;have n0_ : Aside0 (US 54 g w (urV (.slice A0 n0 c0) (.slice A1 n1 c1) (.slice A2 n2 c2) (.slice A3 n3 c3) (.slice A4 n4 c4) (.slice A5 n5 c5) b8 b9 v10 v11 (.slice A12 n12 c12) (.slice A13 n13 c13)) _ (urV (.slice A0 0 c0) (.slice Ay ny cy) (.slice A2 0 c2) (.slice A3 0 c3) (.slice A4 0 c4) (.slice A5 0 c5) false false v10 v11 (.slice Au nu cu) (.slice Aw nw cw)) (urW f [] s0 [] [] [] [] fu rq (upto 58 (upto 64 h')) (past 58 (upto 64 h'))) A' n' c' h' B' m' d' z) := ⟨hs1⟩;clear HS hb ho hat hd hs1;have HS := n0_;clear n0_)))
      all_goals go_wp2
      all_goals (go_meet;exact ⟨_,_,_,_,_,_,_,_,_,rfl,⟨HS.out.views (HV2.out _ _ HS.out.vh) HS.out.vu⟩⟩)
     have HX2 : Aside0 (ix [58] (upto 64 h') 0 = -1) := ⟨by rw [ix1,if_neg h58]⟩
     have HE : Aside0 (authU h' = (upto 64 h',[],past 64 h')) := ⟨by unfold authU;rw [if_pos h64,if_neg h58]⟩
     obtain ⟨rfl,rfl,rfl⟩ : ua = upto 64 h' ∧ pw = [] ∧ hr = past 64 h' := by have := HAU.out.symm.trans HE.out;simpa using this
     have HCUT12 := cut0_run (P := Try.prog) Try.underlying49 hi0 A12 0 c12 0 (0 : Int) rfl (Nat.zero_le _)
     have HCUT13 := cut0_run (P := Try.prog) Try.underlying49 hi0 A13 0 c13 0 (0 : Int) rfl (Nat.zero_le _)
     clear h64 h58 hix hxj hjn hj hv1 hv2 hi0 hsz0 hnl hcap hj1c HE
     go_wp2_with (first|((with_reducible refine gate_callee (f := 85) rfl ?_);refine goesL_ (some 76) rfl rfl Try.func85 (by kernel_rfl) rfl #[] rfl (by (try simp only [List.map_toArray,List.map_cons,List.map_nil]);first|done|rfl) ?_;refine (strColon_calls _).mono ?_;rintro e w3 ⟨gS,kS,rfl,hcS,hbS,hgS,hb1⟩;refine ⟨_,rfl,?_⟩;have HCO := Aside0.mk (VW.of_BR (S := fun _ => False) hbS (fun e => e) hcS (by decide));clear hcS hbS hgS;have n0_ := Aside0.mk (HS.out.below (below_step (by repeat (first|exact Below.refl _ _|apply below_alloc|apply pw_below_drewN|apply below_drew1)) hb1));clear HS hb1;have HS := n0_;clear n0_)|((with_reducible refine gate_callee (f := 83) rfl ?_);refine goesL_ (some 77) rfl rfl Try.func83 (by kernel_rfl) rfl #[.slice A' j1 c',.slice (some ⟨gS,0,none⟩) 1 kS] rfl (by (try simp only [List.map_toArray,List.map_cons,List.map_nil]);first|done|rfl) ?_;refine (zz_VW (HV1.out _ _ HS.out.vh) HCO.out (by decide) (by have := HJL.out;omega) (by decide) (-1) HX2.out).mono ?_;rintro e w4 ⟨rfl,hd⟩;refine ⟨_,rfl,?_⟩;have hb1 := hd.below;clear hd;have n0_ := Aside0.mk (HS.out.below (below_step (by repeat (first|exact Below.refl _ _|apply below_alloc|apply pw_below_drewN|apply below_drew1)) hb1));clear HS hb1;have HS := n0_;clear n0_;have e12 := HS.out.ob.cell 12 _ rfl;have z12 := HS.out.ob.fz 12;have e13 := HS.out.ob.cell 13 _ rfl;have z13 := HS.out.ob.fz 13)|((with_reducible refine gate_builtin (b := .append) (xs := #[.tmp 110,.tmp 111]) rfl ?_);at_builtin;refine app_BV rfl (.tmp 110) (.tmp 111) 49 rfl Try.underlying49 info5 (.slice A12 0 c12) [] (upto 64 h') A' j1 c' rfl rfl (by exact HS.out.bv 12 rfl rfl) (by exact (HV1.out _ _ HS.out.vh).C) (by have := HJL.out;simp;omega) ?_;intro v1 W1 hb ho hat;obtain ⟨Au,nu,cu,rfl⟩ := hb.form;obtain ⟨hd,hs1⟩ := HS.out.app (by decide) 12 rfl rfl rfl hb ho hat;clear e12 z12;have e12 := hd.cell 12 _ rfl;have z12 := hd.fz 12;have n0_ : Aside0 (US 54 g w (urV (.slice A0 n0 c0) (.slice A1 n1 c1) (.slice A2 n2 c2) (.slice A3 n3 c3) (.slice A4 n4 c4) (.slice A5 n5 c5) b8 b9 v10 v11 (.slice A12 n12 c12) (.slice A13 n13 c13)) _ (urV (.slice A0 0 c0) (.slice Ay ny cy) (.slice A2 0 c2) (.slice A3 0 c3) (.slice A4 0 c4) (.slice A5 0 c5) false false v10 v11 (.slice Au nu cu) (.slice A13 0 c13)) (urW f [] s0 [] [] [] [] fu rq (upto 64 h') []) A' n' c' h' B' m' d' z) := ⟨hs1⟩;clear HS hb ho hat hd hs1;have HS := n0_;clear n0_;clear e13 z13;have e13 := HS.out.ob.cell 13 _ rfl;have z13 := HS.out.ob.fz 13))
     go_meet
     case rel => exact ⟨_,_,_,_,_,_,_,_,_,rfl,⟨(HS.out.views (HV2.out _ _ HS.out.vh) HS.out.vu).same (by decide) 13 rfl⟩⟩
    have hxe : xa = -1 := by rw [← HXA.out,ix1,if_neg h64]
    have HE : Aside0 (authU h' = ([],[],h')) := ⟨by unfold authU;rw [if_neg h64]⟩
    obtain ⟨rfl,rfl,rfl⟩ : ua = [] ∧ pw = [] ∧ hr = h' := by have := HAU.out.symm.trans HE.out;simpa using this
    obtain rfl : ba = false := by rw [← HBA.out];exact decide_eq_false (by omega)
    clear h64 hi0 hsz0 hnl hcap HE hxe
    go_wp2
    go_meet
    case rel => exact ⟨_,_,_,_,_,_,_,_,_,rfl,HS⟩
   case rest =>
    obtain ⟨Ah,nh,ch,Au,nu,cu,Aw,nw,cw,rfl,HSX⟩ := hcut
    clear HS
    have HS := HSX
    clear HSX HXA HBA
    have HLHR : Aside0 (hr.length ≤ 6000000000) := ⟨by
     have h1 := HAU.out
     have h2 := HLH'.out
     unfold authU at h1
     split at h1
     ·
      rename_i h64
      have h3 := congrArg List.length (upto_some h64).2.2.2.2.2.1
      simp only [List.length_append,List.length_cons] at h3
      split at h1 <;> (simp only [Prod.mk.injEq] at h1;obtain ⟨_,_,rfl⟩ := h1;omega)
     simp only [Prod.mk.injEq] at h1
     obtain ⟨_,_,rfl⟩ := h1
     omega⟩
    obtain ⟨yq,hyq⟩ : ∃ x,Lib.indexByte z 63 = x := ⟨_,rfl⟩
    obtain ⟨yf,hyf⟩ : ∃ x,Lib.indexByte z 35 = x := ⟨_,rfl⟩
    have HXQ := Aside0.mk hyq
    have HXF := Aside0.mk hyf
    clear hyq hyf
    have e5 := HS.out.ob.cell 5 _ rfl
    have z5 := HS.out.ob.fz 5
    go_upto_region 25 with (first|((with_reducible refine gate_builtin (b := .append) (xs := #[.tmp 127,.tmp 128]) rfl ?_);at_builtin;refine app_BV rfl (.tmp 127) (.tmp 128) 49 rfl Try.underlying49 info5 (.slice A5 0 c5) [] hr Ah nh ch rfl rfl (by exact HS.out.bv 5 rfl rfl) (by exact HS.out.vh.C) (by have := HLHR.out;simp;omega) ?_;intro v1 W1 hb ho hat;obtain ⟨Ak,nk,ck,rfl⟩ := hb.form;obtain ⟨hd,hs1⟩ := HS.out.app (by decide) 5 rfl rfl rfl hb ho hat;clear e5 z5;have e5 := hd.cell 5 _ rfl;have z5 := hd.fz 5;have n0_ : Aside0 (US 54 g w (urV (.slice A0 n0 c0) (.slice A1 n1 c1) (.slice A2 n2 c2) (.slice A3 n3 c3) (.slice A4 n4 c4) (.slice A5 n5 c5) b8 b9 v10 v11 (.slice A12 n12 c12) (.slice A13 n13 c13)) _ (urV (.slice A0 0 c0) (.slice Ay ny cy) (.slice A2 0 c2) (.slice A3 0 c3) (.slice A4 0 c4) (.slice Ak nk ck) false false v10 v11 (.slice Au nu cu) (.slice Aw nw cw)) (urW f [] s0 [] [] [] hr fu rq ua pw) Ah nh ch hr B' m' d' z) := ⟨hs1⟩;clear HS hb ho hat hd hs1;have HS := n0_;clear n0_)|((with_reducible refine gate_callee (f := 73) rfl ?_);refine goesL_ (some 136) rfl rfl Try.func73 (by kernel_rfl) rfl #[.slice Ak nk ck] rfl (by (try simp only [List.map_toArray,List.map_cons,List.map_nil]);first|done|rfl) ?_;refine (lowercase_calls _ Ak nk ck hr (HS.out.bv 5 rfl rfl) (by have := HLHR.out;omega)).mono ?_;rintro e w6 ⟨rfl,hbv,hon⟩;refine ⟨_,rfl,?_⟩;have n0_ : Aside0 (US 54 g w (urV (.slice A0 n0 c0) (.slice A1 n1 c1) (.slice A2 n2 c2) (.slice A3 n3 c3) (.slice A4 n4 c4) (.slice A5 n5 c5) b8 b9 v10 v11 (.slice A12 n12 c12) (.slice A13 n13 c13)) _ (urV (.slice A0 0 c0) (.slice Ay ny cy) (.slice A2 0 c2) (.slice A3 0 c3) (.slice A4 0 c4) (.slice Ak nk ck) false false v10 v11 (.slice Au nu cu) (.slice Aw nw cw)) (urW f [] s0 [] [] [] (hr.map lowU) fu rq ua pw) Ah nh ch hr B' m' d' z) := ⟨HS.out.turn (by decide) 5 rfl rfl rfl hon hbv⟩;clear HS hbv hon;have HS := n0_;clear n0_ e5 z5)|((with_reducible refine gate_callee (f := 86) rfl ?_);refine goesL_ (some 139) rfl rfl Try.func86 (by kernel_rfl) rfl #[.slice B' m' d',.int .u8 63] rfl (by (try simp only [List.map_toArray,List.map_cons,List.map_nil]);first|done|rfl) ?_;refine (ib_VW HS.out.vu 63 63 rfl yq HXQ.out).mono ?_;rintro e w7 ⟨rfl,hd⟩;refine ⟨_,rfl,?_⟩;have hb1 := hd.below;clear hd;have n0_ := Aside0.mk (HS.out.below (below_step (by repeat (first|exact Below.refl _ _|apply below_alloc|apply pw_below_drewN|apply below_drew1)) hb1));clear HS hb1;have HS := n0_;clear n0_)|((with_reducible refine gate_callee (f := 86) rfl ?_);refine goesL_ (some 141) rfl rfl Try.func86 (by kernel_rfl) rfl #[.slice B' m' d',.int .u8 35] rfl (by (try simp only [List.map_toArray,List.map_cons,List.map_nil]);first|done|rfl) ?_;refine (ib_VW HS.out.vu 35 35 rfl yf HXF.out).mono ?_;rintro e w8 ⟨rfl,hd⟩;refine ⟨_,rfl,?_⟩;have hb1 := hd.below;clear hd;have n0_ := Aside0.mk (HS.out.below (below_step (by repeat (first|exact Below.refl _ _|apply below_alloc|apply pw_below_drewN|apply below_drew1)) hb1));clear HS hb1;have HS := n0_;clear n0_))
    try simp only [Act.put,List.setIfInBounds_toArray,List.set_cons_succ,List.set_cons_zero]
    obtain ⟨i0,hi0,_,hsz0,_⟩ := info_parts info5
    have hnl := HS.out.vu.len
    have hcap := HS.out.vu.cap
    have hzl := HLZ.out
    by_cases h35 : (35 : UInt8) ∈ z
    ·
     by_cases h63 : (63 : UInt8) ∈ upto 35 z
     ·
      have hup := upto_upto h63
      obtain ⟨xf,jf,Cf,ppf,ccf,_,hibf,hxjf,hjnf,hjf,hrfa,hrfb,hvfa,hvfb⟩ := cuts_at (P := Try.prog) Try.underlying49 hi0 hsz0 B' m' d' z 35 hnl hcap h35
      obtain rfl : xf = yf := hibf.symm.trans HXF.out
      have hwf : IntKind.i64.wrap (xf + 1) = xf + 1 := (YtbkeakeldegkeaaX.wrap_i64 _).trans (by unfold wrap64;omega)
      have q0f : 0 ≤ xf := by omega
      have q1f : xf ≤ 3000000001 := by omega
      have b0f : decide (0 ≤ xf) = true := decide_eq_true q0f
      have b1f : decide (xf < 0) = false := decide_eq_false (by omega)
      have HVfa := Aside0.mk hvfa
      have HVfb := Aside0.mk hvfb
      obtain ⟨xq,jq,Cq,ppq,ccq,_,hibq,hxjq,hjnq,hjq,hrqa,hrqb,hvqa,hvqb⟩ := cuts_at (P := Try.prog) Try.underlying49 hi0 hsz0 B' m' d' z 63 hnl hcap hup.2.1
      obtain rfl : xq = yq := hibq.symm.trans HXQ.out
      have hwq : IntKind.i64.wrap (xq + 1) = xq + 1 := (YtbkeakeldegkeaaX.wrap_i64 _).trans (by unfold wrap64;omega)
      have q0q : 0 ≤ xq := by omega
      have q1q : xq ≤ 3000000001 := by omega
      have b0q : decide (0 ≤ xq) = true := decide_eq_true q0q
      have b1q : decide (xq < 0) = false := decide_eq_false (by omega)
      have HVqa := Aside0.mk hvqa
      have HVqb := Aside0.mk hvqb
      have hlt := (hup.2.2 h35).1
      have b2 : decide (xf < xq) = false := decide_eq_false (by omega)
      obtain ⟨C2,pp2,cc2,hr2,hv2⟩ := cutMidU (P := Try.prog) Try.underlying49 hi0 hsz0 B' m' d' (jq + 1) jf (xq + 1) xf (by omega) hxjf (by omega) (by omega) hcap
      have HV2 : Aside0 (∀ (S : Nat → Prop) (W : World),VW S W B' m' d' z → VW S W C2 pp2 cc2 (past 63 (upto 35 z))) := ⟨fun S W h => by have := hv2 S W z h;rw [hjf,hjq,(hup.2.2 h35).2] at this;exact this⟩
      have HE : Aside0 (pathU z = (upto 63 (upto 35 z),past 63 (upto 35 z),past 35 z)) := ⟨by rfl⟩
      obtain ⟨rfl,rfl,rfl⟩ : po = upto 63 (upto 35 z) ∧ pq = past 63 (upto 35 z) ∧ ph = past 35 z := by have := HPU.out.symm.trans HE.out;simpa using this
      have HUU : Aside0 (upto 63 z = upto 63 (upto 35 z)) := ⟨hup.1⟩
      have HLN : Aside0 ((upto 63 (upto 35 z)).length ≤ 3000000001 ∧ (past 63 (upto 35 z)).length ≤ 3000000001 ∧ (past 35 z).length ≤ 3000000001) := ⟨by have k1 := congrArg List.length (upto_some h35).2.2.2.2.2.1;have k2 := congrArg List.length (upto_some h63).2.2.2.2.2.1;simp only [List.length_append,List.length_cons] at k1 k2;omega⟩
      have hjc : decide (0 ≤ xq) = true := decide_eq_true (by omega)
      clear h35 h63 hup hibf hxjf hjnf hjf hvfa hvfb hibq hxjq hjnq hjq hvqa hvqb hv2 hlt hi0 hsz0 hnl hcap hzl HE
      have e0 := HS.out.ob.cell 0 _ rfl
      have z0 := HS.out.ob.fz 0
      go_upto_region 31 with (fail)
      try simp only [Act.put,List.setIfInBounds_toArray,List.set_cons_succ,List.set_cons_zero]
      go_cut [] from 178 to 188 (fun wx => ∃ Ao no co,Aside0 (US 54 g w (urV (.slice A0 n0 c0) (.slice A1 n1 c1) (.slice A2 n2 c2) (.slice A3 n3 c3) (.slice A4 n4 c4) (.slice A5 n5 c5) b8 b9 v10 v11 (.slice A12 n12 c12) (.slice A13 n13 c13)) wx (urV (.slice Ao no co) (.slice Ay ny cy) (.slice A2 0 c2) (.slice A3 0 c3) (.slice A4 0 c4) (.slice Ak nk ck) false false v10 v11 (.slice Au nu cu) (.slice Aw nw cw)) (urW f (upto 63 (upto 35 z)) s0 [] [] [] (hr.map lowU) fu rq ua pw) Ah nh ch hr B' m' d' z))
      case first =>
       go_region_law (((have n0_ := Aside0.mk (HS.out.below (below_drew1 (Below.refl _ _)));clear HS;have HS := n0_;clear n0_);(refine step_app_BV rfl (.tmp 182) (.tmp 185) 49 rfl Try.underlying49 info5 (.slice A0 0 c0) [] (upto 63 (upto 35 z)) B' jq d' (by simp [Act.eval,Act.put]) (by simp [Act.eval,Act.put]) (by exact HS.out.bv 0 rfl rfl) (by exact (HUU.out ▸ HVqa.out _ _ HS.out.vu).C) (by have := HLN.out;simp;omega) ?_;intro v1 W1 hb ho hat;obtain ⟨Ao,no,co,rfl⟩ := hb.form;obtain ⟨hd,hs1⟩ := HS.out.app (by decide) 0 rfl rfl rfl hb ho hat;clear e0 z0;have e0 := hd.cell 0 _ rfl;have z0 := hd.fz 0;have n0_ : Aside0 (US 54 g w (urV (.slice A0 n0 c0) (.slice A1 n1 c1) (.slice A2 n2 c2) (.slice A3 n3 c3) (.slice A4 n4 c4) (.slice A5 n5 c5) b8 b9 v10 v11 (.slice A12 n12 c12) (.slice A13 n13 c13)) _ (urV (.slice Ao no co) (.slice Ay ny cy) (.slice A2 0 c2) (.slice A3 0 c3) (.slice A4 0 c4) (.slice Ak nk ck) false false v10 v11 (.slice Au nu cu) (.slice Aw nw cw)) (urW f (upto 63 (upto 35 z)) s0 [] [] [] (hr.map lowU) fu rq ua pw) Ah nh ch hr B' m' d' z) := ⟨hs1⟩;clear HS hb ho hat hd hs1;have HS := n0_;clear n0_)))
       all_goals (try go_wp2)
       all_goals (go_meet;exact ⟨_,_,_,HS⟩)
      case rest =>
      obtain ⟨Ao,no,co,HSX⟩ := hcut
      clear HS e0 z0
      have HS := HSX
      clear HSX
      have e0 := HS.out.ob.cell 0 _ rfl
      have e2 := HS.out.ob.cell 2 _ rfl
      have z2 := HS.out.ob.fz 2
      go_upto_region 32 with (fail)
      try simp only [Act.put,List.setIfInBounds_toArray,List.set_cons_succ,List.set_cons_zero]
      go_cut [] from 189 to 200 (fun wx => ∃ Ap np cp,Aside0 (US 54 g w (urV (.slice A0 n0 c0) (.slice A1 n1 c1) (.slice A2 n2 c2) (.slice A3 n3 c3) (.slice A4 n4 c4) (.slice A5 n5 c5) b8 b9 v10 v11 (.slice A12 n12 c12) (.slice A13 n13 c13)) wx (urV (.slice Ao no co) (.slice Ay ny cy) (.slice Ap np cp) (.slice A3 0 c3) (.slice A4 0 c4) (.slice Ak nk ck) false false v10 v11 (.slice Au nu cu) (.slice Aw nw cw)) (urW f (upto 63 (upto 35 z)) s0 (norm (upto 63 (upto 35 z))) [] [] (hr.map lowU) fu rq ua pw) Ah nh ch hr B' m' d' z))
      case first =>
       go_region_with (go_at_call 74;(have n0_ := Aside0.mk (HS.out.below (below_drew1 (Below.refl _ _)));clear HS;have HS := n0_;clear n0_);refine (HN.out _ false _ _ _ (upto 63 (upto 35 z)) (HS.out.rw 2 rfl rfl) (HS.out.other 0 2 (by decide) rfl rfl rfl rfl) (by exact HPO.out)).mono ?_;rintro e w9 ⟨Ap,np,cp,rfl,hrw,hon,hat⟩;obtain ⟨hd,hs1⟩ := HS.out.path (by decide) rfl rfl hrw hon hat;clear e2 z2;have e2 := hd.cell 2 _ rfl;have z2 := hd.fz 2;have n0_ : Aside0 (US 54 g w (urV (.slice A0 n0 c0) (.slice A1 n1 c1) (.slice A2 n2 c2) (.slice A3 n3 c3) (.slice A4 n4 c4) (.slice A5 n5 c5) b8 b9 v10 v11 (.slice A12 n12 c12) (.slice A13 n13 c13)) _ (urV (.slice Ao no co) (.slice Ay ny cy) (.slice Ap np cp) (.slice A3 0 c3) (.slice A4 0 c4) (.slice Ak nk ck) false false v10 v11 (.slice Au nu cu) (.slice Aw nw cw)) (urW f (upto 63 (upto 35 z)) s0 (norm (upto 63 (upto 35 z))) [] [] (hr.map lowU) fu rq ua pw) Ah nh ch hr B' m' d' z) := ⟨hs1⟩;clear HS hrw hon hat hd hs1;have HS := n0_;clear n0_)
       all_goals (try go_wp2)
       all_goals (go_meet;exact ⟨_,_,_,HS⟩)
      case rest =>
      obtain ⟨Ap,np,cp,HSX⟩ := hcut
      clear HS e0 e2 z2
      have HS := HSX
      clear HSX
      have e3 := HS.out.ob.cell 3 _ rfl
      have z3 := HS.out.ob.fz 3
      go_upto_region 35 with (fail)
      try simp only [Act.put,List.setIfInBounds_toArray,List.set_cons_succ,List.set_cons_zero]
      go_cut [] from 215 to 227 (fun wx => ∃ Aw2 nw2 cw2,Aside0 (US 54 g w (urV (.slice A0 n0 c0) (.slice A1 n1 c1) (.slice A2 n2 c2) (.slice A3 n3 c3) (.slice A4 n4 c4) (.slice A5 n5 c5) b8 b9 v10 v11 (.slice A12 n12 c12) (.slice A13 n13 c13)) wx (urV (.slice Ao no co) (.slice Ay ny cy) (.slice Ap np cp) (.slice Aw2 nw2 cw2) (.slice A4 0 c4) (.slice Ak nk ck) false false v10 v11 (.slice Au nu cu) (.slice Aw nw cw)) (urW f (upto 63 (upto 35 z)) s0 (norm (upto 63 (upto 35 z))) (past 63 (upto 35 z)) [] (hr.map lowU) fu rq ua pw) Ah nh ch hr B' m' d' z))
      case first =>
       go_region_law (((have n0_ := Aside0.mk (HS.out.below (below_drew1 (Below.refl _ _)));clear HS;have HS := n0_;clear n0_);(refine step_app_BV rfl (.tmp 219) (.tmp 224) 49 rfl Try.underlying49 info5 (.slice A3 0 c3) [] (past 63 (upto 35 z)) C2 pp2 cc2 (by simp [Act.eval,Act.put]) (by simp [Act.eval,Act.put]) (by exact HS.out.bv 3 rfl rfl) (by exact (HV2.out _ _ HS.out.vu).C) (by have := HLN.out;simp;omega) ?_;intro v1 W1 hb ho hat;obtain ⟨Aw2,nw2,cw2,rfl⟩ := hb.form;obtain ⟨hd,hs1⟩ := HS.out.app (by decide) 3 rfl rfl rfl hb ho hat;clear e3 z3;have e3 := hd.cell 3 _ rfl;have z3 := hd.fz 3;have n0_ : Aside0 (US 54 g w (urV (.slice A0 n0 c0) (.slice A1 n1 c1) (.slice A2 n2 c2) (.slice A3 n3 c3) (.slice A4 n4 c4) (.slice A5 n5 c5) b8 b9 v10 v11 (.slice A12 n12 c12) (.slice A13 n13 c13)) _ (urV (.slice Ao no co) (.slice Ay ny cy) (.slice Ap np cp) (.slice Aw2 nw2 cw2) (.slice A4 0 c4) (.slice Ak nk ck) false false v10 v11 (.slice Au nu cu) (.slice Aw nw cw)) (urW f (upto 63 (upto 35 z)) s0 (norm (upto 63 (upto 35 z))) (past 63 (upto 35 z)) [] (hr.map lowU) fu rq ua pw) Ah nh ch hr B' m' d' z) := ⟨hs1⟩;clear HS hb ho hat hd hs1;have HS := n0_;clear n0_)))
       all_goals (try go_wp2)
       all_goals (go_meet;exact ⟨_,_,_,HS⟩)
      case rest =>
      obtain ⟨Aw2,nw2,cw2,HSX⟩ := hcut
      clear HS e3 z3
      have HS := HSX
      clear HSX
      have e4 := HS.out.ob.cell 4 _ rfl
      have z4 := HS.out.ob.fz 4
      go_wp2
      go_region_law (((have n0_ := Aside0.mk (HS.out.below (below_drew1 (Below.refl _ _)));clear HS;have HS := n0_;clear n0_);(refine step_app_BV rfl (.tmp 232) (.tmp 236) 49 rfl Try.underlying49 info5 (.slice A4 0 c4) [] (past 35 z) Cf ppf ccf (by simp [Act.eval,Act.put]) (by simp [Act.eval,Act.put]) (by exact HS.out.bv 4 rfl rfl) (by exact (HVfb.out _ _ HS.out.vu).C) (by have := HLN.out;simp;omega) ?_;intro v1 W1 hb ho hat;obtain ⟨Aw3,nw3,cw3,rfl⟩ := hb.form;obtain ⟨hd,hs1⟩ := HS.out.app (by decide) 4 rfl rfl rfl hb ho hat;clear e4 z4;have e4 := hd.cell 4 _ rfl;have z4 := hd.fz 4;have n0_ : Aside0 (US 54 g w (urV (.slice A0 n0 c0) (.slice A1 n1 c1) (.slice A2 n2 c2) (.slice A3 n3 c3) (.slice A4 n4 c4) (.slice A5 n5 c5) b8 b9 v10 v11 (.slice A12 n12 c12) (.slice A13 n13 c13)) _ (urV (.slice Ao no co) (.slice Ay ny cy) (.slice Ap np cp) (.slice Aw2 nw2 cw2) (.slice Aw3 nw3 cw3) (.slice Ak nk ck) false false v10 v11 (.slice Au nu cu) (.slice Aw nw cw)) (urW f (upto 63 (upto 35 z)) s0 (norm (upto 63 (upto 35 z))) (past 63 (upto 35 z)) (past 35 z) (hr.map lowU) fu rq ua pw) Ah nh ch hr B' m' d' z) := ⟨hs1⟩;clear HS hb ho hat hd hs1;have HS := n0_;clear n0_)))
      all_goals go_wp2
      all_goals go_end0
      all_goals exact ⟨rfl,_,_,_,_,_,_,_,_,HS.out.ob,HS.out.ps⟩
     have HUN : Aside0 (upto 63 (upto 35 z) = upto 35 z ∧ past 63 (upto 35 z) = []) := ⟨(upto_none h63).1,past_none h63⟩
     obtain ⟨xf,jf,Cf,ppf,ccf,_,hibf,hxjf,hjnf,hjf,hrfa,hrfb,hvfa,hvfb⟩ := cuts_at (P := Try.prog) Try.underlying49 hi0 hsz0 B' m' d' z 35 hnl hcap h35
     obtain rfl : xf = yf := hibf.symm.trans HXF.out
     have hwf : IntKind.i64.wrap (xf + 1) = xf + 1 := (YtbkeakeldegkeaaX.wrap_i64 _).trans (by unfold wrap64;omega)
     have q0f : 0 ≤ xf := by omega
     have q1f : xf ≤ 3000000001 := by omega
     have b0f : decide (0 ≤ xf) = true := decide_eq_true q0f
     have b1f : decide (xf < 0) = false := decide_eq_false (by omega)
     have HVfa := Aside0.mk hvfa
     have HVfb := Aside0.mk hvfb
     have HE : Aside0 (pathU z = (upto 35 z,[],past 35 z)) := ⟨by unfold pathU;rw [HUN.out.1,HUN.out.2]⟩
     obtain ⟨rfl,rfl,rfl⟩ : po = upto 35 z ∧ pq = [] ∧ ph = past 35 z := by have := HPU.out.symm.trans HE.out;simpa using this
     have HLN : Aside0 ((upto 35 z).length ≤ 3000000001 ∧ (past 35 z).length ≤ 3000000001) := ⟨by have k1 := congrArg List.length (upto_some h35).2.2.2.2.2.1;simp only [List.length_append,List.length_cons] at k1;omega⟩
     have hq : (yq = -1) ∨ xf < yq := by
      by_cases h63z : (63 : UInt8) ∈ z
      ·
       right
       have k3 := ib_some h63z
       rcases upto_no h63 h63z h35 with k4|k4
       ·
        have k5 := HXQ.out;omega
       exact absurd k4 (by decide)
      left;rw [← HXQ.out];exact ib_none h63z
     have b3 : decide (0 ≤ (-1 : Int)) = false := rfl
     clear h35 h63 hibf hxjf hjnf hjf hvfa hvfb hi0 hsz0 hnl hcap hzl HE
     rcases hq with hq|hq
     ·
      have HQ1 := Aside0.mk hq
      have b2 : decide (xf < yq) = false := decide_eq_false (by omega)
      have b4 : decide (yq < 0) = true := decide_eq_true (by omega)
      have b5 : decide (0 ≤ yq) = false := decide_eq_false (by omega)
      clear hq
      have e0 := HS.out.ob.cell 0 _ rfl
      have z0 := HS.out.ob.fz 0
      go_upto_region 37 with (fail)
      try simp only [Act.put,List.setIfInBounds_toArray,List.set_cons_succ,List.set_cons_zero]
      go_cut [] from 240 to 250 (fun wx => ∃ Ao no co,Aside0 (US 54 g w (urV (.slice A0 n0 c0) (.slice A1 n1 c1) (.slice A2 n2 c2) (.slice A3 n3 c3) (.slice A4 n4 c4) (.slice A5 n5 c5) b8 b9 v10 v11 (.slice A12 n12 c12) (.slice A13 n13 c13)) wx (urV (.slice Ao no co) (.slice Ay ny cy) (.slice A2 0 c2) (.slice A3 0 c3) (.slice A4 0 c4) (.slice Ak nk ck) false false v10 v11 (.slice Au nu cu) (.slice Aw nw cw)) (urW f (upto 35 z) s0 [] [] [] (hr.map lowU) fu rq ua pw) Ah nh ch hr B' m' d' z))
      case first =>
       go_region_law (((have n0_ := Aside0.mk (HS.out.below (below_drew1 (Below.refl _ _)));clear HS;have HS := n0_;clear n0_);(refine step_app_BV rfl (.tmp 244) (.tmp 247) 49 rfl Try.underlying49 info5 (.slice A0 0 c0) [] (upto 35 z) B' jf d' (by simp [Act.eval,Act.put]) (by simp [Act.eval,Act.put]) (by exact HS.out.bv 0 rfl rfl) (by exact (HVfa.out _ _ HS.out.vu).C) (by have := HLN.out;simp;omega) ?_;intro v1 W1 hb ho hat;obtain ⟨Ao,no,co,rfl⟩ := hb.form;obtain ⟨hd,hs1⟩ := HS.out.app (by decide) 0 rfl rfl rfl hb ho hat;clear e0 z0;have e0 := hd.cell 0 _ rfl;have z0 := hd.fz 0;have n0_ : Aside0 (US 54 g w (urV (.slice A0 n0 c0) (.slice A1 n1 c1) (.slice A2 n2 c2) (.slice A3 n3 c3) (.slice A4 n4 c4) (.slice A5 n5 c5) b8 b9 v10 v11 (.slice A12 n12 c12) (.slice A13 n13 c13)) _ (urV (.slice Ao no co) (.slice Ay ny cy) (.slice A2 0 c2) (.slice A3 0 c3) (.slice A4 0 c4) (.slice Ak nk ck) false false v10 v11 (.slice Au nu cu) (.slice Aw nw cw)) (urW f (upto 35 z) s0 [] [] [] (hr.map lowU) fu rq ua pw) Ah nh ch hr B' m' d' z) := ⟨hs1⟩;clear HS hb ho hat hd hs1;have HS := n0_;clear n0_)))
       all_goals (try go_wp2)
       all_goals (go_meet;exact ⟨_,_,_,HS⟩)
      case rest =>
      obtain ⟨Ao,no,co,HSX⟩ := hcut
      clear HS e0 z0
      have HS := HSX
      clear HSX
      have e0 := HS.out.ob.cell 0 _ rfl
      have e2 := HS.out.ob.cell 2 _ rfl
      have z2 := HS.out.ob.fz 2
      go_upto_region 38 with (fail)
      try simp only [Act.put,List.setIfInBounds_toArray,List.set_cons_succ,List.set_cons_zero]
      go_cut [] from 251 to 262 (fun wx => ∃ Ap np cp,Aside0 (US 54 g w (urV (.slice A0 n0 c0) (.slice A1 n1 c1) (.slice A2 n2 c2) (.slice A3 n3 c3) (.slice A4 n4 c4) (.slice A5 n5 c5) b8 b9 v10 v11 (.slice A12 n12 c12) (.slice A13 n13 c13)) wx (urV (.slice Ao no co) (.slice Ay ny cy) (.slice Ap np cp) (.slice A3 0 c3) (.slice A4 0 c4) (.slice Ak nk ck) false false v10 v11 (.slice Au nu cu) (.slice Aw nw cw)) (urW f (upto 35 z) s0 (norm (upto 35 z)) [] [] (hr.map lowU) fu rq ua pw) Ah nh ch hr B' m' d' z))
      case first =>
       go_region_with (go_at_call 74;(have n0_ := Aside0.mk (HS.out.below (below_drew1 (Below.refl _ _)));clear HS;have HS := n0_;clear n0_);refine (HN.out _ false _ _ _ (upto 35 z) (HS.out.rw 2 rfl rfl) (HS.out.other 0 2 (by decide) rfl rfl rfl rfl) (by exact HPO.out)).mono ?_;rintro e w9 ⟨Ap,np,cp,rfl,hrw,hon,hat⟩;obtain ⟨hd,hs1⟩ := HS.out.path (by decide) rfl rfl hrw hon hat;clear e2 z2;have e2 := hd.cell 2 _ rfl;have z2 := hd.fz 2;have n0_ : Aside0 (US 54 g w (urV (.slice A0 n0 c0) (.slice A1 n1 c1) (.slice A2 n2 c2) (.slice A3 n3 c3) (.slice A4 n4 c4) (.slice A5 n5 c5) b8 b9 v10 v11 (.slice A12 n12 c12) (.slice A13 n13 c13)) _ (urV (.slice Ao no co) (.slice Ay ny cy) (.slice Ap np cp) (.slice A3 0 c3) (.slice A4 0 c4) (.slice Ak nk ck) false false v10 v11 (.slice Au nu cu) (.slice Aw nw cw)) (urW f (upto 35 z) s0 (norm (upto 35 z)) [] [] (hr.map lowU) fu rq ua pw) Ah nh ch hr B' m' d' z) := ⟨hs1⟩;clear HS hrw hon hat hd hs1;have HS := n0_;clear n0_)
       all_goals (try go_wp2)
       all_goals (go_meet;exact ⟨_,_,_,HS⟩)
      case rest =>
      obtain ⟨Ap,np,cp,HSX⟩ := hcut
      clear HS e0 e2 z2
      have HS := HSX
      clear HSX
      have e4 := HS.out.ob.cell 4 _ rfl
      have z4 := HS.out.ob.fz 4
      go_wp2
      go_region_law (((have n0_ := Aside0.mk (HS.out.below (below_drew1 (Below.refl _ _)));clear HS;have HS := n0_;clear n0_);(refine step_app_BV rfl (.tmp 267) (.tmp 271) 49 rfl Try.underlying49 info5 (.slice A4 0 c4) [] (past 35 z) Cf ppf ccf (by simp [Act.eval,Act.put]) (by simp [Act.eval,Act.put]) (by exact HS.out.bv 4 rfl rfl) (by exact (HVfb.out _ _ HS.out.vu).C) (by have := HLN.out;simp;omega) ?_;intro v1 W1 hb ho hat;obtain ⟨Aw3,nw3,cw3,rfl⟩ := hb.form;obtain ⟨hd,hs1⟩ := HS.out.app (by decide) 4 rfl rfl rfl hb ho hat;clear e4 z4;have e4 := hd.cell 4 _ rfl;have z4 := hd.fz 4;have n0_ : Aside0 (US 54 g w (urV (.slice A0 n0 c0) (.slice A1 n1 c1) (.slice A2 n2 c2) (.slice A3 n3 c3) (.slice A4 n4 c4) (.slice A5 n5 c5) b8 b9 v10 v11 (.slice A12 n12 c12) (.slice A13 n13 c13)) _ (urV (.slice Ao no co) (.slice Ay ny cy) (.slice Ap np cp) (.slice A3 0 c3) (.slice Aw3 nw3 cw3) (.slice Ak nk ck) false false v10 v11 (.slice Au nu cu) (.slice Aw nw cw)) (urW f (upto 35 z) s0 (norm (upto 35 z)) [] (past 35 z) (hr.map lowU) fu rq ua pw) Ah nh ch hr B' m' d' z) := ⟨hs1⟩;clear HS hb ho hat hd hs1;have HS := n0_;clear n0_)))
      all_goals go_wp2
      all_goals go_end0
      all_goals exact ⟨rfl,_,_,_,_,_,_,_,_,HS.out.ob,HS.out.ps⟩
     have b2 : decide (xf < yq) = true := decide_eq_true hq
     have e0 := HS.out.ob.cell 0 _ rfl
     have z0 := HS.out.ob.fz 0
     go_upto_region 37 with (fail)
     try simp only [Act.put,List.setIfInBounds_toArray,List.set_cons_succ,List.set_cons_zero]
     go_cut [] from 240 to 250 (fun wx => ∃ Ao no co,Aside0 (US 54 g w (urV (.slice A0 n0 c0) (.slice A1 n1 c1) (.slice A2 n2 c2) (.slice A3 n3 c3) (.slice A4 n4 c4) (.slice A5 n5 c5) b8 b9 v10 v11 (.slice A12 n12 c12) (.slice A13 n13 c13)) wx (urV (.slice Ao no co) (.slice Ay ny cy) (.slice A2 0 c2) (.slice A3 0 c3) (.slice A4 0 c4) (.slice Ak nk ck) false false v10 v11 (.slice Au nu cu) (.slice Aw nw cw)) (urW f (upto 35 z) s0 [] [] [] (hr.map lowU) fu rq ua pw) Ah nh ch hr B' m' d' z))
     case first =>
      go_region_law (((have n0_ := Aside0.mk (HS.out.below (below_drew1 (Below.refl _ _)));clear HS;have HS := n0_;clear n0_);(refine step_app_BV rfl (.tmp 244) (.tmp 247) 49 rfl Try.underlying49 info5 (.slice A0 0 c0) [] (upto 35 z) B' jf d' (by simp [Act.eval,Act.put]) (by simp [Act.eval,Act.put]) (by exact HS.out.bv 0 rfl rfl) (by exact (HVfa.out _ _ HS.out.vu).C) (by have := HLN.out;simp;omega) ?_;intro v1 W1 hb ho hat;obtain ⟨Ao,no,co,rfl⟩ := hb.form;obtain ⟨hd,hs1⟩ := HS.out.app (by decide) 0 rfl rfl rfl hb ho hat;clear e0 z0;have e0 := hd.cell 0 _ rfl;have z0 := hd.fz 0;have n0_ : Aside0 (US 54 g w (urV (.slice A0 n0 c0) (.slice A1 n1 c1) (.slice A2 n2 c2) (.slice A3 n3 c3) (.slice A4 n4 c4) (.slice A5 n5 c5) b8 b9 v10 v11 (.slice A12 n12 c12) (.slice A13 n13 c13)) _ (urV (.slice Ao no co) (.slice Ay ny cy) (.slice A2 0 c2) (.slice A3 0 c3) (.slice A4 0 c4) (.slice Ak nk ck) false false v10 v11 (.slice Au nu cu) (.slice Aw nw cw)) (urW f (upto 35 z) s0 [] [] [] (hr.map lowU) fu rq ua pw) Ah nh ch hr B' m' d' z) := ⟨hs1⟩;clear HS hb ho hat hd hs1;have HS := n0_;clear n0_)))
      all_goals (try go_wp2)
      all_goals (go_meet;exact ⟨_,_,_,HS⟩)
     case rest =>
     obtain ⟨Ao,no,co,HSX⟩ := hcut
     clear HS e0 z0
     have HS := HSX
     clear HSX
     have e0 := HS.out.ob.cell 0 _ rfl
     have e2 := HS.out.ob.cell 2 _ rfl
     have z2 := HS.out.ob.fz 2
     go_upto_region 38 with (fail)
     try simp only [Act.put,List.setIfInBounds_toArray,List.set_cons_succ,List.set_cons_zero]
     go_cut [] from 251 to 262 (fun wx => ∃ Ap np cp,Aside0 (US 54 g w (urV (.slice A0 n0 c0) (.slice A1 n1 c1) (.slice A2 n2 c2) (.slice A3 n3 c3) (.slice A4 n4 c4) (.slice A5 n5 c5) b8 b9 v10 v11 (.slice A12 n12 c12) (.slice A13 n13 c13)) wx (urV (.slice Ao no co) (.slice Ay ny cy) (.slice Ap np cp) (.slice A3 0 c3) (.slice A4 0 c4) (.slice Ak nk ck) false false v10 v11 (.slice Au nu cu) (.slice Aw nw cw)) (urW f (upto 35 z) s0 (norm (upto 35 z)) [] [] (hr.map lowU) fu rq ua pw) Ah nh ch hr B' m' d' z))
     case first =>
      go_region_with (go_at_call 74;(have n0_ := Aside0.mk (HS.out.below (below_drew1 (Below.refl _ _)));clear HS;have HS := n0_;clear n0_);refine (HN.out _ false _ _ _ (upto 35 z) (HS.out.rw 2 rfl rfl) (HS.out.other 0 2 (by decide) rfl rfl rfl rfl) (by exact HPO.out)).mono ?_;rintro e w9 ⟨Ap,np,cp,rfl,hrw,hon,hat⟩;obtain ⟨hd,hs1⟩ := HS.out.path (by decide) rfl rfl hrw hon hat;clear e2 z2;have e2 := hd.cell 2 _ rfl;have z2 := hd.fz 2;have n0_ : Aside0 (US 54 g w (urV (.slice A0 n0 c0) (.slice A1 n1 c1) (.slice A2 n2 c2) (.slice A3 n3 c3) (.slice A4 n4 c4) (.slice A5 n5 c5) b8 b9 v10 v11 (.slice A12 n12 c12) (.slice A13 n13 c13)) _ (urV (.slice Ao no co) (.slice Ay ny cy) (.slice Ap np cp) (.slice A3 0 c3) (.slice A4 0 c4) (.slice Ak nk ck) false false v10 v11 (.slice Au nu cu) (.slice Aw nw cw)) (urW f (upto 35 z) s0 (norm (upto 35 z)) [] [] (hr.map lowU) fu rq ua pw) Ah nh ch hr B' m' d' z) := ⟨hs1⟩;clear HS hrw hon hat hd hs1;have HS := n0_;clear n0_)
      all_goals (try go_wp2)
      all_goals (go_meet;exact ⟨_,_,_,HS⟩)
     case rest =>
     obtain ⟨Ap,np,cp,HSX⟩ := hcut
     clear HS e0 e2 z2
     have HS := HSX
     clear HSX
     have e4 := HS.out.ob.cell 4 _ rfl
     have z4 := HS.out.ob.fz 4
     go_wp2
     go_region_law (((have n0_ := Aside0.mk (HS.out.below (below_drew1 (Below.refl _ _)));clear HS;have HS := n0_;clear n0_);(refine step_app_BV rfl (.tmp 267) (.tmp 271) 49 rfl Try.underlying49 info5 (.slice A4 0 c4) [] (past 35 z) Cf ppf ccf (by simp [Act.eval,Act.put]) (by simp [Act.eval,Act.put]) (by exact HS.out.bv 4 rfl rfl) (by exact (HVfb.out _ _ HS.out.vu).C) (by have := HLN.out;simp;omega) ?_;intro v1 W1 hb ho hat;obtain ⟨Aw3,nw3,cw3,rfl⟩ := hb.form;obtain ⟨hd,hs1⟩ := HS.out.app (by decide) 4 rfl rfl rfl hb ho hat;clear e4 z4;have e4 := hd.cell 4 _ rfl;have z4 := hd.fz 4;have n0_ : Aside0 (US 54 g w (urV (.slice A0 n0 c0) (.slice A1 n1 c1) (.slice A2 n2 c2) (.slice A3 n3 c3) (.slice A4 n4 c4) (.slice A5 n5 c5) b8 b9 v10 v11 (.slice A12 n12 c12) (.slice A13 n13 c13)) _ (urV (.slice Ao no co) (.slice Ay ny cy) (.slice Ap np cp) (.slice A3 0 c3) (.slice Aw3 nw3 cw3) (.slice Ak nk ck) false false v10 v11 (.slice Au nu cu) (.slice Aw nw cw)) (urW f (upto 35 z) s0 (norm (upto 35 z)) [] (past 35 z) (hr.map lowU) fu rq ua pw) Ah nh ch hr B' m' d' z) := ⟨hs1⟩;clear HS hb ho hat hd hs1;have HS := n0_;clear n0_)))
     all_goals go_wp2
     all_goals go_end0
     all_goals exact ⟨rfl,_,_,_,_,_,_,_,_,HS.out.ob,HS.out.ps⟩
    have hxfe : yf = -1 := by rw [← HXF.out];exact ib_none h35
    have HUN := Aside0.mk (upto_none h35).1
    have HPN := Aside0.mk (past_none h35)
    have b6 : decide (0 ≤ yf) = false := decide_eq_false (by omega)
    have b7 : decide (yf < 0) = true := decide_eq_true (by omega)
    by_cases h63 : (63 : UInt8) ∈ z
    ·
     obtain ⟨xq,jq,Cq,ppq,ccq,_,hibq,hxjq,hjnq,hjq,hrqa,hrqb,hvqa,hvqb⟩ := cuts_at (P := Try.prog) Try.underlying49 hi0 hsz0 B' m' d' z 63 hnl hcap h63
     obtain rfl : xq = yq := hibq.symm.trans HXQ.out
     have hwq : IntKind.i64.wrap (xq + 1) = xq + 1 := (YtbkeakeldegkeaaX.wrap_i64 _).trans (by unfold wrap64;omega)
     have q0q : 0 ≤ xq := by omega
     have q1q : xq ≤ 3000000001 := by omega
     have b0q : decide (0 ≤ xq) = true := decide_eq_true q0q
     have b1q : decide (xq < 0) = false := decide_eq_false (by omega)
     have HVqa := Aside0.mk hvqa
     have HVqb := Aside0.mk hvqb
     have HE : Aside0 (pathU z = (upto 63 z,past 63 z,[])) := ⟨by unfold pathU;rw [HUN.out,HPN.out]⟩
     obtain ⟨rfl,rfl,rfl⟩ : po = upto 63 z ∧ pq = past 63 z ∧ ph = [] := by have := HPU.out.symm.trans HE.out;simpa using this
     have HLN : Aside0 ((upto 63 z).length ≤ 3000000001 ∧ (past 63 z).length ≤ 3000000001) := ⟨by have k1 := congrArg List.length (upto_some h63).2.2.2.2.2.1;simp only [List.length_append,List.length_cons] at k1;omega⟩
     clear h35 h63 hxfe hibq hxjq hjnq hjq hvqa hvqb hi0 hsz0 hnl hcap hzl HE
     have e0 := HS.out.ob.cell 0 _ rfl
     have z0 := HS.out.ob.fz 0
     go_upto_region 31 with (fail)
     try simp only [Act.put,List.setIfInBounds_toArray,List.set_cons_succ,List.set_cons_zero]
     go_cut [] from 178 to 188 (fun wx => ∃ Ao no co,Aside0 (US 54 g w (urV (.slice A0 n0 c0) (.slice A1 n1 c1) (.slice A2 n2 c2) (.slice A3 n3 c3) (.slice A4 n4 c4) (.slice A5 n5 c5) b8 b9 v10 v11 (.slice A12 n12 c12) (.slice A13 n13 c13)) wx (urV (.slice Ao no co) (.slice Ay ny cy) (.slice A2 0 c2) (.slice A3 0 c3) (.slice A4 0 c4) (.slice Ak nk ck) false false v10 v11 (.slice Au nu cu) (.slice Aw nw cw)) (urW f (upto 63 z) s0 [] [] [] (hr.map lowU) fu rq ua pw) Ah nh ch hr B' m' d' z))
     case first =>
      go_region_law (((have n0_ := Aside0.mk (HS.out.below (below_drew1 (Below.refl _ _)));clear HS;have HS := n0_;clear n0_);(refine step_app_BV rfl (.tmp 182) (.tmp 185) 49 rfl Try.underlying49 info5 (.slice A0 0 c0) [] (upto 63 z) B' jq d' (by simp [Act.eval,Act.put]) (by simp [Act.eval,Act.put]) (by exact HS.out.bv 0 rfl rfl) (by exact (HVqa.out _ _ HS.out.vu).C) (by have := HLN.out;simp;omega) ?_;intro v1 W1 hb ho hat;obtain ⟨Ao,no,co,rfl⟩ := hb.form;obtain ⟨hd,hs1⟩ := HS.out.app (by decide) 0 rfl rfl rfl hb ho hat;clear e0 z0;have e0 := hd.cell 0 _ rfl;have z0 := hd.fz 0;have n0_ : Aside0 (US 54 g w (urV (.slice A0 n0 c0) (.slice A1 n1 c1) (.slice A2 n2 c2) (.slice A3 n3 c3) (.slice A4 n4 c4) (.slice A5 n5 c5) b8 b9 v10 v11 (.slice A12 n12 c12) (.slice A13 n13 c13)) _ (urV (.slice Ao no co) (.slice Ay ny cy) (.slice A2 0 c2) (.slice A3 0 c3) (.slice A4 0 c4) (.slice Ak nk ck) false false v10 v11 (.slice Au nu cu) (.slice Aw nw cw)) (urW f (upto 63 z) s0 [] [] [] (hr.map lowU) fu rq ua pw) Ah nh ch hr B' m' d' z) := ⟨hs1⟩;clear HS hb ho hat hd hs1;have HS := n0_;clear n0_)))
      all_goals (try go_wp2)
      all_goals (go_meet;exact ⟨_,_,_,HS⟩)
     case rest =>
     obtain ⟨Ao,no,co,HSX⟩ := hcut
     clear HS e0 z0
     have HS := HSX
     clear HSX
     have e0 := HS.out.ob.cell 0 _ rfl
     have e2 := HS.out.ob.cell 2 _ rfl
     have z2 := HS.out.ob.fz 2
     go_upto_region 32 with (fail)
     try simp only [Act.put,List.setIfInBounds_toArray,List.set_cons_succ,List.set_cons_zero]
     go_cut [] from 189 to 200 (fun wx => ∃ Ap np cp,Aside0 (US 54 g w (urV (.slice A0 n0 c0) (.slice A1 n1 c1) (.slice A2 n2 c2) (.slice A3 n3 c3) (.slice A4 n4 c4) (.slice A5 n5 c5) b8 b9 v10 v11 (.slice A12 n12 c12) (.slice A13 n13 c13)) wx (urV (.slice Ao no co) (.slice Ay ny cy) (.slice Ap np cp) (.slice A3 0 c3) (.slice A4 0 c4) (.slice Ak nk ck) false false v10 v11 (.slice Au nu cu) (.slice Aw nw cw)) (urW f (upto 63 z) s0 (norm (upto 63 z)) [] [] (hr.map lowU) fu rq ua pw) Ah nh ch hr B' m' d' z))
     case first =>
      go_region_with (go_at_call 74;(have n0_ := Aside0.mk (HS.out.below (below_drew1 (Below.refl _ _)));clear HS;have HS := n0_;clear n0_);refine (HN.out _ false _ _ _ (upto 63 z) (HS.out.rw 2 rfl rfl) (HS.out.other 0 2 (by decide) rfl rfl rfl rfl) (by exact HPO.out)).mono ?_;rintro e w9 ⟨Ap,np,cp,rfl,hrw,hon,hat⟩;obtain ⟨hd,hs1⟩ := HS.out.path (by decide) rfl rfl hrw hon hat;clear e2 z2;have e2 := hd.cell 2 _ rfl;have z2 := hd.fz 2;have n0_ : Aside0 (US 54 g w (urV (.slice A0 n0 c0) (.slice A1 n1 c1) (.slice A2 n2 c2) (.slice A3 n3 c3) (.slice A4 n4 c4) (.slice A5 n5 c5) b8 b9 v10 v11 (.slice A12 n12 c12) (.slice A13 n13 c13)) _ (urV (.slice Ao no co) (.slice Ay ny cy) (.slice Ap np cp) (.slice A3 0 c3) (.slice A4 0 c4) (.slice Ak nk ck) false false v10 v11 (.slice Au nu cu) (.slice Aw nw cw)) (urW f (upto 63 z) s0 (norm (upto 63 z)) [] [] (hr.map lowU) fu rq ua pw) Ah nh ch hr B' m' d' z) := ⟨hs1⟩;clear HS hrw hon hat hd hs1;have HS := n0_;clear n0_)
      all_goals (try go_wp2)
      all_goals (go_meet;exact ⟨_,_,_,HS⟩)
     case rest =>
     obtain ⟨Ap,np,cp,HSX⟩ := hcut
     clear HS e0 e2 z2
     have HS := HSX
     clear HSX
     have e3 := HS.out.ob.cell 3 _ rfl
     have z3 := HS.out.ob.fz 3
     go_wp2
     go_region_law (((have n0_ := Aside0.mk (HS.out.below (below_drew1 (Below.refl _ _)));clear HS;have HS := n0_;clear n0_);(refine step_app_BV rfl (.tmp 207) (.tmp 211) 49 rfl Try.underlying49 info5 (.slice A3 0 c3) [] (past 63 z) Cq ppq ccq (by simp [Act.eval,Act.put]) (by simp [Act.eval,Act.put]) (by exact HS.out.bv 3 rfl rfl) (by exact (HVqb.out _ _ HS.out.vu).C) (by have := HLN.out;simp;omega) ?_;intro v1 W1 hb ho hat;obtain ⟨Aw2,nw2,cw2,rfl⟩ := hb.form;obtain ⟨hd,hs1⟩ := HS.out.app (by decide) 3 rfl rfl rfl hb ho hat;clear e3 z3;have e3 := hd.cell 3 _ rfl;have z3 := hd.fz 3;have n0_ : Aside0 (US 54 g w (urV (.slice A0 n0 c0) (.slice A1 n1 c1) (.slice A2 n2 c2) (.slice A3 n3 c3) (.slice A4 n4 c4) (.slice A5 n5 c5) b8 b9 v10 v11 (.slice A12 n12 c12) (.slice A13 n13 c13)) _ (urV (.slice Ao no co) (.slice Ay ny cy) (.slice Ap np cp) (.slice Aw2 nw2 cw2) (.slice A4 0 c4) (.slice Ak nk ck) false false v10 v11 (.slice Au nu cu) (.slice Aw nw cw)) (urW f (upto 63 z) s0 (norm (upto 63 z)) (past 63 z) [] (hr.map lowU) fu rq ua pw) Ah nh ch hr B' m' d' z) := ⟨hs1⟩;clear HS hb ho hat hd hs1;have HS := n0_;clear n0_)))
     all_goals go_wp2
     all_goals go_end0
     all_goals exact ⟨rfl,_,_,_,_,_,_,_,_,HS.out.ob,HS.out.ps⟩
    have hxqe : yq = -1 := by rw [← HXQ.out];exact ib_none h63
    have HUQ := Aside0.mk (upto_none h63).1
    have HPQ := Aside0.mk (past_none h63)
    have bq8 : decide (yq < 0) = true := decide_eq_true (by omega)
    have HE : Aside0 (pathU z = (z,[],[])) := ⟨by unfold pathU;rw [HUN.out,HPN.out,HUQ.out,HPQ.out]⟩
    obtain ⟨rfl,rfl,rfl⟩ : z = po ∧ pq = [] ∧ ph = [] := by have := HPU.out.symm.trans HE.out;simpa [eq_comm] using this
    clear h35 h63 hxfe hxqe hi0 hsz0 hnl hcap hzl HE
    have e0 := HS.out.ob.cell 0 _ rfl
    have z0 := HS.out.ob.fz 0
    go_wp2_with (first|((with_reducible refine gate_builtin (b := .append) (xs := #[.tmp 159,.tmp 160]) rfl ?_);at_builtin;refine app_BV rfl (.tmp 159) (.tmp 160) 49 rfl Try.underlying49 info5 (.slice A0 0 c0) [] z B' m' d' rfl rfl (by exact HS.out.bv 0 rfl rfl) (by exact HS.out.vu.C) (by have := HLZ.out;simp;omega) ?_;intro v1 W1 hb ho hat;obtain ⟨Ao,no,co,rfl⟩ := hb.form;obtain ⟨hd,hs1⟩ := HS.out.app (by decide) 0 rfl rfl rfl hb ho hat;clear e0 z0;have e0 := hd.cell 0 _ rfl;have z0 := hd.fz 0;have n0_ : Aside0 (US 54 g w (urV (.slice A0 n0 c0) (.slice A1 n1 c1) (.slice A2 n2 c2) (.slice A3 n3 c3) (.slice A4 n4 c4) (.slice A5 n5 c5) b8 b9 v10 v11 (.slice A12 n12 c12) (.slice A13 n13 c13)) _ (urV (.slice Ao no co) (.slice Ay ny cy) (.slice A2 0 c2) (.slice A3 0 c3) (.slice A4 0 c4) (.slice Ak nk ck) false false v10 v11 (.slice Au nu cu) (.slice Aw nw cw)) (urW f z s0 [] [] [] (hr.map lowU) fu rq ua pw) Ah nh ch hr B' m' d' z) := ⟨hs1⟩;clear HS hb ho hat hd hs1;have HS := n0_;clear n0_))
    clear e0 z0
    have e0 := HS.out.ob.cell 0 _ rfl
    have e2 := HS.out.ob.cell 2 _ rfl
    have z2 := HS.out.ob.fz 2
    skip
    go_region_with (go_at_call 74;(have n0_ := Aside0.mk (HS.out.below (below_drew1 (Below.refl _ _)));clear HS;have HS := n0_;clear n0_);refine (HN.out _ false _ _ _ z (HS.out.rw 2 rfl rfl) (HS.out.other 0 2 (by decide) rfl rfl rfl rfl) (by exact HPO.out)).mono ?_;rintro e w9 ⟨Ap,np,cp,rfl,hrw,hon,hat⟩;obtain ⟨hd,hs1⟩ := HS.out.path (by decide) rfl rfl hrw hon hat;clear e2 z2;have e2 := hd.cell 2 _ rfl;have z2 := hd.fz 2;have n0_ : Aside0 (US 54 g w (urV (.slice A0 n0 c0) (.slice A1 n1 c1) (.slice A2 n2 c2) (.slice A3 n3 c3) (.slice A4 n4 c4) (.slice A5 n5 c5) b8 b9 v10 v11 (.slice A12 n12 c12) (.slice A13 n13 c13)) _ (urV (.slice Ao no co) (.slice Ay ny cy) (.slice Ap np cp) (.slice A3 0 c3) (.slice A4 0 c4) (.slice Ak nk ck) false false v10 v11 (.slice Au nu cu) (.slice Aw nw cw)) (urW f z s0 (norm z) [] [] (hr.map lowU) fu rq ua pw) Ah nh ch hr B' m' d' z) := ⟨hs1⟩;clear HS hrw hon hat hd hs1;have HS := n0_;clear n0_)
    all_goals go_wp2
    all_goals go_end0
    all_goals exact ⟨rfl,_,_,_,_,_,_,_,_,HS.out.ob,HS.out.ps⟩
end Go.Proofs.Ytbkeakeldegkeaa.Q
end
section
namespace Go.Proofs.Ytbkeakeldegkeaa.Q
open Go.RowKit Go.Proofs.YtbkeakeldegkeaaW.PrintWords Go.Proofs.YtbkeakeldegkeaaW.PrintLast Go.Proofs.YtbkeakeldegkeaaW.PrintMore
open Go.Proofs.Ytbkeakeldegkeaa.SpA (toI toI_length toI_append lowU UR)
open Go.Proofs.Ytbkeakeldegkeaa.Ob
theorem conv_C {P : Program} {W : World} {A : Option Addr} {n c : Nat} {l : List UInt8} {t : TypeId} (hc : Kd.C (Kd.int .u8) W A n (toI l)) (ht : P.underlying t = some (.slice 5)) (h5 : P.underlying 5 = some (.int .u8)) (h9 : P.underlying 9 = some .string) : (convert t 9 (.slice A n c)).run P W = .ok (.string ⟨l.toArray⟩) W := by
 have hn : (toI l).length = n := hc.1
 subst hn
 rw [Kd.C_string (P := P) (c := c) ht h5 h9 hc]
 congr 2
 exact Go.Proofs.YtbkeakeldegkeaaKit.ext (by rw [SpA.L_strOf])
theorem OBJ.C_later {W W2 : World} {g : Nat} {T : TypeId} {vals : List Value} {rows : List (Option (Bool × List UInt8))} (h : OBJ W g T vals rows) (i : Nat) {b : Bool} {l : List UInt8} {A : Option Addr} {n c : Nat} (hr : rows[i]? = some (some (b,l))) (hv : vals[i]? = some (.slice A n c)) (hb : Below W.heap.size W W2) : Kd.C (Kd.int .u8) W2 A n (toI l) := by
 obtain ⟨v,hv',hw⟩ := (h.below hb).row i b l hr
 rw [hv] at hv';cases hv'
 exact hw.C
set_option maxHeartbeats 8000000 in
set_option maxRecDepth 100000 in
theorem uPath_ne (w : World) (g : Nat) (vals : List Value) (rows : List (Option (Bool × List UInt8))) (A : Option Addr) (n c : Nat) (b : Bool) (l : List UInt8) (h : OBJ w g 54 vals rows) (hr : rows[2]? = some (some (b,l))) (hv : vals[2]? = some (.slice A n c)) (hl : l ≠ []) :
  Calls Try.prog 62 #[.pointer (some ⟨g,0,none⟩)] w fun e w' => e = .returned (.slice A n c) ∧ Below w.heap.size w w' := by
 have c0 := h.cell 2 _ hv
 obtain ⟨u,hu,hb⟩ := h.row 2 b l hr
 rw [hv] at hu
 cases hu
 have hn : ((n : Int) == 0) = false := beq_eq_false_iff_ne.2 (by have := hb.cap.1;have := List.length_pos_iff.2 hl;omega)
 have HB := Aside0.mk (Below.refl w.heap.size w)
 clear h hv hr hb hl
 go_enter Try.func62,Try.ntmps62
 go_wp2
 go_ret
 exact ⟨rfl,bl_ HB.out⟩
theorem gen_goal (F : World → Prop) (R : World → Prop) (W0 : World) (h : ∀ W,F W → R W) (h0 : F W0) : R W0 := h W0 h0
theorem below_only {w w2 W : World} (hb : Below w.heap.size w w2) (hS : Only (fun j => j = w.heap.size) w2 W) : Below w.heap.size w W :=
 ⟨hS.os.trans hb.os,hS.tape.trans hb.tape,hS.output.trans hb.output,Nat.le_trans hb.size hS.size,fun k hk => (hS.block k (Nat.lt_of_lt_of_le hk hb.size) (fun e => by omega)).trans (hb.block k hk)⟩
def uSchemeAt (B : Nat) (w : World) (l : List UInt8) (e : Ending) (w' : World) : Prop := ∃ A n c,e = .returned (.slice A n c) ∧ (∀ W,Only (fun j => j = B) w' W → Kd.C (Kd.int .u8) W A n (toI (if l = [] then [104,116,116,112] else l))) ∧ n ≤ c ∧ Below w.heap.size w w'
set_option maxHeartbeats 8000000 in
set_option maxRecDepth 100000 in
theorem uScheme_at (w : World) (g : Nat) (vals : List Value) (rows : List (Option (Bool × List UInt8))) (A : Option Addr) (n c : Nat) (b : Bool) (l : List UInt8) (B : Nat) (hB : B < w.heap.size) (hne : (Value.slice A n c).ownBlock ≠ some B) (h : OBJ w g 54 vals rows) (hr : rows[1]? = some (some (b,l))) (hv : vals[1]? = some (.slice A n c)) :
  Calls Try.prog 60 #[.pointer (some ⟨g,0,none⟩)] w (uSchemeAt B w l) := by
 have c0 := h.cell 1 _ hv
 obtain ⟨u,hu,hb⟩ := h.row 1 b l hr
 rw [hv] at hu
 cases hu
 have HR := Aside0.mk hb
 have HNE := Aside0.mk hne
 have HBB := Aside0.mk hB
 have HCAP := Aside0.mk hb.cap
 have HB := Aside0.mk (Below.refl w.heap.size w)
 clear h hv hr hb hne hB
 by_cases hl : l = []
 ·
  subst hl
  have hn : n = 0 := HCAP.out.1
  subst hn
  go_enter Try.func60,Try.ntmps60
  go_wp2_with (first|((with_reducible refine gate_callee (f := 87) rfl ?_);refine goesL_ (some 11) rfl rfl Try.func87 (by kernel_rfl) rfl #[] rfl (by (try simp only [List.map_toArray,List.map_cons,List.map_nil]);first|done|rfl) ?_;refine (strHTTP_calls _).mono ?_;rintro e w2 ⟨g2,c2,rfl,hc2,hb2,hg2,hw2⟩;refine ⟨_,rfl,?_⟩;have HR2 : Aside0 (∀ W,Only (fun j => j = B) w2 W → Kd.C (Kd.int .u8) W (some ⟨g2,0,none⟩) 4 (toI [104,116,116,112])) := ⟨fun W ho => Ob.BR.C (hb2.heap (ho.block g2 hb2.lt (fun e => by have := HBB.out;have := HB.out.size;omega))) (by decide)⟩;have n0_ := Aside0.mk (below_step (bl_ HB.out) hw2);have HL2 := Aside0.mk hc2;clear HB hc2 hb2 hg2 hw2;have HB := n0_;clear n0_))
  go_ret
  refine ⟨_,_,_,rfl,?_,HL2.out,HB.out⟩
  exact HR2.out
 have hn : ((n : Int) == 0) = false := beq_eq_false_iff_ne.2 (by have := HCAP.out.1;have := List.length_pos_iff.2 hl;omega)
 go_enter Try.func60,Try.ntmps60
 go_wp2
 go_ret
 refine ⟨_,_,_,rfl,fun W ho => ?_,HCAP.out.2,bl_ HB.out⟩
 rw [if_neg hl]
 exact (HR.out.move fun k hk => ho.block k (HR.out.lt k hk) (fun e => HNE.out (by rw [hk,e]))).C
set_option maxHeartbeats 16000000 in
set_option maxRecDepth 100000 in
theorem uParts_calls (w : World) (g : Nat) (A0 : Option Addr) (n0 c0 : Nat) (A1 : Option Addr) (n1 c1 : Nat) (A2 : Option Addr) (n2 c2 : Nat) (A3 : Option Addr) (n3 c3 : Nat) (A4 : Option Addr) (n4 c4 : Nat) (A5 : Option Addr) (n5 c5 : Nat) (A12 : Option Addr) (n12 c12 : Nat) (A13 : Option Addr) (n13 c13 : Nat) (b8 b9 f : Bool) (v10 v11 : Value) (o s p q h ho fu rq us pa : List UInt8) (h0 : OBJ w g 54 (urV (.slice A0 n0 c0) (.slice A1 n1 c1) (.slice A2 n2 c2) (.slice A3 n3 c3) (.slice A4 n4 c4) (.slice A5 n5 c5) b8 b9 v10 v11 (.slice A12 n12 c12) (.slice A13 n13 c13)) (urW f o s p q h ho fu rq us pa)) (hp : p ≠ []) (sc : List UInt8) (hsc : (if s = [] then [104,116,116,112] else s) = sc) :
  Calls Try.prog 31 #[.pointer (some ⟨g,0,none⟩)] w fun e w' => e = .returned (.agg #[.string ⟨sc.toArray⟩,.string ⟨ho.toArray⟩,.string ⟨p.toArray⟩,.string ⟨o.toArray⟩,.string ⟨q.toArray⟩,.string ⟨h.toArray⟩,.string ⟨us.toArray⟩,.string ⟨pa.toArray⟩]) ∧ Below w.heap.size w w' := by
 have HH := Aside0.mk h0
 have HPN := Aside0.mk hp
 have HSC := Aside0.mk hsc
 clear h0 hp hsc
 go_enter Try.func31,Try.ntmps31
 go_wp2
 refine wp_region_any (by kernel_rfl) ?_
 try (change wpAny _ _ _ _ _ _ _ (World.drew _))
 refine wpAny_take (i := 0) (v := .pointer (some ⟨g,0,none⟩)) rfl (by kernel_rfl) (by kernel_rfl) (by kernel_rfl) (fun _ _ _ h => h) (Or.inl ⟨by rfl,by intro W;go_simp⟩) ?_
 refine wpAny_take (i := 3) (v := .pointer (some ⟨g,0,none⟩)) rfl (by kernel_rfl) (by kernel_rfl) (by kernel_rfl) (fun _ _ _ h => h) (Or.inl ⟨by rfl,by intro W;go_simp⟩) ?_
 refine wpAny_take (i := 6) (v := .pointer (some ⟨g,0,none⟩)) rfl (by kernel_rfl) (by kernel_rfl) (by kernel_rfl) (fun _ _ _ h => h) (Or.inl ⟨by rfl,by intro W;go_simp⟩) ?_
 refine wpAny_take (i := 9) (v := .pointer (some ⟨g,0,none⟩)) rfl (by kernel_rfl) (by kernel_rfl) (by kernel_rfl) (fun _ _ _ h => h) (Or.inl ⟨by rfl,by intro W;go_simp⟩) ?_
 refine wpAny_take (i := 12) (v := .pointer (some ⟨g,0,none⟩)) rfl (by kernel_rfl) (by kernel_rfl) (by kernel_rfl) (fun _ _ _ h => h) (Or.inl ⟨by rfl,by intro W;go_simp⟩) ?_
 refine wpAny_take (i := 15) (v := .pointer (some ⟨g,0,none⟩)) rfl (by kernel_rfl) (by kernel_rfl) (by kernel_rfl) (fun _ _ _ h => h) (Or.inl ⟨by rfl,by intro W;go_simp⟩) ?_
 refine wpAny_take (i := 18) (v := .pointer (some ⟨g,0,none⟩)) rfl (by kernel_rfl) (by kernel_rfl) (by kernel_rfl) (fun _ _ _ h => h) (Or.inl ⟨by rfl,by intro W;go_simp⟩) ?_
 refine wpAny_take (i := 21) (v := .pointer (some ⟨g,0,none⟩)) rfl (by kernel_rfl) (by kernel_rfl) (by kernel_rfl) (fun _ _ _ h => h) (Or.inl ⟨by rfl,by intro W;go_simp⟩) ?_
 refine wpAny_ready (rs := [1]) (by kernel_rfl) (by simp) ?_
 refine AllReady.cons rfl (fun K hK => ?_) AllReady.nil
 go_simp
 refine (uScheme_at _ g _ _ A1 n1 c1 true s w.heap.size (by simp) ?hne (HH.out.below (below_drew1 (below_alloc (Below.refl _ _) _))) rfl rfl).mono ?_
 case hne =>
  intro e
  obtain ⟨u,hu,hb⟩ := HH.out.row 1 true s rfl
  cases hu
  exact absurd (hb.lt _ e) (Nat.lt_irrefl _)
 rintro e w2 ⟨At,nt,ct,rfl,hC,hct,hb⟩
 have hb0 : Below w.heap.size w w2 := below_step (below_drew1 (below_alloc (Below.refl _ _) _)) hb
 have hres : w2.heap[w.heap.size]? = some (.cells #[.string ⟨#[]⟩,.string ⟨#[]⟩,.string ⟨#[]⟩,.string ⟨#[]⟩,.string ⟨#[]⟩,.string ⟨#[]⟩,.string ⟨#[]⟩,.string ⟨#[]⟩] 27 (0,0)) := (hb.block w.heap.size (by simp)).trans (heap_alloc_new w _)
 rw [HSC.out] at hC
 have HC := Aside0.mk hC
 have HB0 := Aside0.mk hb0
 have HRES := Aside0.mk hres
 clear hC hct hb hb0 hres
 refine hK _ _ ?_
 clear hK K
 refine wpAny_of_held (S := fun W => Only (fun j => j = w.heap.size) w2 W) _ _ _ _ ?_
 have hS : Only (fun j => j = w.heap.size) w2 w2 := Only.refl _ _
 refine wpAnyH_take (i := 2) (v := .string ⟨sc.toArray⟩) rfl (by kernel_rfl) (by kernel_rfl) (by kernel_rfl) (fun _ _ _ h => h) (Or.inl ⟨by rfl,fun W hW => by have hcv := conv_C (P := Try.prog) (c := ct) (HC.out W hW) Try.underlying49 Try.underlying5 Try.underlying9;clear hS hW;go_simp⟩) hS ?_
 try simp only [Act.put,List.setIfInBounds_toArray,List.set_cons_zero,List.set_cons_succ]
 refine wpAnyH_ready (rs := [4]) (by kernel_rfl) (by simp) ?_
 refine AllReadyH.cons rfl (fun K hK => ?_) AllReadyH.nil
 have HSX := Aside0.mk hS
 clear hS
 go_simp
 have hS := HSX.out
 clear HSX
 refine (uHost_calls _ g _ _ A5 n5 c5 (HH.out.below (below_only HB0.out hS)) rfl).mono ?_
 rintro e w3 ⟨rfl,hb⟩
 have hS' := hS.trans (Only.of_below (S := fun _ => False) hb) (fun _ _ e => e.elim)
 have n0_ := Aside0.mk (hb.block w.heap.size (Nat.lt_of_lt_of_le (Array.getElem?_eq_some_iff.1 HRES.out).1 (Nat.le_refl _)))
 have n1_ := Aside0.mk (n0_.out.trans HRES.out)
 clear HRES n0_
 have HRES := n1_
 clear n1_
 clear hS hb
 refine hK.out _ _ hS' (fun hS => ?_)
 clear hK K hS'
 refine wpAnyH_take (i := 5) (v := .string ⟨ho.toArray⟩) rfl (by kernel_rfl) (by kernel_rfl) (by kernel_rfl) (fun _ _ _ h => h) (Or.inl ⟨by rfl,fun W hW => by have hcv := conv_C (P := Try.prog) (c := c5) (OBJ.C_later HH.out 5 (A := A5) (n := n5) (c := c5) rfl rfl (below_only HB0.out hW)) Try.underlying49 Try.underlying5 Try.underlying9;clear hS hW;go_simp⟩) hS ?_
 try simp only [Act.put,List.setIfInBounds_toArray,List.set_cons_zero,List.set_cons_succ]
 refine wpAnyH_ready (rs := [7]) (by kernel_rfl) (by simp) ?_
 refine AllReadyH.cons rfl (fun K hK => ?_) AllReadyH.nil
 have HSX := Aside0.mk hS
 clear hS
 go_simp
 have hS := HSX.out
 clear HSX
 refine (uPath_ne _ g _ _ A2 n2 c2 f p (HH.out.below (below_only HB0.out hS)) rfl rfl HPN.out).mono ?_
 rintro e w4 ⟨rfl,hb⟩
 have hS' := hS.trans (Only.of_below (S := fun _ => False) hb) (fun _ _ e => e.elim)
 have n0_ := Aside0.mk (hb.block w.heap.size (Nat.lt_of_lt_of_le (Array.getElem?_eq_some_iff.1 HRES.out).1 (Nat.le_refl _)))
 have n1_ := Aside0.mk (n0_.out.trans HRES.out)
 clear HRES n0_
 have HRES := n1_
 clear n1_
 clear hS hb
 refine hK.out _ _ hS' (fun hS => ?_)
 clear hK K hS'
 refine wpAnyH_take (i := 8) (v := .string ⟨p.toArray⟩) rfl (by kernel_rfl) (by kernel_rfl) (by kernel_rfl) (fun _ _ _ h => h) (Or.inl ⟨by rfl,fun W hW => by have hcv := conv_C (P := Try.prog) (c := c2) (OBJ.C_later HH.out 2 (A := A2) (n := n2) (c := c2) rfl rfl (below_only HB0.out hW)) Try.underlying49 Try.underlying5 Try.underlying9;clear hS hW;go_simp⟩) hS ?_
 try simp only [Act.put,List.setIfInBounds_toArray,List.set_cons_zero,List.set_cons_succ]
 refine wpAnyH_ready (rs := [10]) (by kernel_rfl) (by simp) ?_
 refine AllReadyH.cons rfl (fun K hK => ?_) AllReadyH.nil
 have HSX := Aside0.mk hS
 clear hS
 go_simp
 have hS := HSX.out
 clear HSX
 refine (uOrig_calls _ g _ _ A0 n0 c0 (HH.out.below (below_only HB0.out hS)) rfl).mono ?_
 rintro e w5 ⟨rfl,hb⟩
 have hS' := hS.trans (Only.of_below (S := fun _ => False) hb) (fun _ _ e => e.elim)
 have n0_ := Aside0.mk (hb.block w.heap.size (Nat.lt_of_lt_of_le (Array.getElem?_eq_some_iff.1 HRES.out).1 (Nat.le_refl _)))
 have n1_ := Aside0.mk (n0_.out.trans HRES.out)
 clear HRES n0_
 have HRES := n1_
 clear n1_
 clear hS hb
 refine hK.out _ _ hS' (fun hS => ?_)
 clear hK K hS'
 refine wpAnyH_take (i := 11) (v := .string ⟨o.toArray⟩) rfl (by kernel_rfl) (by kernel_rfl) (by kernel_rfl) (fun _ _ _ h => h) (Or.inl ⟨by rfl,fun W hW => by have hcv := conv_C (P := Try.prog) (c := c0) (OBJ.C_later HH.out 0 (A := A0) (n := n0) (c := c0) rfl rfl (below_only HB0.out hW)) Try.underlying49 Try.underlying5 Try.underlying9;clear hS hW;go_simp⟩) hS ?_
 try simp only [Act.put,List.setIfInBounds_toArray,List.set_cons_zero,List.set_cons_succ]
 refine wpAnyH_ready (rs := [13]) (by kernel_rfl) (by simp) ?_
 refine AllReadyH.cons rfl (fun K hK => ?_) AllReadyH.nil
 have HSX := Aside0.mk hS
 clear hS
 go_simp
 have hS := HSX.out
 clear HSX
 refine (uQuery_calls _ g _ _ A3 n3 c3 (HH.out.below (below_only HB0.out hS)) rfl).mono ?_
 rintro e w6 ⟨rfl,hb⟩
 have hS' := hS.trans (Only.of_below (S := fun _ => False) hb) (fun _ _ e => e.elim)
 have n0_ := Aside0.mk (hb.block w.heap.size (Nat.lt_of_lt_of_le (Array.getElem?_eq_some_iff.1 HRES.out).1 (Nat.le_refl _)))
 have n1_ := Aside0.mk (n0_.out.trans HRES.out)
 clear HRES n0_
 have HRES := n1_
 clear n1_
 clear hS hb
 refine hK.out _ _ hS' (fun hS => ?_)
 clear hK K hS'
 refine wpAnyH_take (i := 14) (v := .string ⟨q.toArray⟩) rfl (by kernel_rfl) (by kernel_rfl) (by kernel_rfl) (fun _ _ _ h => h) (Or.inl ⟨by rfl,fun W hW => by have hcv := conv_C (P := Try.prog) (c := c3) (OBJ.C_later HH.out 3 (A := A3) (n := n3) (c := c3) rfl rfl (below_only HB0.out hW)) Try.underlying49 Try.underlying5 Try.underlying9;clear hS hW;go_simp⟩) hS ?_
 try simp only [Act.put,List.setIfInBounds_toArray,List.set_cons_zero,List.set_cons_succ]
 refine wpAnyH_ready (rs := [16]) (by kernel_rfl) (by simp) ?_
 refine AllReadyH.cons rfl (fun K hK => ?_) AllReadyH.nil
 have HSX := Aside0.mk hS
 clear hS
 go_simp
 have hS := HSX.out
 clear HSX
 refine (uHash_calls _ g _ _ A4 n4 c4 (HH.out.below (below_only HB0.out hS)) rfl).mono ?_
 rintro e w7 ⟨rfl,hb⟩
 have hS' := hS.trans (Only.of_below (S := fun _ => False) hb) (fun _ _ e => e.elim)
 have n0_ := Aside0.mk (hb.block w.heap.size (Nat.lt_of_lt_of_le (Array.getElem?_eq_some_iff.1 HRES.out).1 (Nat.le_refl _)))
 have n1_ := Aside0.mk (n0_.out.trans HRES.out)
 clear HRES n0_
 have HRES := n1_
 clear n1_
 clear hS hb
 refine hK.out _ _ hS' (fun hS => ?_)
 clear hK K hS'
 refine wpAnyH_take (i := 17) (v := .string ⟨h.toArray⟩) rfl (by kernel_rfl) (by kernel_rfl) (by kernel_rfl) (fun _ _ _ h => h) (Or.inl ⟨by rfl,fun W hW => by have hcv := conv_C (P := Try.prog) (c := c4) (OBJ.C_later HH.out 4 (A := A4) (n := n4) (c := c4) rfl rfl (below_only HB0.out hW)) Try.underlying49 Try.underlying5 Try.underlying9;clear hS hW;go_simp⟩) hS ?_
 try simp only [Act.put,List.setIfInBounds_toArray,List.set_cons_zero,List.set_cons_succ]
 refine wpAnyH_ready (rs := [19]) (by kernel_rfl) (by simp) ?_
 refine AllReadyH.cons rfl (fun K hK => ?_) AllReadyH.nil
 have HSX := Aside0.mk hS
 clear hS
 go_simp
 have hS := HSX.out
 clear HSX
 refine (uUser_calls _ g _ _ A12 n12 c12 (HH.out.below (below_only HB0.out hS)) rfl).mono ?_
 rintro e w8 ⟨rfl,hb⟩
 have hS' := hS.trans (Only.of_below (S := fun _ => False) hb) (fun _ _ e => e.elim)
 have n0_ := Aside0.mk (hb.block w.heap.size (Nat.lt_of_lt_of_le (Array.getElem?_eq_some_iff.1 HRES.out).1 (Nat.le_refl _)))
 have n1_ := Aside0.mk (n0_.out.trans HRES.out)
 clear HRES n0_
 have HRES := n1_
 clear n1_
 clear hS hb
 refine hK.out _ _ hS' (fun hS => ?_)
 clear hK K hS'
 refine wpAnyH_take (i := 20) (v := .string ⟨us.toArray⟩) rfl (by kernel_rfl) (by kernel_rfl) (by kernel_rfl) (fun _ _ _ h => h) (Or.inl ⟨by rfl,fun W hW => by have hcv := conv_C (P := Try.prog) (c := c12) (OBJ.C_later HH.out 12 (A := A12) (n := n12) (c := c12) rfl rfl (below_only HB0.out hW)) Try.underlying49 Try.underlying5 Try.underlying9;clear hS hW;go_simp⟩) hS ?_
 try simp only [Act.put,List.setIfInBounds_toArray,List.set_cons_zero,List.set_cons_succ]
 refine wpAnyH_ready (rs := [22]) (by kernel_rfl) (by simp) ?_
 refine AllReadyH.cons rfl (fun K hK => ?_) AllReadyH.nil
 have HSX := Aside0.mk hS
 clear hS
 go_simp
 have hS := HSX.out
 clear HSX
 refine (uPass_calls _ g _ _ A13 n13 c13 (HH.out.below (below_only HB0.out hS)) rfl).mono ?_
 rintro e w9 ⟨rfl,hb⟩
 have hS' := hS.trans (Only.of_below (S := fun _ => False) hb) (fun _ _ e => e.elim)
 have n0_ := Aside0.mk (hb.block w.heap.size (Nat.lt_of_lt_of_le (Array.getElem?_eq_some_iff.1 HRES.out).1 (Nat.le_refl _)))
 have n1_ := Aside0.mk (n0_.out.trans HRES.out)
 clear HRES n0_
 have HRES := n1_
 clear n1_
 clear hS hb
 refine hK.out _ _ hS' (fun hS => ?_)
 clear hK K hS'
 refine wpAnyH_take (i := 23) (v := .string ⟨pa.toArray⟩) rfl (by kernel_rfl) (by kernel_rfl) (by kernel_rfl) (fun _ _ _ h => h) (Or.inl ⟨by rfl,fun W hW => by have hcv := conv_C (P := Try.prog) (c := c13) (OBJ.C_later HH.out 13 (A := A13) (n := n13) (c := c13) rfl rfl (below_only HB0.out hW)) Try.underlying49 Try.underlying5 Try.underlying9;clear hS hW;go_simp⟩) hS ?_
 try simp only [Act.put,List.setIfInBounds_toArray,List.set_cons_zero,List.set_cons_succ]
 refine wpAnyH_take (i := 24) (v := .agg #[.string ⟨sc.toArray⟩,.string ⟨ho.toArray⟩,.string ⟨p.toArray⟩,.string ⟨o.toArray⟩,.string ⟨q.toArray⟩,.string ⟨h.toArray⟩,.string ⟨us.toArray⟩,.string ⟨pa.toArray⟩]) rfl (by kernel_rfl) (by kernel_rfl) (by kernel_rfl) (fun _ _ _ h => h) (Or.inl ⟨by rfl,fun W hW => by clear hS hW;go_simp⟩) hS ?_
 try simp only [Act.put,List.setIfInBounds_toArray,List.set_cons_zero,List.set_cons_succ]
 refine wpAnyH_ready (rs := [25]) (by kernel_rfl) (by simp) ?_
 refine AllReadyH.cons rfl (fun K hK => ?_) AllReadyH.nil
 have HSX := Aside0.mk hS
 clear hS
 have r0 := (blk_cell HRES.out 0).trans rfl
 have f0 := blk_frozen HRES.out 0
 have r1 := (blk_cell HRES.out 1).trans rfl
 have f1 := blk_frozen HRES.out 1
 have r2 := (blk_cell HRES.out 2).trans rfl
 have f2 := blk_frozen HRES.out 2
 have r3 := (blk_cell HRES.out 3).trans rfl
 have f3 := blk_frozen HRES.out 3
 have r4 := (blk_cell HRES.out 4).trans rfl
 have f4 := blk_frozen HRES.out 4
 have r5 := (blk_cell HRES.out 5).trans rfl
 have f5 := blk_frozen HRES.out 5
 have r6 := (blk_cell HRES.out 6).trans rfl
 have f6 := blk_frozen HRES.out 6
 have r7 := (blk_cell HRES.out 7).trans rfl
 have f7 := blk_frozen HRES.out 7
 go_simp
 refine hK.out _ _ ?_ (fun hS => ?_)
 ·
  (repeat (refine Only.set (S := fun j => j = w.heap.size) ?_ (.inl rfl) _ _));exact HSX.out
 clear hK K
 refine wpAnyH_done (by kernel_rfl) ?_ _
 have HSY := Aside0.mk hS
 clear hS HSX
 have hz := blk_put (blk_put (blk_put (blk_put (blk_put (blk_put (blk_put (blk_put (HRES.out) 0 (.string ⟨sc.toArray⟩) rfl) 1 (.string ⟨ho.toArray⟩) rfl) 2 (.string ⟨p.toArray⟩) rfl) 3 (.string ⟨o.toArray⟩) rfl) 4 (.string ⟨q.toArray⟩) rfl) 5 (.string ⟨h.toArray⟩) rfl) 6 (.string ⟨us.toArray⟩) rfl) 7 (.string ⟨pa.toArray⟩) rfl
 have ho := HSY.out
 clear HSY HRES r0 f0 r1 f1 r2 f2 r3 f3 r4 f4 r5 f5 r6 f6 r7 f7
 have HO := Aside0.mk ho
 have HZ := Aside0.mk hz
 clear ho hz
 go_wp2
 have hz := HZ.out
 have ho := HO.out
 clear HZ HO
 have hk := And.intro hz ho
 clear hz ho
 revert hk
 refine gen_goal (fun W => W.heap[w.heap.size]? = some (.cells #[.string ⟨sc.toArray⟩,.string ⟨ho.toArray⟩,.string ⟨p.toArray⟩,.string ⟨o.toArray⟩,.string ⟨q.toArray⟩,.string ⟨h.toArray⟩,.string ⟨us.toArray⟩,.string ⟨pa.toArray⟩] 27 (0,0)) ∧ Only (fun j => j = w.heap.size) w2 W) _ _ (fun W9 hk => ?_)
 obtain ⟨hz,ho⟩ := hk
 have r0 := (blk_cell hz 0).trans rfl
 have r1 := (blk_cell hz 1).trans rfl
 have r2 := (blk_cell hz 2).trans rfl
 have r3 := (blk_cell hz 3).trans rfl
 have r4 := (blk_cell hz 4).trans rfl
 have r5 := (blk_cell hz 5).trans rfl
 have r6 := (blk_cell hz 6).trans rfl
 have r7 := (blk_cell hz 7).trans rfl
 have HO := Aside0.mk ho
 clear hz ho
 refine bodyPost_ret (v := .agg #[.string ⟨sc.toArray⟩,.string ⟨ho.toArray⟩,.string ⟨p.toArray⟩,.string ⟨o.toArray⟩,.string ⟨q.toArray⟩,.string ⟨h.toArray⟩,.string ⟨us.toArray⟩,.string ⟨pa.toArray⟩]) (by simp [results,Try.results31,go_sem,r0,r1,r2,r3,r4,r5,r6,r7]) rfl ⟨rfl,below_only HB0.out HO.out⟩
end Go.Proofs.Ytbkeakeldegkeaa.Q
end
section
namespace Go.Proofs.Ytbkeakeldegkeaa.Q
open Go.RowKit Go.Proofs.YtbkeakeldegkeaaW.PrintWords Go.Proofs.YtbkeakeldegkeaaW.PrintLast Go.Proofs.YtbkeakeldegkeaaW.PrintMore
open Go.Proofs.YtbkeakeldegkeaaKit (L size_L)
open Go.Proofs.Ytbkeakeldegkeaa.SpA (toI toI_length toI_append lowU UR parseU)
open Go.Proofs.Ytbkeakeldegkeaa.Ob
theorem RW.form {b : Bool} {W : World} {v : Value} {l : List UInt8} (h : RW b W v l) : ∃ A n c,v = .slice A n c := by
 obtain ⟨A,c,e,_⟩ := h.slice
 exact ⟨A,_,c,e⟩
theorem VW.of_conv {S : Nat → Prop} {w : World} {g c : Nat} {s : ByteArray} (h : BR w g 5 s.data.toList) (hS : ¬ S g) (hc : s.size ≤ c) (hl : s.size ≤ 3000000000) : VW S w (Option.some ⟨g,0,none⟩) s.size c s.data.toList := by
 have e : s.data.toList.length = s.size := (size_L s).symm
 have := VW.of_BR (S := S) (c := c) h hS (by omega) (by omega)
 rwa [e] at this
theorem urZ_obj {W : World} {g : Nat} (h : W.heap[g]? = some (.cells (urV (.slice none 0 0) (.slice none 0 0) (.slice none 0 0) (.slice none 0 0) (.slice none 0 0) (.slice none 0 0) false false (.slice none 0 0) (.slice none 0 0) (.slice none 0 0) (.slice none 0 0)).toArray 54 (0,0))) : OBJ W g 54 (urV (.slice none 0 0) (.slice none 0 0) (.slice none 0 0) (.slice none 0 0) (.slice none 0 0) (.slice none 0 0) false false (.slice none 0 0) (.slice none 0 0) (.slice none 0 0) (.slice none 0 0)) (urW false [] [] [] [] [] [] [] [] [] []) := by
 refine OBJ.fresh h (by intro v hv;simp only [urV,List.mem_cons,List.not_mem_nil,or_false] at hv;rcases hv with rfl|rfl|rfl|rfl|rfl|rfl|rfl|rfl|rfl|rfl|rfl|rfl|rfl|rfl <;> rfl) fun i b l hi => ?_
 have h14 : i < 14 := (List.getElem?_eq_some_iff.1 hi).1
 rcases (by omega : i = 0 ∨ i = 1 ∨ i = 2 ∨ i = 3 ∨ i = 4 ∨ i = 5 ∨ i = 6 ∨ i = 7 ∨ i = 8 ∨ i = 9 ∨ i = 10 ∨ i = 11 ∨ i = 12 ∨ i = 13) with rfl|rfl|rfl|rfl|rfl|rfl|rfl|rfl|rfl|rfl|rfl|rfl|rfl|rfl <;> first|(cases hi;exact ⟨rfl,rfl⟩)|cases hi
theorem OS_z {g k : Nat} (h : OS g (urV (.slice none 0 0) (.slice none 0 0) (.slice none 0 0) (.slice none 0 0) (.slice none 0 0) (.slice none 0 0) false false (.slice none 0 0) (.slice none 0 0) (.slice none 0 0) (.slice none 0 0)) k) : k = g := by
 rcases h with h|⟨i,v,hi,hv,hb⟩
 ·
  exact h
 simp only [isRow,Bool.or_eq_true,beq_iff_eq] at hi
 rcases hi with ((((((rfl|rfl)|rfl)|rfl)|rfl)|rfl)|rfl)|rfl <;> (cases hv;cases hb)
theorem ur_forms {W : World} {g : Nat} {x0 x1 x2 x3 x4 x5 x12 x13 v10 v11 : Value} {b8 b9 f : Bool} {o s p q h ho fu rq us pa : List UInt8} (k : OBJ W g 54 (urV x0 x1 x2 x3 x4 x5 b8 b9 v10 v11 x12 x13) (urW f o s p q h ho fu rq us pa)) :
  (∃ A n c,x0 = .slice A n c) ∧ (∃ A n c,x1 = .slice A n c) ∧ (∃ A n c,x2 = .slice A n c) ∧ (∃ A n c,x3 = .slice A n c) ∧ (∃ A n c,x4 = .slice A n c) ∧ (∃ A n c,x5 = .slice A n c) ∧ (∃ A n c,x12 = .slice A n c) ∧ (∃ A n c,x13 = .slice A n c) := by
 have key : ∀ (i : Nat) (b : Bool) (l : List UInt8) (v : Value),(urW f o s p q h ho fu rq us pa)[i]? = some (some (b,l)) → (urV x0 x1 x2 x3 x4 x5 b8 b9 v10 v11 x12 x13)[i]? = some v → ∃ A n c,v = .slice A n c := fun i b l v hr hv => by
  obtain ⟨u,hu,hw⟩ := k.row i b l hr
  rw [hv] at hu;cases hu
  exact RW.form hw
 exact ⟨key 0 _ _ _ rfl rfl,key 1 _ _ _ rfl rfl,key 2 _ _ _ rfl rfl,key 3 _ _ _ rfl rfl,key 4 _ _ _ rfl rfl,key 5 _ _ _ rfl rfl,key 12 _ _ _ rfl rfl,key 13 _ _ _ rfl rfl⟩
def FreshPost (g : Nat) (w : World) (r : UR) (e : Ending) (w' : World) : Prop := e = .returned (.tuple #[]) ∧ (∃ A0 n0 c0 A1 n1 c1 A2 n2 c2 A3 n3 c3 A4 n4 c4 A5 n5 c5 A12 n12 c12 A13 n13 c13,OBJ w' g 54 (urV (.slice A0 n0 c0) (.slice A1 n1 c1) (.slice A2 n2 c2) (.slice A3 n3 c3) (.slice A4 n4 c4) (.slice A5 n5 c5) false false (.slice none 0 0) (.slice none 0 0) (.slice A12 n12 c12) (.slice A13 n13 c13)) (urW false r.orig r.scheme r.path r.query r.hash r.host [] [] r.user r.pass)) ∧ Only (fun j => j = g) w w'
set_option maxHeartbeats 8000000 in
set_option maxRecDepth 100000 in
theorem uParse_fresh (w : World) (g : Nat) (h0 : OBJ w g 54 (urV (.slice none 0 0) (.slice none 0 0) (.slice none 0 0) (.slice none 0 0) (.slice none 0 0) (.slice none 0 0) false false (.slice none 0 0) (.slice none 0 0) (.slice none 0 0) (.slice none 0 0)) (urW false [] [] [] [] [] [] [] [] [] [])) (A B : Option Addr) (n c m d : Nat) (h u : List UInt8) (hh : VW (fun j => j = g) w A n c h) (hu : VW (fun j => j = g) w B m d u) (r : UR) (hp : parseU h u = some r) (hlh : h.length ≤ 3000000000) (hlu : u.length ≤ 3000000000) (hpo : r.orig.length ≤ 2147483647) :
  Calls Try.prog 30 #[.pointer (some ⟨g,0,none⟩),.slice A n c,.slice B m d] w (FreshPost g w r) := by
 have v1 : VW (OS g (urV (.slice none 0 0) (.slice none 0 0) (.slice none 0 0) (.slice none 0 0) (.slice none 0 0) (.slice none 0 0) false false (.slice none 0 0) (.slice none 0 0) (.slice none 0 0) (.slice none 0 0))) w A n c h := ⟨hh.len,hh.cap,fun W ho => hh.rd W (ho.mono fun k _ hk => OS_z hk)⟩
 have v2 : VW (OS g (urV (.slice none 0 0) (.slice none 0 0) (.slice none 0 0) (.slice none 0 0) (.slice none 0 0) (.slice none 0 0) false false (.slice none 0 0) (.slice none 0 0) (.slice none 0 0) (.slice none 0 0))) w B m d u := ⟨hu.len,hu.cap,fun W ho => hu.rd W (ho.mono fun k _ hk => OS_z hk)⟩
 have HC := Aside0.mk (parse_calls w g none 0 0 none 0 0 none 0 0 none 0 0 none 0 0 none 0 0 none 0 0 none 0 0 false false false (.slice none 0 0) (.slice none 0 0) [] [] [] [] [] [] [] [] [] [] h0 A B n c m d h u v1 v2 normInto_nil r hp hlh hlu hpo)
 clear h0 hh hu hp hlh hlu v1 v2 hpo
 go_enter Try.func30,Try.ntmps30
 go_wp2_with (first|((with_reducible refine gate_callee (f := 59) rfl ?_);refine goesL_ (some 9) rfl rfl Try.func59 (by kernel_rfl) rfl #[.pointer (some ⟨g,0,none⟩),.slice A n c,.slice B m d,.bool false] rfl (by (try simp only [List.map_toArray,List.map_cons,List.map_nil]);first|done|rfl) ?_;refine (HC.out).mono ?_;rintro e w1 ⟨rfl,x0,x1,x2,x3,x4,x5,x12,x13,ho,hps⟩;refine ⟨_,rfl,?_⟩;have HO := Aside0.mk ho;have HP := Aside0.mk hps;clear ho hps))
 go_end0
 refine ⟨rfl,?_,HP.out.on.mono fun k _ hk => OS_z hk⟩
 obtain ⟨⟨A0,n0,c0,rfl⟩,⟨A1,n1,c1,rfl⟩,⟨A2,n2,c2,rfl⟩,⟨A3,n3,c3,rfl⟩,⟨A4,n4,c4,rfl⟩,⟨A5,n5,c5,rfl⟩,⟨A12,n12,c12,rfl⟩,⟨A13,n13,c13,rfl⟩⟩ := ur_forms HO.out
 exact ⟨_,_,_,_,_,_,_,_,_,_,_,_,_,_,_,_,_,_,_,_,_,_,_,_,HO.out⟩
theorem uriOf_idle (g h : Nat) (w : World) :
  CallsD Try.prog 29 #[.pointer (some ⟨g,0,none⟩),.pointer (some ⟨h,0,none⟩)] .returning w fun e u' w' => e = .returned (.tuple #[]) ∧ u' = .returning ∧ w' = w := by
 refine callsD_of_wpS Try.func29 rfl fun c₀ cs hu => ?_
 apply wpS_seq
 apply wpS_region
 simp [wpOpsS,go_sem,recoverD,hu,Try.ntmps29,Exit.thenS]
 refine wpS_cond (t := false) (by simp [Act.eval,Array.replicate]) ?_
 simp only [Bool.false_eq_true,if_false]
 refine wpS_of_wp (wp_skip ?_)
 cases c₀
 simp_all [bodyPostS,results,Try.results29]
structure UO (w W : World) (cs : Array Value) : Prop where
 be : Below w.heap.size w W
 r0 : W.heap[w.heap.size]? = some (.cells cs 27 (0,0))
 r1 : W.heap[w.heap.size + 1]? = some (.cells #[.bool false] 4 (0,0))
 sz : w.heap.size + 3 ≤ W.heap.size
theorem UO.below {w W W2 : World} {cs : Array Value} (h : UO w W cs) (hb : Below W.heap.size W W2) : UO w W2 cs := by
 have := h.sz
 exact ⟨below_step h.be hb,(hb.block _ (by omega)).trans h.r0,(hb.block _ (by omega)).trans h.r1,Nat.le_trans h.sz hb.size⟩
theorem UO.only {w W W2 : World} {cs : Array Value} (h : UO w W cs) (ho : Only (fun j => j = w.heap.size + 1 + 1) W W2) : UO w W2 cs := by
 have := h.sz
 refine ⟨⟨ho.os.trans h.be.os,ho.tape.trans h.be.tape,ho.output.trans h.be.output,Nat.le_trans h.be.size ho.size,fun k hk => (ho.block k (by omega) (fun e => by omega)).trans (h.be.block k hk)⟩,(ho.block _ (by omega) (fun e => by omega)).trans h.r0,(ho.block _ (by omega) (fun e => by omega)).trans h.r1,Nat.le_trans h.sz ho.size⟩
set_option maxHeartbeats 16000000 in
set_option maxRecDepth 100000 in
theorem uriOf_calls (a0 a1 : ByteArray) (w : World) (h0 : a0.size ≤ 3000000000) (h1 : a1.size ≤ 3000000000) (r : UR) (hp : parseU a0.data.toList a1.data.toList = some r) (hne : r.path ≠ []) (hpo : r.orig.length ≤ 2147483647) :
  Calls Try.prog 18 #[.string a0,.string a1] w fun e w' => e = .returned (.tuple #[.agg #[.string ⟨r.sch.toArray⟩,.string ⟨r.host.toArray⟩,.string ⟨r.path.toArray⟩,.string ⟨r.orig.toArray⟩,.string ⟨r.query.toArray⟩,.string ⟨r.hash.toArray⟩,.string ⟨r.user.toArray⟩,.string ⟨r.pass.toArray⟩],.bool true]) ∧ Below w.heap.size w w' := by
 have hmf : ∀ (fn : Fn) (first cap : Array Value) (w : World),(Instr.makeFunc fn first cap).run Try.prog w = .ok (.func fn first cap) w := fun _ _ _ _ => rfl
 have HP := Aside0.mk hp
 have HNE := Aside0.mk hne
 have HPO := Aside0.mk hpo
 have HL0 := Aside0.mk h0
 have HL1 := Aside0.mk h1
 have HU0 : Aside0 (UO w (((w.alloc (.cells #[.string ⟨#[]⟩,.string ⟨#[]⟩,.string ⟨#[]⟩,.string ⟨#[]⟩,.string ⟨#[]⟩,.string ⟨#[]⟩,.string ⟨#[]⟩,.string ⟨#[]⟩] 27)).alloc (.cells #[.bool false] 4)).alloc (.cells #[.slice none 0 0,.slice none 0 0,.slice none 0 0,.slice none 0 0,.slice none 0 0,.slice none 0 0,.slice none 0 0,.slice none 0 0,.bool false,.bool false,.slice none 0 0,.slice none 0 0,.slice none 0 0,.slice none 0 0] 54)) #[.string ⟨#[]⟩,.string ⟨#[]⟩,.string ⟨#[]⟩,.string ⟨#[]⟩,.string ⟨#[]⟩,.string ⟨#[]⟩,.string ⟨#[]⟩,.string ⟨#[]⟩]) := ⟨by
  refine ⟨below_alloc (below_alloc (below_alloc (Below.refl _ _) _) _) _,?_,?_,by simp⟩
  ·
   rw [Below.heap_alloc _ _ _ (by simp;omega),Below.heap_alloc _ _ _ (by simp)]
   exact heap_alloc_new w _
  rw [Below.heap_alloc _ _ _ (by simp)]
  have := heap_alloc_new (w.alloc (.cells #[.string ⟨#[]⟩,.string ⟨#[]⟩,.string ⟨#[]⟩,.string ⟨#[]⟩,.string ⟨#[]⟩,.string ⟨#[]⟩,.string ⟨#[]⟩,.string ⟨#[]⟩] 27)) (.cells #[.bool false] 4)
  simpa using this⟩
 have HG0 : Aside0 (OBJ (((w.alloc (.cells #[.string ⟨#[]⟩,.string ⟨#[]⟩,.string ⟨#[]⟩,.string ⟨#[]⟩,.string ⟨#[]⟩,.string ⟨#[]⟩,.string ⟨#[]⟩,.string ⟨#[]⟩] 27)).alloc (.cells #[.bool false] 4)).alloc (.cells #[.slice none 0 0,.slice none 0 0,.slice none 0 0,.slice none 0 0,.slice none 0 0,.slice none 0 0,.slice none 0 0,.slice none 0 0,.bool false,.bool false,.slice none 0 0,.slice none 0 0,.slice none 0 0,.slice none 0 0] 54)) (w.heap.size + 1 + 1) 54 (urV (.slice none 0 0) (.slice none 0 0) (.slice none 0 0) (.slice none 0 0) (.slice none 0 0) (.slice none 0 0) false false (.slice none 0 0) (.slice none 0 0) (.slice none 0 0) (.slice none 0 0)) (urW false [] [] [] [] [] [] [] [] [] [])) := ⟨urZ_obj (by
  have := heap_alloc_new ((w.alloc (.cells #[.string ⟨#[]⟩,.string ⟨#[]⟩,.string ⟨#[]⟩,.string ⟨#[]⟩,.string ⟨#[]⟩,.string ⟨#[]⟩,.string ⟨#[]⟩,.string ⟨#[]⟩] 27)).alloc (.cells #[.bool false] 4)) (.cells #[.slice none 0 0,.slice none 0 0,.slice none 0 0,.slice none 0 0,.slice none 0 0,.slice none 0 0,.slice none 0 0,.slice none 0 0,.bool false,.bool false,.slice none 0 0,.slice none 0 0,.slice none 0 0,.slice none 0 0] 54)
  rw [show ((w.alloc (.cells #[.string ⟨#[]⟩,.string ⟨#[]⟩,.string ⟨#[]⟩,.string ⟨#[]⟩,.string ⟨#[]⟩,.string ⟨#[]⟩,.string ⟨#[]⟩,.string ⟨#[]⟩] 27)).alloc (.cells #[.bool false] 4)).heap.size = w.heap.size + 1 + 1 by simp] at this
  exact this)⟩
 have HE3 : Aside0 ((((w.alloc (.cells #[.string ⟨#[]⟩,.string ⟨#[]⟩,.string ⟨#[]⟩,.string ⟨#[]⟩,.string ⟨#[]⟩,.string ⟨#[]⟩,.string ⟨#[]⟩,.string ⟨#[]⟩] 27)).alloc (.cells #[.bool false] 4)).alloc (.cells #[.slice none 0 0,.slice none 0 0,.slice none 0 0,.slice none 0 0,.slice none 0 0,.slice none 0 0,.slice none 0 0,.slice none 0 0,.bool false,.bool false,.slice none 0 0,.slice none 0 0,.slice none 0 0,.slice none 0 0] 54)).heap.size = w.heap.size + 1 + 1 + 1) := ⟨by simp⟩
 clear hp hne h0 h1 hpo
 go_enter_defers Try.func18,Try.ntmps18
 go_wp2_with (first|((with_reducible refine gate_dst (N := 9) rfl ?_);refine YtbkeakeldegkeaaX.convL_ (some 9) rfl rfl 9 49 _ rfl a0 rfl ?_;refine (conv_BR2 9 49 5 Try.underlying9 Try.underlying49 Try.underlying5 a0 _).mono ?_;rintro e w1 ⟨k1,rfl,hk1,hb1,hbl1⟩;refine ⟨_,rfl,?_⟩;rw [HE3.out] at hb1;have HU1 := Aside0.mk (HU0.out.below hbl1);have HG1 := Aside0.mk (HG0.out.below hbl1);have HV1 := Aside0.mk (VW.of_conv (S := fun j => j = w.heap.size + 1 + 1) hb1 (fun e => by omega) hk1 HL0.out);clear hk1 hb1 hbl1)|((with_reducible refine gate_dst (N := 11) rfl ?_);refine YtbkeakeldegkeaaX.convL_ (some 11) rfl rfl 9 49 _ rfl a1 rfl ?_;refine (conv_BR2 9 49 5 Try.underlying9 Try.underlying49 Try.underlying5 a1 _).mono ?_;rintro e w2 ⟨k2,rfl,hk2,hb2,hbl2⟩;refine ⟨_,rfl,?_⟩;have HU2 := Aside0.mk (HU1.out.below hbl2);have HG2 := Aside0.mk (HG1.out.below hbl2);have HV2 := Aside0.mk (HV1.out.below hbl2);have HV3 := Aside0.mk (VW.of_conv (S := fun j => j = w.heap.size + 1 + 1) hb2 (fun e => by have := HU1.out.sz;omega) hk2 HL1.out);clear hk2 hb2 hbl2)|((with_reducible refine gate_callee (f := 30) rfl ?_);refine goesL_ (some 12) rfl rfl Try.func30 (by kernel_rfl) rfl #[.pointer (some ⟨w.heap.size + 1 + 1,0,none⟩),.slice (some ⟨_,0,none⟩) a0.size k1,.slice (some ⟨_,0,none⟩) a1.size k2] rfl (by (try simp only [List.map_toArray,List.map_cons,List.map_nil]);first|done|rfl) ?_;refine (uParse_fresh _ (w.heap.size + 1 + 1) HG2.out _ _ _ _ _ _ _ _ HV2.out HV3.out r HP.out (by have e1 : a0.data.toList.length = a0.size := (size_L a0).symm;have := HL0.out;omega) (by have e1 : a1.data.toList.length = a1.size := (size_L a1).symm;have := HL1.out;omega) HPO.out).mono ?_;rintro e w3 ⟨rfl,⟨A0,n0,c0,A1,n1,c1,A2,n2,c2,A3,n3,c3,A4,n4,c4,A5,n5,c5,A12,n12,c12,A13,n13,c13,ho⟩,hon⟩;refine ⟨_,rfl,?_⟩;have HU3 := Aside0.mk (HU2.out.only hon);have HG3 := Aside0.mk ho;clear ho hon)|((with_reducible refine gate_callee (f := 31) rfl ?_);refine goesL_ (some 13) rfl rfl Try.func31 (by kernel_rfl) rfl #[.pointer (some ⟨w.heap.size + 1 + 1,0,none⟩)] rfl (by (try simp only [List.map_toArray,List.map_cons,List.map_nil]);first|done|rfl) ?_;refine (uParts_calls _ (w.heap.size + 1 + 1) A0 n0 c0 A1 n1 c1 A2 n2 c2 A3 n3 c3 A4 n4 c4 A5 n5 c5 A12 n12 c12 A13 n13 c13 false false false (.slice none 0 0) (.slice none 0 0) _ _ _ _ _ _ _ _ _ _ HG3.out HNE.out r.sch rfl).mono ?_;rintro e w4 ⟨rfl,hb4⟩;refine ⟨_,rfl,?_⟩;have hu4 := HU3.out.below hb4;have HU4 := Aside0.mk hu4;have q0 := (blk_cell hu4.r0 0).trans rfl;have z0 := blk_frozen hu4.r0 0;have q1 := (blk_cell hu4.r0 1).trans rfl;have z1 := blk_frozen hu4.r0 1;have q2 := (blk_cell hu4.r0 2).trans rfl;have z2 := blk_frozen hu4.r0 2;have q3 := (blk_cell hu4.r0 3).trans rfl;have z3 := blk_frozen hu4.r0 3;have q4 := (blk_cell hu4.r0 4).trans rfl;have z4 := blk_frozen hu4.r0 4;have q5 := (blk_cell hu4.r0 5).trans rfl;have z5 := blk_frozen hu4.r0 5;have q6 := (blk_cell hu4.r0 6).trans rfl;have z6 := blk_frozen hu4.r0 6;have q7 := (blk_cell hu4.r0 7).trans rfl;have z7 := blk_frozen hu4.r0 7;have q8 := (blk_cell hu4.r1 0).trans rfl;have z8 := blk_frozen hu4.r1 0;clear hb4 hu4))
 refine leaves_cons (f := 29) (args := #[.pointer (some ⟨w.heap.size,0,none⟩),.pointer (some ⟨w.heap.size + 1,0,none⟩)]) (by simp) (by simp [go_sem]) ?_
 refine (uriOf_idle w.heap.size (w.heap.size + 1) _).mono ?_
 rintro e u' w'' ⟨rfl,rfl,rfl⟩
 have hz : _ := blk_put (blk_put (blk_put (blk_put (blk_put (blk_put (blk_put (blk_put (HU4.out.r0) 0 (.string ⟨(r.sch).toArray⟩) rfl) 1 (.string ⟨(r.host).toArray⟩) rfl) 2 (.string ⟨(r.path).toArray⟩) rfl) 3 (.string ⟨(r.orig).toArray⟩) rfl) 4 (.string ⟨(r.query).toArray⟩) rfl) 5 (.string ⟨(r.hash).toArray⟩) rfl) 6 (.string ⟨(r.user).toArray⟩) rfl) 7 (.string ⟨(r.pass).toArray⟩) rfl
 have hy := (Below.heap_setCell _ ⟨w.heap.size + 1,0,none⟩ (.bool true) w.heap.size (by show w.heap.size ≠ w.heap.size + 1;omega)).trans hz
 have hx := blk_put (cs' := #[.bool true]) ((Below.heap_setCell _ ⟨w.heap.size,7,none⟩ (.string ⟨(r.pass).toArray⟩) (w.heap.size + 1) (by show w.heap.size + 1 ≠ w.heap.size;omega)).trans ((Below.heap_setCell _ ⟨w.heap.size,6,none⟩ (.string ⟨(r.user).toArray⟩) (w.heap.size + 1) (by show w.heap.size + 1 ≠ w.heap.size;omega)).trans ((Below.heap_setCell _ ⟨w.heap.size,5,none⟩ (.string ⟨(r.hash).toArray⟩) (w.heap.size + 1) (by show w.heap.size + 1 ≠ w.heap.size;omega)).trans ((Below.heap_setCell _ ⟨w.heap.size,4,none⟩ (.string ⟨(r.query).toArray⟩) (w.heap.size + 1) (by show w.heap.size + 1 ≠ w.heap.size;omega)).trans ((Below.heap_setCell _ ⟨w.heap.size,3,none⟩ (.string ⟨(r.orig).toArray⟩) (w.heap.size + 1) (by show w.heap.size + 1 ≠ w.heap.size;omega)).trans ((Below.heap_setCell _ ⟨w.heap.size,2,none⟩ (.string ⟨(r.path).toArray⟩) (w.heap.size + 1) (by show w.heap.size + 1 ≠ w.heap.size;omega)).trans ((Below.heap_setCell _ ⟨w.heap.size,1,none⟩ (.string ⟨(r.host).toArray⟩) (w.heap.size + 1) (by show w.heap.size + 1 ≠ w.heap.size;omega)).trans ((Below.heap_setCell _ ⟨w.heap.size,0,none⟩ (.string ⟨(r.sch).toArray⟩) (w.heap.size + 1) (by show w.heap.size + 1 ≠ w.heap.size;omega)).trans (HU4.out.r1))))))))) 0 (.bool true) rfl
 have hfin2 : Below w.heap.size w _ := (((((((((HU4.out.be).setCell (p := ⟨w.heap.size,0,none⟩) (Nat.le_refl _) (.string ⟨(r.sch).toArray⟩)).setCell (p := ⟨w.heap.size,1,none⟩) (Nat.le_refl _) (.string ⟨(r.host).toArray⟩)).setCell (p := ⟨w.heap.size,2,none⟩) (Nat.le_refl _) (.string ⟨(r.path).toArray⟩)).setCell (p := ⟨w.heap.size,3,none⟩) (Nat.le_refl _) (.string ⟨(r.orig).toArray⟩)).setCell (p := ⟨w.heap.size,4,none⟩) (Nat.le_refl _) (.string ⟨(r.query).toArray⟩)).setCell (p := ⟨w.heap.size,5,none⟩) (Nat.le_refl _) (.string ⟨(r.hash).toArray⟩)).setCell (p := ⟨w.heap.size,6,none⟩) (Nat.le_refl _) (.string ⟨(r.user).toArray⟩)).setCell (p := ⟨w.heap.size,7,none⟩) (Nat.le_refl _) (.string ⟨(r.pass).toArray⟩)).setCell (p := ⟨w.heap.size + 1,0,none⟩) (Nat.le_succ _) (.bool true)
 clear hz q0 z0 q1 z1 q2 z2 q3 z3 q4 z4 q5 z5 q6 z6 q7 z7 q8 z8
 generalize ((((((((((w4).setCell ⟨w.heap.size,0,none⟩ (.string ⟨(r.sch).toArray⟩)).setCell ⟨w.heap.size,1,none⟩ (.string ⟨(r.host).toArray⟩)).setCell ⟨w.heap.size,2,none⟩ (.string ⟨(r.path).toArray⟩)).setCell ⟨w.heap.size,3,none⟩ (.string ⟨(r.orig).toArray⟩)).setCell ⟨w.heap.size,4,none⟩ (.string ⟨(r.query).toArray⟩)).setCell ⟨w.heap.size,5,none⟩ (.string ⟨(r.hash).toArray⟩)).setCell ⟨w.heap.size,6,none⟩ (.string ⟨(r.user).toArray⟩)).setCell ⟨w.heap.size,7,none⟩ (.string ⟨(r.pass).toArray⟩)).setCell ⟨w.heap.size + 1,0,none⟩ (.bool true)) = W9 at hy hx hfin2 ⊢
 have r0 := (blk_cell hy 0).trans rfl
 have r1 := (blk_cell hy 1).trans rfl
 have r2 := (blk_cell hy 2).trans rfl
 have r3 := (blk_cell hy 3).trans rfl
 have r4 := (blk_cell hy 4).trans rfl
 have r5 := (blk_cell hy 5).trans rfl
 have r6 := (blk_cell hy 6).trans rfl
 have r7 := (blk_cell hy 7).trans rfl
 have s0 := (blk_cell hx 0).trans rfl
 clear hy hx
 simp [Leaves,settle,results,Try.results18,go_sem,r0,r1,r2,r3,r4,r5,r6,r7,s0]
 exact hfin2
end Go.Proofs.Ytbkeakeldegkeaa.Q
end
section
namespace Go.Proofs.Ytbkeakeldegkeaa.Q
open Go.RowKit Go.Proofs.YtbkeakeldegkeaaW.PrintWords Go.Proofs.YtbkeakeldegkeaaW.PrintLast Go.Proofs.YtbkeakeldegkeaaW.PrintMore
attribute [local go_sem] max2_int min2_int max_two min_two max_three min_three max_four min_four
def impl_UriOf.f (a0 : ByteArray) (a1 : ByteArray) : Option (ByteArray × ByteArray × ByteArray × ByteArray × ByteArray × ByteArray × ByteArray × ByteArray × Bool) := if (a0.size ≤ 3000000000 ∧ a1.size ≤ 3000000000) ∧ a1.data.toList.any Go.Proofs.Ytbkeakeldegkeaa.SpA.isCtl = false then (match Go.Proofs.Ytbkeakeldegkeaa.SpA.parseU a0.data.toList a1.data.toList with|none => none|some u => if u.orig.length ≤ 2147483647 then some (⟨(u.sch).toArray⟩,⟨(u.host).toArray⟩,⟨(u.path).toArray⟩,⟨(u.orig).toArray⟩,⟨(u.query).toArray⟩,⟨(u.hash).toArray⟩,⟨(u.user).toArray⟩,⟨(u.pass).toArray⟩,true) else none) else none
theorem impl_UriOf.calls (a0 : ByteArray) (a1 : ByteArray) (r1 : ByteArray) (r2 : ByteArray) (r3 : ByteArray) (r4 : ByteArray) (r5 : ByteArray) (r6 : ByteArray) (r7 : ByteArray) (r8 : ByteArray) (r9 : Bool) (w : World) (h : impl_UriOf.f a0 a1 = some (r1,r2,r3,r4,r5,r6,r7,r8,r9)) :
  Calls Try.prog 18 #[.string a0,.string a1] w fun e w' => e = .returned (.tuple #[.agg #[.string r1,.string r2,.string r3,.string r4,.string r5,.string r6,.string r7,.string r8],.bool r9]) ∧ Below w.heap.size w w' := by
 unfold impl_UriOf.f at h
 split at h
 ·
  rename_i hc
  cases hp : Go.Proofs.Ytbkeakeldegkeaa.SpA.parseU a0.data.toList a1.data.toList with
  | none => rw [hp] at h;cases h
  | some u =>
   rw [hp] at h
   simp only at h
   split at h
   ·
    have hk := uriOf_calls a0 a1 w hc.1.1 hc.1.2 u hp (Go.Proofs.Ytbkeakeldegkeaa.SpA.parse_path hp hc.2) (by assumption)
    cases h
    exact hk
   cases h
 cases h
end Go.Proofs.Ytbkeakeldegkeaa.Q
end
