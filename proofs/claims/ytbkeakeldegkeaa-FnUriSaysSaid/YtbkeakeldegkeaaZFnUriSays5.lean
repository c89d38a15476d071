/- FnUriSays: the law's function, called with any arguments, returns true and leaves its arguments as they were: every input, no condition. Part 6 of 16. -/
import Derived.Test.YtbkeakeldegkeaaZFnUriSays4
import Derived.Deep.RegionLaw
import Derived.Deep.DeepCutAuto
set_option linter.unusedVariables false
set_option linter.unusedSimpArgs false
section
namespace Go.Proofs.Ytbkeakeldegkeaa.Q
open Go.RowKit Go.Proofs.YtbkeakeldegkeaaW.PrintWords Go.Proofs.YtbkeakeldegkeaaW.PrintLast Go.Proofs.YtbkeakeldegkeaaW.PrintMore
open Go.Proofs.Ytbkeakeldegkeaa.SpA (toI toI_length toI_append lowU)
open Go.Proofs.Ytbkeakeldegkeaa.Ob
def isRow (i : Nat) : Bool := i == 0 || i == 1 || i == 2 || i == 3 || i == 4 || i == 5 || i == 12 || i == 13
def OS (g : Nat) (vals : List Value) (j : Nat) : Prop := j = g ∨ ∃ i v,isRow i = true ∧ vals[i]? = some v ∧ v.ownBlock = some j
structure PStep (g : Nat) (W : World) (vals : List Value) (W2 : World) (vals2 : List Value) : Prop where
 on : Only (OS g vals) W W2
 grow : ∀ k,OS g vals2 k → OS g vals k ∨ W.heap.size ≤ k
section
variable {g : Nat} {W W1 W2 W3 : World} {vals vals2 vals3 : List Value} {T : TypeId} {rows : List (Option (Bool × List UInt8))}
theorem PStep.refl (g : Nat) (W : World) (vals : List Value) : PStep g W vals W vals := ⟨Only.refl _ _,fun k h => .inl h⟩
theorem PStep.trans (h : PStep g W vals W2 vals2) (k : PStep g W2 vals2 W3 vals3) : PStep g W vals W3 vals3 := by
 refine ⟨h.on.trans k.on fun i hi hs => ?_,fun j hj => ?_⟩
 ·
  rcases h.grow i hs with h1|h1
  ·
   exact h1
  omega
 rcases k.grow j hj with h1|h1
 ·
  exact h.grow j h1
 exact .inr (Nat.le_trans h.on.size h1)
theorem PStep.below (hb : Below W.heap.size W W2) : PStep g W vals W2 vals := ⟨Only.of_below hb,fun k h => .inl h⟩
theorem VW.step {A : Option Addr} {n c : Nat} {l : List UInt8} (h : VW (OS g vals) W A n c l) (k : PStep g W vals W2 vals2) : VW (OS g vals2) W2 A n c l := by
 refine ⟨h.len,h.cap,fun W3 ho => h.rd W3 ?_⟩
 refine k.on.trans ho fun i hi hs => ?_
 rcases k.grow i hs with h1|h1
 ·
  exact h1
 omega
theorem OS_set {i : Nat} {v v1 : Value} {k : Nat} (hi : isRow i = true) (hv : vals[i]? = some v) (h : OS g (vals.set i v1) k) : OS g vals k ∨ v1.ownBlock = some k := by
 rcases h with h|⟨j,u,hj,hu,hk⟩
 ·
  exact .inl (.inl h)
 by_cases e : i = j
 ·
  subst e
  rw [List.getElem?_set,if_pos rfl] at hu
  split at hu
  ·
   cases hu;exact .inr hk
  cases hu
 rw [List.getElem?_set,if_neg e] at hu
 exact .inl (.inr ⟨j,u,hj,hu,hk⟩)
theorem OS_put {i : Nat} {v1 : Value} {k : Nat} (h1 : v1.ownBlock = none) (h : OS g (vals.set i v1) k) : OS g vals k := by
 rcases h with h|⟨j,u,hj,hu,hk⟩
 ·
  exact .inl h
 by_cases e : i = j
 ·
  subst e
  rw [List.getElem?_set,if_pos rfl] at hu
  split at hu
  ·
   cases hu;rw [h1] at hk;cases hk
  cases hu
 rw [List.getElem?_set,if_neg e] at hu
 exact .inr ⟨j,u,hj,hu,hk⟩
theorem PStep.row {i : Nat} {v v0 v1 : Value} (hi : isRow i = true) (hv : vals[i]? = some v0) (hsame : v.ownBlock = v0.ownBlock) (ho : Only (fun j => v.ownBlock = some j) W W1) (hat : v1.ownBlock = v.ownBlock ∨ ∃ b,v1.ownBlock = some b ∧ W.heap.size ≤ b) :
  PStep g W vals (W1.setCell ⟨g,i,none⟩ v1) (vals.set i v1) := by
 refine ⟨Only.set (ho.mono fun j _ h => .inr ⟨i,v0,hi,hv,by rw [← hsame];exact h⟩) (.inl (.inl rfl)) _ _,fun k hk => ?_⟩
 rcases OS_set hi hv hk with h|h
 ·
  exact .inl h
 rcases hat with e|⟨b,e,hb⟩
 ·
  exact .inl (.inr ⟨i,v0,hi,hv,by rw [← hsame,← e];exact h⟩)
 rw [e] at h;cases h;exact .inr hb
theorem PStep.put {i : Nat} {v1 : Value} (h1 : v1.ownBlock = none) : PStep g W vals (W.setCell ⟨g,i,none⟩ v1) (vals.set i v1) :=
 ⟨Only.set (Only.refl _ _) (.inl (.inl rfl)) _ _,fun k hk => .inl (OS_put h1 hk)⟩
theorem PStep.turn {i : Nat} {v : Value} (hi : isRow i = true) (hv : vals[i]? = some v) (ho : Only (fun j => v.ownBlock = some j) W W1) : PStep g W vals W1 vals :=
 ⟨ho.mono fun j _ h => .inr ⟨i,v,hi,hv,h⟩,fun k h => .inl h⟩
theorem OBJ.turn (h : OBJ W g T vals rows) (hT : T ≠ 5) {i : Nat} {v : Value} {b : Bool} {l l1 : List UInt8} (hr : rows[i]? = some (some (b,l))) (hv : vals[i]? = some v) (ho : Only (fun j => v.ownBlock = some j) W W1) (hb : RW b W1 v l1) : OBJ W1 g T vals (rows.set i (some (b,l1))) := by
 have ha := h.apart hT i hr hv (u := v) rfl
 have hd := (h.drop i).only ha ho
 refine ⟨hd.heap,fun j c m hj => ?_,fun a c la lc va vc k hra hrc hac hva hvc hka => ?_⟩
 ·
  by_cases e : i = j
  ·
   subst e
   rw [List.getElem?_set,if_pos rfl] at hj
   split at hj
   ·
    cases hj;exact ⟨v,hv,hb⟩
   cases hj
  rw [List.getElem?_set,if_neg e] at hj
  exact hd.row j c m (by rw [List.getElem?_set,if_neg e];exact hj)
 have old : ∀ (j : Nat) m,(rows.set i (some (b,l1)))[j]? = some (some m) → ∃ m',rows[j]? = some (some m') := fun j m hj => by
  by_cases e : i = j
  ·
   subst e;exact ⟨_,hr⟩
  rw [List.getElem?_set,if_neg e] at hj;exact ⟨m,hj⟩
 obtain ⟨la',ha'⟩ := old a la hra
 obtain ⟨lc',hc'⟩ := old c lc hrc
 exact h.sep a c la' lc' va vc k ha' hc' hac hva hvc hka
theorem ur_app {i : Nat} {A : Option Addr} {n n' c : Nat} {l l1 : List UInt8} {v1 : Value} (h : OBJ W g T vals rows) (hT : T ≠ 5) (hi : isRow i = true) (hr : rows[i]? = some (some (true,l))) (hv : vals[i]? = some (.slice A n c)) (hb : BV W1 v1 l1) (ho : Only (fun j => (Value.slice A n' c).ownBlock = some j) W W1) (hat : v1.ownBlock = (Value.slice A n' c).ownBlock ∨ ∃ b,v1.ownBlock = some b ∧ W.heap.size ≤ b) :
  OBJ W1 g T vals (rows.set i none) ∧ OBJ (W1.setCell ⟨g,i,none⟩ v1) g T (vals.set i v1) (rows.set i (some (true,l1))) ∧ PStep g W vals (W1.setCell ⟨g,i,none⟩ v1) (vals.set i v1) := by
 have hsame : (Value.slice A n' c).ownBlock = (Value.slice A n c).ownBlock := by cases A <;> rfl
 obtain ⟨h1,h2⟩ := OBJ.refill h hT i hr hv hsame ho hat
 have hlen : i < vals.length := by rcases Nat.lt_or_ge i vals.length with h1|h1;exact h1;rw [List.getElem?_eq_none h1] at hv;cases hv
 exact ⟨h1,OBJ.restore hT i hlen h1 h2 (BV.rw hb),PStep.row hi hv hsame ho hat⟩
end
theorem step_app_BV {P : Program} {ops : Array Oper} {o : Oper} {a : Act} {w : World} {K : Act → World → Prop} {Q : Exit → Act → World → Prop}
  (hgd : o.guard = none) (s x : Operand) (t : TypeId) (ho : o.op = .call { callee := .builtin .append,args := #[s,x],argTypes := #[t,t] })
  (ht : P.underlying t = some (.slice 5)) (hinfo : (P.info? 5).map (fun i => (i.zero,i.size,i.bytes)) = some (some (.int .u8 0),1,1))
  (v : Value) (l m : List UInt8) (A : Option Addr) (n c : Nat) (hs : a.eval s = v) (hx : a.eval x = .slice A n c) (hv : BV w v l) (hm : Kd.C (Kd.int .u8) w A n (toI m)) (hl : l.length + m.length ≤ 140737488355328)
  (h : ∀ v1 W1,BV W1 v1 (l ++ m) → Only (fun j => v.ownBlock = some j) w W1 → (v1.ownBlock = v.ownBlock ∨ ∃ b,v1.ownBlock = some b ∧ w.heap.size ≤ b) → K (a.put o.dst v1) W1) :
  if Region.wanted o (yielded ops a.tmps) = true then Oper.wp P o a w K Q else K (a.put o.dst undef) w := by
 have hn : n = m.length := by have := hm.1;rw [toI_length] at this;exact this.symm
 refine Kd.R_append_rows_step (Kd.int .u8) (w0 := w) 0 (by simp [Region.wanted,hgd]) s x t 5 (.int .u8 0) 1 ho ht hinfo rfl (by decide) (by omega) v (toI l) (toI m) A n c (fun _ => True) (fun _ => False) hs hx hv.R hm (fun _ _ h => h) (fun _ h => h.elim) (fun _ _ => trivial) (Below.refl _ _) (Nat.zero_le _) (by rw [toI_length,hn];omega) ?_
 intro v1 w1 hr _ hg hat
 exact h v1 w1 (BV.of_R (by rw [toI_append];exact hr)) (Only.of_grown hg) hat
theorem ctl_l (l : List UInt8) (hl : l.length ≤ 4611686018427387904) : ∀ (suf pre : List UInt8),l = pre ++ suf → Ev (fun k => hertzproto_stringContainsCTLByte.l0 k (toI l) (pre.length : Int)) (suf.any SpA.isCtl) := by
 intro suf
 induction suf with
 | nil =>
  intro pre h
  refine Ev.step (f := fun _ => some false) (fun k => ?_) (Ev.now _)
  simp only [hertzproto_stringContainsCTLByte.l0,toI_length]
  rw [if_neg (by rw [h];simp)]
 | cons c t ih =>
  intro pre h
  have hlen : l.length = pre.length + (t.length + 1) := by rw [h];simp
  have hrd := SpA.rd_at h (pre.length : Int) rfl
  have hany : (c :: t).any SpA.isCtl = (SpA.isCtl c || t.any SpA.isCtl) := rfl
  rw [hany]
  by_cases h1 : c.toNat < 32
  ·
   rw [show SpA.isCtl c = true by simp [SpA.isCtl,h1]]
   refine Ev.step (f := fun _ => some true) (fun k => ?_) (Ev.now _)
   simp only [hertzproto_stringContainsCTLByte.l0,toI_length]
   rw [if_pos (by omega),if_pos (by omega),hrd,if_pos (by omega)]
  by_cases h2 : c = 127
  ·
   subst h2
   refine Ev.step (f := fun _ => some true) (fun k => ?_) (Ev.now _)
   simp only [hertzproto_stringContainsCTLByte.l0,toI_length]
   rw [if_pos (by omega),if_pos (by omega),hrd,if_neg (by omega),if_pos (by decide)]
  have hc : SpA.isCtl c = false := by simp [SpA.isCtl,h1,h2]
  have h3 : ¬ (c.toNat : Int) = 127 := fun e => h2 (UInt8.toNat_inj.1 (by show c.toNat = 127;omega))
  rw [hc,Bool.false_or]
  have ih' := ih (pre ++ [c]) (by rw [h];simp)
  rw [show (pre ++ [c]).length = pre.length + 1 by simp] at ih'
  refine Ev.step (fun k => ?_) ih'
  simp only [hertzproto_stringContainsCTLByte.l0,toI_length]
  rw [if_pos (by omega),if_pos (by omega),hrd,if_neg (by omega),if_neg h3,Go.Proofs.YtbkeakeldegkeaaKit.wrap_id (by omega) (by omega)]
  rfl
theorem ctl_VW {S : Nat → Prop} {w : World} {A : Option Addr} {n c : Nat} {l : List UInt8} (h : VW S w A n c l) (hl : l.length ≤ 4611686018427387904) (r : Bool) (hr : l.any SpA.isCtl = r) :
  Calls Try.prog 78 #[.slice A n c] w fun e w' => e = .returned (.bool r) ∧ Drawn0 w w' := by
 subst hr
 obtain ⟨q,hq⟩ := ctl_l l hl l [] rfl
 have h1 := h.C
 have e1 : n = (toI l).length := by rw [toI_length];exact h.len
 have c1 := h.cap
 rw [e1] at h1 c1 ⊢
 exact hertzproto_stringContainsCTLByte.calls q A c (toI l) _ w h1 c1 (hq q (Nat.le_refl _))
theorem norm_of (w : World) (A : Option Addr) (n c : Nat) (l : List UInt8) (hC : Kd.C (Kd.int .u8) w A n (toI l)) (hc : n ≤ c) (hl : l.length ≤ 2147483647) : Calls Try.prog 74 #[.slice none 0 0,.slice A n c] w (NormPost w (SpA.norm l)) := by
 have hn : (toI l).length = n := hC.1
 subst hn
 obtain ⟨k,hk⟩ := SpA.dec_f (SpA.lead l) l (SpA.lead_len l) (by omega)
 exact norm_calls k A c l (SpA.lead l) (SpA.lead l ++ SpA.dec l) w hC hc (SpA.lead_f l) (hk k (Nat.le_refl k)) (SpA.lead_slash l) (by have h1 := SpA.lead_len l;have h2 := SpA.dec_len l.length l (Nat.le_refl _);simp;omega)
theorem norm_len2 (l : List UInt8) : (SpA.norm l).length ≤ l.length + 2 := by
 have h1 := SpA.lead_len l
 have h2 := SpA.dec_len l.length l (Nat.le_refl _)
 have h3 := Cl.clean_len (SpA.lead l ++ SpA.dec l)
 unfold SpA.norm
 rw [List.length_append] at h3
 omega
def NormInto (f : Bool) (dst : Value) : Prop := ∀ (W : World) (b : Bool) (A : Option Addr) (n c : Nat) (l : List UInt8),RW f W dst [] → VW (fun j => dst.ownBlock = some j) W A n c l → l.length ≤ 2147483647 →
  Calls Try.prog 74 #[dst,.slice A n c] W fun e w' => ∃ B m d,e = .returned (.slice B m d) ∧ RW f w' (.slice B m d) (SpA.norm l) ∧ Only (fun j => dst.ownBlock = some j) W w' ∧ ((Value.slice B m d).ownBlock = dst.ownBlock ∨ ∃ b,(Value.slice B m d).ownBlock = some b ∧ W.heap.size ≤ b)
theorem normInto_nil : NormInto false (.slice none 0 0) := fun W b A n c l _ hv hl =>
 (norm_of W A n c l hv.C hv.cap hl).mono fun e w' ⟨g,d,he,hb,hbl,hg,hd⟩ => ⟨some ⟨g,0,none⟩,(SpA.norm l).length,d,he,⟨.inr ⟨g,d,rfl,hd,hb⟩,by have := norm_len2 l;omega⟩,Only.of_below hbl,.inr ⟨g,rfl,hg⟩⟩
end Go.Proofs.Ytbkeakeldegkeaa.Q
end
section
namespace Go.Proofs.Ytbkeakeldegkeaa.Q
open Go.RowKit Go.Proofs.YtbkeakeldegkeaaW.PrintWords Go.Proofs.YtbkeakeldegkeaaW.PrintLast Go.Proofs.YtbkeakeldegkeaaW.PrintMore
open Go.Proofs.Ytbkeakeldegkeaa.SpA (toI toI_length toI_append lowU UR ix schEnd schEnd_lt isAl isSg upto past ib_none ib_some upto_none upto_some past_none ix1)
open Go.Proofs.Ytbkeakeldegkeaa.Ob
set_option maxHeartbeats 8000000 in
set_option maxRecDepth 100000 in
theorem chk_calls {S : Nat → Prop} (w : World) (A : Option Addr) (n c i : Nat) (l : List UInt8) (x : Int) (hx : x = (i : Int)) (h : VW S w A n c l) (hi : 0 < i) (hl : i < l.length) :
  Calls Try.prog 109 #[.int .i64 x,.slice A n c] w fun e w' => (∃ B m d,e = .returned (.tuple #[.slice A i c,.slice B m d]) ∧ VW S w' B m d (l.drop (i + 1))) ∧ Below w.heap.size w w' := by
 obtain ⟨i0,hi0,_,hsz0,_⟩ := info_parts info5
 have hn := h.len
 have hb := h.bound
 obtain ⟨hr1,hv1⟩ := h.cutTo Try.underlying49 hi0 i x hx (by omega)
 have hw : wrap64 (x + 1) = x + 1 := by unfold wrap64;omega
 have hwp : IntKind.i64.wrap (x + 1) = x + 1 := (YtbkeakeldegkeaaX.wrap_i64 _).trans hw
 obtain ⟨B,m,d,hr2,hv2⟩ := h.cutFrom Try.underlying49 hi0 hsz0 (i + 1) (x + 1) (by omega) (by omega)
 have h0 : (x == 0) = false := beq_eq_false_iff_ne.2 (by omega)
 have HV := Aside0.mk hv2
 have HB := Aside0.mk (Below.refl w.heap.size w)
 clear h hn hb hv1 hv2 hi0 hsz0 hi hl hx
 go_enter Try.func109,Try.ntmps109
 go_wp2
 go_quiet (fail)
 go_wp2
 go_ret2
 exact ⟨⟨B,m,d,rfl,HV.out.below (bl_ HB.out)⟩,bl_ HB.out⟩
set_option maxHeartbeats 8000000 in
set_option maxRecDepth 100000 in
theorem chk0_calls (w : World) (A : Option Addr) (n c : Nat) (x : Int) (hx : x = 0) :
  Calls Try.prog 109 #[.int .i64 x,.slice A n c] w fun e w' => e = .returned (.tuple #[.slice none 0 0,.slice none 0 0]) ∧ Below w.heap.size w w' := by
 subst hx
 have h0 : ((0 : Int) == 0) = true := rfl
 have HB := Aside0.mk (Below.refl w.heap.size w)
 go_enter Try.func109,Try.ntmps109
 go_wp2
 go_ret2
 exact ⟨rfl,HB.out⟩
def GSPost (S : Nat → Prop) (w : World) (A : Option Addr) (c : Nat) (l : List UInt8) (e : Ending) (w' : World) : Prop := ((schEnd 0 l = none ∧ ∃ P,e = .returned (.tuple #[.slice none 0 0,P])) ∨ ∃ i B m d,schEnd 0 l = some i ∧ e = .returned (.tuple #[.slice A i c,.slice B m d]) ∧ VW S w' B m d (l.drop (i + 1))) ∧ Below w.heap.size w w'
theorem sch_cons (k : Nat) (l : List UInt8) (h : k < l.length) : schEnd k (l.drop k) = schEnd k (l[k] :: l.drop (k + 1)) := by rw [List.drop_eq_getElem_cons h]
set_option maxHeartbeats 16000000 in
set_option maxRecDepth 100000 in
theorem getScheme_calls {S : Nat → Prop} (w : World) (A : Option Addr) (n c : Nat) (l : List UInt8) (h : VW S w A n c l) :
  Calls Try.prog 101 #[.slice A n c] w (GSPost S w A c l) := by
 have HV := Aside0.mk h
 have hn := h.len
 have hb := h.bound
 have HN := Aside0.mk hn
 have HBD := Aside0.mk hb
 have HB := Aside0.mk (Below.refl w.heap.size w)
 clear h hn hb
 go_enter Try.func101,Try.ntmps101
 go_wp2
 go_loopw [4] (fun s4 wr => ∃ k : Nat,s4 = .int .i64 (k : Int) ∧ Aside0 (k ≤ l.length) ∧ Aside0 (schEnd 0 l = schEnd k (l.drop k)) ∧ Aside0 (Below w.heap.size w wr)) (fun s4 _ => (l.length - (intOf s4)).toNat)
 case atStart => exact ⟨0,rfl,⟨Nat.zero_le _⟩,⟨rfl⟩,HB⟩
 case round =>
  clear HB
  obtain ⟨k,rfl,HK,HE,HB⟩ := hrel
  obtain ⟨x9,hx9⟩ : ∃ x : Int,x = (k : Int) := ⟨_,rfl⟩
  rw [← hx9]
  have HX := Aside0.mk hx9
  by_cases hlt : k < l.length
  ·
   have hsl := HN.out
   have c1 : decide (x9 < (n : Int)) = true := decide_eq_true (by omega)
   have hv := HV.out.below HB.out
   have hc := hv.C
   have h0 : 0 ≤ x9 := by omega
   have h1 : x9 < ((toI l).length : Int) := by rw [toI_length];omega
   have e1 : n = (toI l).length := by rw [toI_length];exact hsl
   rw [e1] at hc
   obtain ⟨ad,had,hcell⟩ := Kd.at_int hc x9 h0 h1
   have hrd : rd (toI l) x9 = (l[k].toNat : Int) := SpA.rd_at (pre := l.take k) (t := l.drop (k + 1)) (by rw [List.getElem_cons_drop,List.take_append_drop]) x9 (by rw [hx9,List.length_take,Nat.min_eq_left (Nat.le_of_lt hlt)])
   obtain ⟨b,hbk⟩ : ∃ b : UInt8,b = l[k] := ⟨_,rfl⟩
   obtain ⟨x,hx⟩ : ∃ x : Int,x = (b.toNat : Int) := ⟨_,rfl⟩
   rw [hrd,← hbk,← hx] at hcell
   have HXB := Aside0.mk hx
   have HEC : Aside0 (schEnd 0 l = schEnd k (b :: l.drop (k + 1))) := ⟨by rw [HE.out,sch_cons k l hlt,hbk]⟩
   have HLT := Aside0.mk hlt
   have HVW := Aside0.mk hv
   have HW : Aside0 (wrap64 (x9 + 1) = ((k + 1 : Nat) : Int)) := ⟨by have h1 := HBD.out;rw [hx9];unfold wrap64;omega⟩
   have p1 : (0 ≤ x9) = True := eq_true h0
   have q1 : (x9 < (n : Int)) = True := eq_true (by omega)
   have hx256 : x < 256 := by have := b.toNat_lt;omega
   have hx0 : 0 ≤ x := by omega
   cases had
   clear HE hx9 hsl hc hrd hbk h0 h1 e1 hlt hv
   rcases (by omega : (97 ≤ x ∧ x ≤ 122) ∨ (65 ≤ x ∧ x ≤ 90) ∨ (48 ≤ x ∧ x ≤ 57) ∨ x = 43 ∨ x = 45 ∨ x = 46 ∨ x = 58 ∨ (x < 48 ∧ x ≠ 43 ∧ x ≠ 45 ∧ x ≠ 46) ∨ (59 ≤ x ∧ x ≤ 64) ∨ (91 ≤ x ∧ x ≤ 96) ∨ 123 ≤ x) with hc|hc|hc|hc|hc|hc|hc|hc|hc|hc|hc
   ·
    have t0 : decide (97 ≤ x) = true := decide_eq_true (by omega)
    have t1 : decide (x ≤ 122) = true := decide_eq_true (by omega)
    have t2 : decide (65 ≤ x) = true := decide_eq_true (by omega)
    have t3 : decide (x ≤ 90) = false := decide_eq_false (by omega)
    have t4 : decide (48 ≤ x) = true := decide_eq_true (by omega)
    have t5 : decide (x ≤ 57) = false := decide_eq_false (by omega)
    have t6 : (x == 43) = false := beq_eq_false_iff_ne.2 (by omega)
    have t7 : (x == 45) = false := beq_eq_false_iff_ne.2 (by omega)
    have t8 : (x == 46) = false := beq_eq_false_iff_ne.2 (by omega)
    have t9 : (x == 58) = false := beq_eq_false_iff_ne.2 (by omega)
    have HK2 : Aside0 (isAl b = true) := ⟨by simp only [isAl,Bool.or_eq_true,Bool.and_eq_true,decide_eq_true_eq];omega⟩
    clear hc hx
    go_wp2
    go_roundw
    case measure => show ((l.length : Int) - wrap64 (x9 + 1)).toNat < ((l.length : Int) - x9).toNat;rw [HW.out];have := HX.out;have := HLT.out;omega
    case rel => exact ⟨k + 1,congrArg (Value.int .i64) HW.out,⟨by have := HLT.out;omega⟩,⟨by rw [HEC.out,schEnd,if_pos HK2.out]⟩,⟨bl_ HB.out⟩⟩
   ·
    have t0 : decide (97 ≤ x) = false := decide_eq_false (by omega)
    have t1 : decide (x ≤ 122) = true := decide_eq_true (by omega)
    have t2 : decide (65 ≤ x) = true := decide_eq_true (by omega)
    have t3 : decide (x ≤ 90) = true := decide_eq_true (by omega)
    have t4 : decide (48 ≤ x) = true := decide_eq_true (by omega)
    have t5 : decide (x ≤ 57) = false := decide_eq_false (by omega)
    have t6 : (x == 43) = false := beq_eq_false_iff_ne.2 (by omega)
    have t7 : (x == 45) = false := beq_eq_false_iff_ne.2 (by omega)
    have t8 : (x == 46) = false := beq_eq_false_iff_ne.2 (by omega)
    have t9 : (x == 58) = false := beq_eq_false_iff_ne.2 (by omega)
    have HK2 : Aside0 (isAl b = true) := ⟨by simp only [isAl,Bool.or_eq_true,Bool.and_eq_true,decide_eq_true_eq];omega⟩
    clear hc hx
    go_wp2
    go_roundw
    case measure => show ((l.length : Int) - wrap64 (x9 + 1)).toNat < ((l.length : Int) - x9).toNat;rw [HW.out];have := HX.out;have := HLT.out;omega
    case rel => exact ⟨k + 1,congrArg (Value.int .i64) HW.out,⟨by have := HLT.out;omega⟩,⟨by rw [HEC.out,schEnd,if_pos HK2.out]⟩,⟨bl_ HB.out⟩⟩
   ·
    have t0 : decide (97 ≤ x) = false := decide_eq_false (by omega)
    have t1 : decide (x ≤ 122) = true := decide_eq_true (by omega)
    have t2 : decide (65 ≤ x) = false := decide_eq_false (by omega)
    have t3 : decide (x ≤ 90) = true := decide_eq_true (by omega)
    have t4 : decide (48 ≤ x) = true := decide_eq_true (by omega)
    have t5 : decide (x ≤ 57) = true := decide_eq_true (by omega)
    have t6 : (x == 43) = false := beq_eq_false_iff_ne.2 (by omega)
    have t7 : (x == 45) = false := beq_eq_false_iff_ne.2 (by omega)
    have t8 : (x == 46) = false := beq_eq_false_iff_ne.2 (by omega)
    have t9 : (x == 58) = false := beq_eq_false_iff_ne.2 (by omega)
    have HNA : Aside0 (isAl b = false) := ⟨by simp only [isAl,Bool.or_eq_false_iff,Bool.and_eq_false_iff,decide_eq_false_iff_not];omega⟩
    have HK2 : Aside0 (isSg b = true) := ⟨by unfold isSg;rw [show (decide (48 ≤ b.toNat) && decide (b.toNat ≤ 57)) = true by simp;omega];rfl⟩
    clear hc hx
    by_cases hk0 : k = 0
    ·
     have z0 : (x9 == 0) = true := beq_iff_eq.2 (by have := HX.out;omega)
     have HZ := Aside0.mk hk0
     clear hk0
     go_wp2
     go_ret2
     exact ⟨.inl ⟨by rw [HEC.out,schEnd,if_neg (by rw [HNA.out];simp),if_pos HK2.out,if_pos HZ.out],_,rfl⟩,bl_ HB.out⟩
    have z0 : (x9 == 0) = false := beq_eq_false_iff_ne.2 (by have := HX.out;omega)
    have HZ := Aside0.mk hk0
    clear hk0
    go_wp2
    go_roundw
    case measure => show ((l.length : Int) - wrap64 (x9 + 1)).toNat < ((l.length : Int) - x9).toNat;rw [HW.out];have := HX.out;have := HLT.out;omega
    case rel => exact ⟨k + 1,congrArg (Value.int .i64) HW.out,⟨by have := HLT.out;omega⟩,⟨by rw [HEC.out,schEnd,if_neg (by rw [HNA.out];simp),if_pos HK2.out,if_neg HZ.out]⟩,⟨bl_ HB.out⟩⟩
   ·
    have t0 : decide (97 ≤ x) = false := decide_eq_false (by omega)
    have t1 : decide (x ≤ 122) = true := decide_eq_true (by omega)
    have t2 : decide (65 ≤ x) = false := decide_eq_false (by omega)
    have t3 : decide (x ≤ 90) = true := decide_eq_true (by omega)
    have t4 : decide (48 ≤ x) = false := decide_eq_false (by omega)
    have t5 : decide (x ≤ 57) = true := decide_eq_true (by omega)
    have t6 : (x == 43) = true := beq_iff_eq.2 (by omega)
    have t7 : (x == 45) = false := beq_eq_false_iff_ne.2 (by omega)
    have t8 : (x == 46) = false := beq_eq_false_iff_ne.2 (by omega)
    have t9 : (x == 58) = false := beq_eq_false_iff_ne.2 (by omega)
    have HNA : Aside0 (isAl b = false) := ⟨by simp only [isAl,Bool.or_eq_false_iff,Bool.and_eq_false_iff,decide_eq_false_iff_not];omega⟩
    have HK2 : Aside0 (isSg b = true) := ⟨by rw [show b = 43 from UInt8.toNat_inj.1 (by show b.toNat = 43;omega)];rfl⟩
    clear hc hx
    by_cases hk0 : k = 0
    ·
     have z0 : (x9 == 0) = true := beq_iff_eq.2 (by have := HX.out;omega)
     have HZ := Aside0.mk hk0
     clear hk0
     go_wp2
     go_ret2
     exact ⟨.inl ⟨by rw [HEC.out,schEnd,if_neg (by rw [HNA.out];simp),if_pos HK2.out,if_pos HZ.out],_,rfl⟩,bl_ HB.out⟩
    have z0 : (x9 == 0) = false := beq_eq_false_iff_ne.2 (by have := HX.out;omega)
    have HZ := Aside0.mk hk0
    clear hk0
    go_wp2
    go_roundw
    case measure => show ((l.length : Int) - wrap64 (x9 + 1)).toNat < ((l.length : Int) - x9).toNat;rw [HW.out];have := HX.out;have := HLT.out;omega
    case rel => exact ⟨k + 1,congrArg (Value.int .i64) HW.out,⟨by have := HLT.out;omega⟩,⟨by rw [HEC.out,schEnd,if_neg (by rw [HNA.out];simp),if_pos HK2.out,if_neg HZ.out]⟩,⟨bl_ HB.out⟩⟩
   ·
    have t0 : decide (97 ≤ x) = false := decide_eq_false (by omega)
    have t1 : decide (x ≤ 122) = true := decide_eq_true (by omega)
    have t2 : decide (65 ≤ x) = false := decide_eq_false (by omega)
    have t3 : decide (x ≤ 90) = true := decide_eq_true (by omega)
    have t4 : decide (48 ≤ x) = false := decide_eq_false (by omega)
    have t5 : decide (x ≤ 57) = true := decide_eq_true (by omega)
    have t6 : (x == 43) = false := beq_eq_false_iff_ne.2 (by omega)
    have t7 : (x == 45) = true := beq_iff_eq.2 (by omega)
    have t8 : (x == 46) = false := beq_eq_false_iff_ne.2 (by omega)
    have t9 : (x == 58) = false := beq_eq_false_iff_ne.2 (by omega)
    have HNA : Aside0 (isAl b = false) := ⟨by simp only [isAl,Bool.or_eq_false_iff,Bool.and_eq_false_iff,decide_eq_false_iff_not];omega⟩
    have HK2 : Aside0 (isSg b = true) := ⟨by rw [show b = 45 from UInt8.toNat_inj.1 (by show b.toNat = 45;omega)];rfl⟩
    clear hc hx
    by_cases hk0 : k = 0
    ·
     have z0 : (x9 == 0) = true := beq_iff_eq.2 (by have := HX.out;omega)
     have HZ := Aside0.mk hk0
     clear hk0
     go_wp2
     go_ret2
     exact ⟨.inl ⟨by rw [HEC.out,schEnd,if_neg (by rw [HNA.out];simp),if_pos HK2.out,if_pos HZ.out],_,rfl⟩,bl_ HB.out⟩
    have z0 : (x9 == 0) = false := beq_eq_false_iff_ne.2 (by have := HX.out;omega)
    have HZ := Aside0.mk hk0
    clear hk0
    go_wp2
    go_roundw
    case measure => show ((l.length : Int) - wrap64 (x9 + 1)).toNat < ((l.length : Int) - x9).toNat;rw [HW.out];have := HX.out;have := HLT.out;omega
    case rel => exact ⟨k + 1,congrArg (Value.int .i64) HW.out,⟨by have := HLT.out;omega⟩,⟨by rw [HEC.out,schEnd,if_neg (by rw [HNA.out];simp),if_pos HK2.out,if_neg HZ.out]⟩,⟨bl_ HB.out⟩⟩
   ·
    have t0 : decide (97 ≤ x) = false := decide_eq_false (by omega)
    have t1 : decide (x ≤ 122) = true := decide_eq_true (by omega)
    have t2 : decide (65 ≤ x) = false := decide_eq_false (by omega)
    have t3 : decide (x ≤ 90) = true := decide_eq_true (by omega)
    have t4 : decide (48 ≤ x) = false := decide_eq_false (by omega)
    have t5 : decide (x ≤ 57) = true := decide_eq_true (by omega)
    have t6 : (x == 43) = false := beq_eq_false_iff_ne.2 (by omega)
    have t7 : (x == 45) = false := beq_eq_false_iff_ne.2 (by omega)
    have t8 : (x == 46) = true := beq_iff_eq.2 (by omega)
    have t9 : (x == 58) = false := beq_eq_false_iff_ne.2 (by omega)
    have HNA : Aside0 (isAl b = false) := ⟨by simp only [isAl,Bool.or_eq_false_iff,Bool.and_eq_false_iff,decide_eq_false_iff_not];omega⟩
    have HK2 : Aside0 (isSg b = true) := ⟨by rw [show b = 46 from UInt8.toNat_inj.1 (by show b.toNat = 46;omega)];rfl⟩
    clear hc hx
    by_cases hk0 : k = 0
    ·
     have z0 : (x9 == 0) = true := beq_iff_eq.2 (by have := HX.out;omega)
     have HZ := Aside0.mk hk0
     clear hk0
     go_wp2
     go_ret2
     exact ⟨.inl ⟨by rw [HEC.out,schEnd,if_neg (by rw [HNA.out];simp),if_pos HK2.out,if_pos HZ.out],_,rfl⟩,bl_ HB.out⟩
    have z0 : (x9 == 0) = false := beq_eq_false_iff_ne.2 (by have := HX.out;omega)
    have HZ := Aside0.mk hk0
    clear hk0
    go_wp2
    go_roundw
    case measure => show ((l.length : Int) - wrap64 (x9 + 1)).toNat < ((l.length : Int) - x9).toNat;rw [HW.out];have := HX.out;have := HLT.out;omega
    case rel => exact ⟨k + 1,congrArg (Value.int .i64) HW.out,⟨by have := HLT.out;omega⟩,⟨by rw [HEC.out,schEnd,if_neg (by rw [HNA.out];simp),if_pos HK2.out,if_neg HZ.out]⟩,⟨bl_ HB.out⟩⟩
   ·
    have t0 : decide (97 ≤ x) = false := decide_eq_false (by omega)
    have t1 : decide (x ≤ 122) = true := decide_eq_true (by omega)
    have t2 : decide (65 ≤ x) = false := decide_eq_false (by omega)
    have t3 : decide (x ≤ 90) = true := decide_eq_true (by omega)
    have t4 : decide (48 ≤ x) = true := decide_eq_true (by omega)
    have t5 : decide (x ≤ 57) = false := decide_eq_false (by omega)
    have t6 : (x == 43) = false := beq_eq_false_iff_ne.2 (by omega)
    have t7 : (x == 45) = false := beq_eq_false_iff_ne.2 (by omega)
    have t8 : (x == 46) = false := beq_eq_false_iff_ne.2 (by omega)
    have t9 : (x == 58) = true := beq_iff_eq.2 (by omega)
    have HNA : Aside0 (isAl b = false) := ⟨by simp only [isAl,Bool.or_eq_false_iff,Bool.and_eq_false_iff,decide_eq_false_iff_not];omega⟩
    have HNS : Aside0 (isSg b = false) := ⟨by
     have z1 : ¬ b = 43 := fun e => by subst e;simp at hx;omega
     have z2 : ¬ b = 45 := fun e => by subst e;simp at hx;omega
     have z3 : ¬ b = 46 := fun e => by subst e;simp at hx;omega
     unfold isSg;simp [z1,z2,z3];omega⟩
    have HK2 : Aside0 (b = 58) := ⟨UInt8.toNat_inj.1 (by show b.toNat = 58;omega)⟩
    clear hc hx
    by_cases hk0 : k = 0
    ·
     have HZ := Aside0.mk hk0
     clear hk0
     go_wp2_with (first|((with_reducible refine gate_callee (f := 109) rfl ?_);refine goesL_ (some 59) rfl rfl Try.func109 (by kernel_rfl) rfl #[.int .i64 x9,.slice (some ad) n c] rfl (by (try simp only [List.map_toArray,List.map_cons,List.map_nil]);first|done|rfl) ?_;refine (chk0_calls _ (some ad) n c x9 (by have := HX.out;have := HZ.out;omega)).mono ?_;rintro e w1 ⟨rfl,hb1⟩;refine ⟨_,rfl,?_⟩;have n0_ := Aside0.mk (HB.out.trans (hb1.mono HB.out.size));clear HB hb1;have HB := n0_;clear n0_))
     go_ret2
     exact ⟨.inl ⟨by rw [HEC.out,schEnd,if_neg (by rw [HNA.out];simp),if_neg (by rw [HNS.out];simp),if_pos HK2.out,if_pos HZ.out],_,rfl⟩,bl_ HB.out⟩
    have HZ := Aside0.mk hk0
    clear hk0
    obtain ⟨i0,hi0,_,hsz0,_⟩ := info_parts info5
    go_wp2_with (first|((with_reducible refine gate_callee (f := 109) rfl ?_);refine goesL_ (some 59) rfl rfl Try.func109 (by kernel_rfl) rfl #[.int .i64 x9,.slice (some ad) n c] rfl (by (try simp only [List.map_toArray,List.map_cons,List.map_nil]);first|done|rfl) ?_;refine (chk_calls _ (some ad) n c k l x9 HX.out HVW.out (by have := HZ.out;omega) HLT.out).mono ?_;rintro e w1 ⟨⟨B,m,d,rfl,hv1⟩,hb1⟩;refine ⟨_,rfl,?_⟩;have HV1 := Aside0.mk hv1;have n0_ := Aside0.mk (HB.out.trans (hb1.mono HB.out.size));clear HB hb1 hv1;have HB := n0_;clear n0_))
    go_ret2
    exact ⟨.inr ⟨k,_,_,_,by rw [HEC.out,schEnd,if_neg (by rw [HNA.out];simp),if_neg (by rw [HNS.out];simp),if_pos HK2.out,if_neg HZ.out],rfl,HV1.out⟩,bl_ HB.out⟩
   ·
    have t0 : decide (97 ≤ x) = false := decide_eq_false (by omega)
    have t1 : decide (x ≤ 122) = true := decide_eq_true (by omega)
    have t2 : decide (65 ≤ x) = false := decide_eq_false (by omega)
    have t3 : decide (x ≤ 90) = true := decide_eq_true (by omega)
    have t4 : decide (48 ≤ x) = false := decide_eq_false (by omega)
    have t5 : decide (x ≤ 57) = true := decide_eq_true (by omega)
    have t6 : (x == 43) = false := beq_eq_false_iff_ne.2 (by omega)
    have t7 : (x == 45) = false := beq_eq_false_iff_ne.2 (by omega)
    have t8 : (x == 46) = false := beq_eq_false_iff_ne.2 (by omega)
    have t9 : (x == 58) = false := beq_eq_false_iff_ne.2 (by omega)
    have HNA : Aside0 (isAl b = false) := ⟨by simp only [isAl,Bool.or_eq_false_iff,Bool.and_eq_false_iff,decide_eq_false_iff_not];omega⟩
    have HNS : Aside0 (isSg b = false) := ⟨by
     have z1 : ¬ b = 43 := fun e => by subst e;simp at hx;omega
     have z2 : ¬ b = 45 := fun e => by subst e;simp at hx;omega
     have z3 : ¬ b = 46 := fun e => by subst e;simp at hx;omega
     unfold isSg;simp [z1,z2,z3];omega⟩
    have HK2 : Aside0 (¬ b = 58) := ⟨fun e => by subst e;simp at hx;omega⟩
    clear hc hx
    go_wp2
    go_ret2
    exact ⟨.inl ⟨by rw [HEC.out,schEnd,if_neg (by rw [HNA.out];simp),if_neg (by rw [HNS.out];simp),if_neg HK2.out],_,rfl⟩,bl_ HB.out⟩
   ·
    have t0 : decide (97 ≤ x) = false := decide_eq_false (by omega)
    have t1 : decide (x ≤ 122) = true := decide_eq_true (by omega)
    have t2 : decide (65 ≤ x) = false := decide_eq_false (by omega)
    have t3 : decide (x ≤ 90) = true := decide_eq_true (by omega)
    have t4 : decide (48 ≤ x) = true := decide_eq_true (by omega)
    have t5 : decide (x ≤ 57) = false := decide_eq_false (by omega)
    have t6 : (x == 43) = false := beq_eq_false_iff_ne.2 (by omega)
    have t7 : (x == 45) = false := beq_eq_false_iff_ne.2 (by omega)
    have t8 : (x == 46) = false := beq_eq_false_iff_ne.2 (by omega)
    have t9 : (x == 58) = false := beq_eq_false_iff_ne.2 (by omega)
    have HNA : Aside0 (isAl b = false) := ⟨by simp only [isAl,Bool.or_eq_false_iff,Bool.and_eq_false_iff,decide_eq_false_iff_not];omega⟩
    have HNS : Aside0 (isSg b = false) := ⟨by
     have z1 : ¬ b = 43 := fun e => by subst e;simp at hx;omega
     have z2 : ¬ b = 45 := fun e => by subst e;simp at hx;omega
     have z3 : ¬ b = 46 := fun e => by subst e;simp at hx;omega
     unfold isSg;simp [z1,z2,z3];omega⟩
    have HK2 : Aside0 (¬ b = 58) := ⟨fun e => by subst e;simp at hx;omega⟩
    clear hc hx
    go_wp2
    go_ret2
    exact ⟨.inl ⟨by rw [HEC.out,schEnd,if_neg (by rw [HNA.out];simp),if_neg (by rw [HNS.out];simp),if_neg HK2.out],_,rfl⟩,bl_ HB.out⟩
   ·
    have t0 : decide (97 ≤ x) = false := decide_eq_false (by omega)
    have t1 : decide (x ≤ 122) = true := decide_eq_true (by omega)
    have t2 : decide (65 ≤ x) = true := decide_eq_true (by omega)
    have t3 : decide (x ≤ 90) = false := decide_eq_false (by omega)
    have t4 : decide (48 ≤ x) = true := decide_eq_true (by omega)
    have t5 : decide (x ≤ 57) = false := decide_eq_false (by omega)
    have t6 : (x == 43) = false := beq_eq_false_iff_ne.2 (by omega)
    have t7 : (x == 45) = false := beq_eq_false_iff_ne.2 (by omega)
    have t8 : (x == 46) = false := beq_eq_false_iff_ne.2 (by omega)
    have t9 : (x == 58) = false := beq_eq_false_iff_ne.2 (by omega)
    have HNA : Aside0 (isAl b = false) := ⟨by simp only [isAl,Bool.or_eq_false_iff,Bool.and_eq_false_iff,decide_eq_false_iff_not];omega⟩
    have HNS : Aside0 (isSg b = false) := ⟨by
     have z1 : ¬ b = 43 := fun e => by subst e;simp at hx;omega
     have z2 : ¬ b = 45 := fun e => by subst e;simp at hx;omega
     have z3 : ¬ b = 46 := fun e => by subst e;simp at hx;omega
     unfold isSg;simp [z1,z2,z3];omega⟩
    have HK2 : Aside0 (¬ b = 58) := ⟨fun e => by subst e;simp at hx;omega⟩
    clear hc hx
    go_wp2
    go_ret2
    exact ⟨.inl ⟨by rw [HEC.out,schEnd,if_neg (by rw [HNA.out];simp),if_neg (by rw [HNS.out];simp),if_neg HK2.out],_,rfl⟩,bl_ HB.out⟩
   have t0 : decide (97 ≤ x) = true := decide_eq_true (by omega)
   have t1 : decide (x ≤ 122) = false := decide_eq_false (by omega)
   have t2 : decide (65 ≤ x) = true := decide_eq_true (by omega)
   have t3 : decide (x ≤ 90) = false := decide_eq_false (by omega)
   have t4 : decide (48 ≤ x) = true := decide_eq_true (by omega)
   have t5 : decide (x ≤ 57) = false := decide_eq_false (by omega)
   have t6 : (x == 43) = false := beq_eq_false_iff_ne.2 (by omega)
   have t7 : (x == 45) = false := beq_eq_false_iff_ne.2 (by omega)
   have t8 : (x == 46) = false := beq_eq_false_iff_ne.2 (by omega)
   have t9 : (x == 58) = false := beq_eq_false_iff_ne.2 (by omega)
   have HNA : Aside0 (isAl b = false) := ⟨by simp only [isAl,Bool.or_eq_false_iff,Bool.and_eq_false_iff,decide_eq_false_iff_not];omega⟩
   have HNS : Aside0 (isSg b = false) := ⟨by
    have z1 : ¬ b = 43 := fun e => by subst e;simp at hx;omega
    have z2 : ¬ b = 45 := fun e => by subst e;simp at hx;omega
    have z3 : ¬ b = 46 := fun e => by subst e;simp at hx;omega
    unfold isSg;simp [z1,z2,z3];omega⟩
   have HK2 : Aside0 (¬ b = 58) := ⟨fun e => by subst e;simp at hx;omega⟩
   clear hc hx
   go_wp2
   go_ret2
   exact ⟨.inl ⟨by rw [HEC.out,schEnd,if_neg (by rw [HNA.out];simp),if_neg (by rw [HNS.out];simp),if_neg HK2.out],_,rfl⟩,bl_ HB.out⟩
  have hsl := HN.out
  have c1 : decide (x9 < (n : Int)) = false := decide_eq_false (by omega)
  have hke : k = l.length := by have := HK.out;omega
  have HEN : Aside0 (schEnd 0 l = none) := ⟨by rw [HE.out,hke,List.drop_length];rfl⟩
  clear hx9 hsl hke hlt
  go_wp2
  go_ret2
  exact ⟨.inl ⟨HEN.out,_,rfl⟩,bl_ HB.out⟩
end Go.Proofs.Ytbkeakeldegkeaa.Q
end
section
namespace Go.Proofs.Ytbkeakeldegkeaa.Q
open Go.RowKit Go.Proofs.YtbkeakeldegkeaaW.PrintWords Go.Proofs.YtbkeakeldegkeaaW.PrintLast Go.Proofs.YtbkeakeldegkeaaW.PrintMore
open Go.Proofs.Ytbkeakeldegkeaa.SpA (toI toI_length toI_append lowU UR ix schEnd schEnd_lt isAl isSg upto past ib_none ib_some upto_none upto_some past_none ix1 partU HTTP)
open Go.Proofs.Ytbkeakeldegkeaa.Ob
theorem getScheme_none {S : Nat → Prop} (w : World) (A : Option Addr) (n c : Nat) (l : List UInt8) (h : VW S w A n c l) (hs : schEnd 0 l = none) :
  Calls Try.prog 101 #[.slice A n c] w fun e w' => (∃ P,e = .returned (.tuple #[.slice none 0 0,P])) ∧ Below w.heap.size w w' := by
 refine (getScheme_calls w A n c l h).mono fun e w' hp => ⟨?_,hp.2⟩
 rcases hp.1 with ⟨_,P,e⟩|⟨i,B,m,d,e,_⟩
 ·
  exact ⟨P,e⟩
 rw [hs] at e;cases e
theorem getScheme_some {S : Nat → Prop} (w : World) (A : Option Addr) (n c : Nat) (l : List UInt8) (h : VW S w A n c l) (i : Nat) (hs : schEnd 0 l = some i) :
  Calls Try.prog 101 #[.slice A n c] w fun e w' => (∃ B m d,e = .returned (.tuple #[.slice A i c,.slice B m d]) ∧ VW S w' B m d (l.drop (i + 1))) ∧ Below w.heap.size w w' := by
 refine (getScheme_calls w A n c l h).mono fun e w' hp => ⟨?_,hp.2⟩
 rcases hp.1 with ⟨e,_⟩|⟨j,B,m,d,e,he,hv⟩
 ·
  rw [hs] at e;cases e
 rw [hs] at e;cases e
 exact ⟨B,m,d,he,hv⟩
theorem VW.some {S : Nat → Prop} {w : World} {A : Option Addr} {n c : Nat} {l : List UInt8} (h : VW S w A n c l) (hn : 0 < n) : ∃ ad,A = some ad := by
 obtain ⟨ad,e,_⟩ := h.C.2.2 hn
 exact ⟨ad,e⟩
def ThreePost (S : Nat → Prop) (w : World) (x y z : List UInt8) (e : Ending) (w' : World) : Prop := (∃ A n c B m d D p q,e = .returned (.tuple #[.slice A n c,.slice B m d,.slice D p q]) ∧ VW S w' A n c x ∧ VW S w' B m d y ∧ VW S w' D p q z) ∧ Below w.heap.size w w'
set_option maxHeartbeats 16000000 in
set_option maxRecDepth 100000 in
theorem split_none {S : Nat → Prop} (w : World) (A B : Option Addr) (n c m d : Nat) (h u : List UInt8) (hh : VW S w A n c h) (hu : VW S w B m d u) (hS : ∀ k,S k → k < w.heap.size) (hs : schEnd 0 u = none) :
  Calls Try.prog 81 #[.slice A n c,.slice B m d] w (ThreePost S w HTTP h u) := by
 have HH := Aside0.mk hh
 have HU := Aside0.mk hu
 have HSS := Aside0.mk hS
 have HS := Aside0.mk hs
 have HB := Aside0.mk (Below.refl w.heap.size w)
 have hnil := fun W : World => Lib.run_eql_slice_nil (P := Try.prog) W 49 5 none 0 0 0 0 Try.underlying49
 clear hh hu hs hS
 go_enter Try.func81,Try.ntmps81
 go_wp2_with (first|((with_reducible refine gate_callee (f := 101) rfl ?_);refine goesL_ (some 12) rfl rfl Try.func101 (by kernel_rfl) rfl #[.slice B m d] rfl (by (try simp only [List.map_toArray,List.map_cons,List.map_nil]);first|done|rfl) ?_;refine (getScheme_none _ B m d u (HU.out.below HB.out) HS.out).mono ?_;rintro e w1 ⟨⟨P1,rfl⟩,hb1⟩;refine ⟨_,rfl,?_⟩;have n0_ := Aside0.mk (HB.out.trans (hb1.mono (by first|exact HB.out.size|(have := HB.out.size;simp;omega))));have hm_ := hb1;clear HB hb1;have HB := n0_;clear n0_;clear hm_)|((with_reducible refine gate_callee (f := 87) rfl ?_);refine goesL_ (some 17) rfl rfl Try.func87 (by kernel_rfl) rfl #[] rfl (by (try simp only [List.map_toArray,List.map_cons,List.map_nil]);first|done|rfl) ?_;refine (strHTTP_calls _).mono ?_;rintro e w2 ⟨g2,c2,rfl,hc2,hb2,hg2,hb1⟩;refine ⟨_,rfl,?_⟩;have HR2 := Aside0.mk (VW.of_BR (S := S) hb2 (fun e => by have := HSS.out g2 e;have := HB.out.size;omega) hc2 (by decide));clear hc2 hb2 hg2;have n0_ := Aside0.mk (HB.out.trans (hb1.mono (by first|exact HB.out.size|(have := HB.out.size;simp;omega))));have hm_ := hb1;clear HB hb1;have HB := n0_;clear n0_;clear hm_))
 go_ret3
 exact ⟨⟨_,_,_,_,_,_,_,_,_,rfl,HR2.out,HH.out.below HB.out,HU.out.below HB.out⟩,HB.out⟩
set_option maxHeartbeats 16000000 in
set_option maxRecDepth 100000 in
theorem split_slash {S : Nat → Prop} (w : World) (A B : Option Addr) (n c m d i : Nat) (h u q : List UInt8) (hh : VW S w A n c h) (hu : VW S w B m d u) (hS : ∀ k,S k → k < w.heap.size) (hs : schEnd 0 u = some i) (hq : q = u.drop (i + 3)) (h2 : i + 3 ≤ u.length) (h4 : (47 : UInt8) ∈ q) :
  Calls Try.prog 81 #[.slice A n c,.slice B m d] w (ThreePost S w (u.take i) (upto 47 q) (q.dropWhile (· != 47))) := by
 have hil := schEnd_lt u 0 i hs
 have hm := hu.len
 obtain ⟨ad,rfl⟩ := hu.some (by omega)
 obtain ⟨i0,hi0,_,hsz0,_⟩ := info_parts info5
 have hnil := fun W : World => Lib.run_eql_slice_nil (P := Try.prog) W 49 5 (some ad) i d 0 0 Try.underlying49
 have hq2 : (u.drop (i + 1)).drop 2 = q := by rw [hq,List.drop_drop]
 have HH := Aside0.mk hh
 have HU := Aside0.mk hu
 have HSS := Aside0.mk hS
 have HS := Aside0.mk hs
 have HI := Aside0.mk hi0
 have HSZ := Aside0.mk hsz0
 have HQ2 := Aside0.mk hq2
 have HSC := Aside0.mk (hu.take i (by omega))
 have H12 : Aside0 (2 ≤ (u.drop (i + 1)).length) := ⟨by rw [List.length_drop];omega⟩
 have HB := Aside0.mk (Below.refl w.heap.size w)
 obtain ⟨j,hj⟩ : ∃ j,j = (upto 47 q).length := ⟨_,rfl⟩
 obtain ⟨r,hr⟩ : ∃ r : Int,r = (j : Int) := ⟨_,rfl⟩
 have HR : Aside0 (Lib.indexByte q 47 = r) := ⟨by rw [hr,hj];exact ib_some h4⟩
 have HJ := Aside0.mk (upto_some h4)
 have HJL : Aside0 (j ≤ q.length) := ⟨by have := HJ.out.1;omega⟩
 have HRJ := Aside0.mk hr
 have HJJ := Aside0.mk hj
 have hr0 : decide (r < 0) = false := decide_eq_false (by omega)
 have hr1 : decide (0 ≤ r) = true := decide_eq_true (by omega)
 clear hh hu hs hS hi0 hsz0 hq hq2 hil hm h2 h4 hr hj
 go_enter Try.func81,Try.ntmps81
 go_wp2_with (first|((with_reducible refine gate_callee (f := 101) rfl ?_);refine goesL_ (some 12) rfl rfl Try.func101 (by kernel_rfl) rfl #[.slice (some ad) m d] rfl (by (try simp only [List.map_toArray,List.map_cons,List.map_nil]);first|done|rfl) ?_;refine (getScheme_some _ (some ad) m d u HU.out i HS.out).mono ?_;rintro e w1 ⟨⟨B1,m1,d1,rfl,hv1⟩,hb1⟩;refine ⟨_,rfl,?_⟩;obtain ⟨B2,m2,d2,hr2,hv2⟩ := hv1.cutFrom Try.underlying49 HI.out HSZ.out 2 2 rfl (by rw [hv1.len];exact H12.out);rw [HQ2.out] at hv2;obtain ⟨hr3,hv3⟩ := hv2.cutTo Try.underlying49 HI.out j r HRJ.out (by rw [hv2.len];exact HJL.out);obtain ⟨B4,m4,d4,hr4,hv4⟩ := hv2.cutFrom Try.underlying49 HI.out HSZ.out j r HRJ.out (by rw [hv2.len];exact HJL.out);have HV3 := Aside0.mk hv3;have HV4 := Aside0.mk hv4;clear hv3 hv4;have HV2 := Aside0.mk hv2;have HB1 := Aside0.mk (Below.refl w1.heap.size w1);clear hv1 hv2;have n0_ := Aside0.mk (below_step (bl_ HB.out) hb1);clear HB;have HB := n0_;clear n0_;clear hb1)|((with_reducible refine gate_callee (f := 94) rfl ?_);refine goesL_ (some 21) rfl rfl Try.func94 (by kernel_rfl) rfl #[] rfl (by (try simp only [List.map_toArray,List.map_cons,List.map_nil]);first|done|rfl) ?_;refine (strSlashSlash_calls _).mono ?_;rintro e w2 ⟨g2,c2,rfl,hc2,hb2,hg2,hb1⟩;refine ⟨_,rfl,?_⟩;clear hc2 hb2 hg2;have n0_ := Aside0.mk (below_step (bl_ HB.out) hb1);clear HB;have HB := n0_;clear n0_;have n0_ := Aside0.mk (below_step (bl_ HB1.out) hb1);clear HB1;have HB1 := n0_;clear n0_;clear hb1)|((with_reducible refine gate_callee (f := 86) rfl ?_);refine goesL_ (some 25) rfl rfl Try.func86 (by kernel_rfl) rfl #[.slice B2 m2 d2,.int .u8 47] rfl (by (try simp only [List.map_toArray,List.map_cons,List.map_nil]);first|done|rfl) ?_;refine (ib_VW (HV2.out.below HB1.out) 47 47 rfl r HR.out).mono ?_;rintro e w3 ⟨rfl,hd⟩;refine ⟨_,rfl,?_⟩;have hb1 := hd.below;clear hd;have n0_ := Aside0.mk (below_step (bl_ HB.out) hb1);clear HB;have HB := n0_;clear n0_;have n0_ := Aside0.mk (below_step (bl_ HB1.out) hb1);clear HB1;have HB1 := n0_;clear n0_;clear hb1))
 go_quiet (fail)
 go_wp2
 go_ret3
 refine ⟨⟨_,_,_,_,_,_,_,_,_,rfl,HSC.out.below (bl_ HB.out),?_,?_⟩,(bl_ HB.out)⟩
 ·
  have h3 := HV3.out
  rw [HJJ.out,HJ.out.2.1] at h3
  rw [HJJ.out]
  exact h3.below (bl_ HB1.out)
 have h3 := HV4.out
 rw [HJJ.out,HJ.out.2.2.1] at h3
 exact h3.below (bl_ HB1.out)
set_option maxHeartbeats 16000000 in
set_option maxRecDepth 100000 in
theorem split_query {S : Nat → Prop} (w : World) (A B : Option Addr) (n c m d i : Nat) (h u q : List UInt8) (hh : VW S w A n c h) (hu : VW S w B m d u) (hS : ∀ k,S k → k < w.heap.size) (hs : schEnd 0 u = some i) (hq : q = u.drop (i + 3)) (h2 : i + 3 ≤ u.length) (h4 : (47 : UInt8) ∉ q) (h6 : (63 : UInt8) ∈ q) :
  Calls Try.prog 81 #[.slice A n c,.slice B m d] w (ThreePost S w (u.take i) (upto 63 q) (q.dropWhile (· != 63))) := by
 have hil := schEnd_lt u 0 i hs
 have hm := hu.len
 obtain ⟨ad,rfl⟩ := hu.some (by omega)
 obtain ⟨i0,hi0,_,hsz0,_⟩ := info_parts info5
 have hnil := fun W : World => Lib.run_eql_slice_nil (P := Try.prog) W 49 5 (some ad) i d 0 0 Try.underlying49
 have hq2 : (u.drop (i + 1)).drop 2 = q := by rw [hq,List.drop_drop]
 have HH := Aside0.mk hh
 have HU := Aside0.mk hu
 have HSS := Aside0.mk hS
 have HS := Aside0.mk hs
 have HI := Aside0.mk hi0
 have HSZ := Aside0.mk hsz0
 have HQ2 := Aside0.mk hq2
 have HSC := Aside0.mk (hu.take i (by omega))
 have H12 : Aside0 (2 ≤ (u.drop (i + 1)).length) := ⟨by rw [List.length_drop];omega⟩
 have HB := Aside0.mk (Below.refl w.heap.size w)
 obtain ⟨j,hj⟩ : ∃ j,j = (upto 63 q).length := ⟨_,rfl⟩
 obtain ⟨r,hr⟩ : ∃ r : Int,r = (j : Int) := ⟨_,rfl⟩
 have HR : Aside0 (Lib.indexByte q 63 = r) := ⟨by rw [hr,hj];exact ib_some h6⟩
 have HJ := Aside0.mk (upto_some h6)
 have HJL : Aside0 (j ≤ q.length) := ⟨by have := HJ.out.1;omega⟩
 have HRJ := Aside0.mk hr
 have HJJ := Aside0.mk hj
 have hr0 : decide (r < 0) = false := decide_eq_false (by omega)
 have hr1 : decide (0 ≤ r) = true := decide_eq_true (by omega)
 have HN4 : Aside0 (Lib.indexByte q 47 = -1) := ⟨ib_none h4⟩
 clear hh hu hs hS hi0 hsz0 hq hq2 hil hm h2 h4 h6 hr hj
 go_enter Try.func81,Try.ntmps81
 go_wp2_with (first|((with_reducible refine gate_callee (f := 101) rfl ?_);refine goesL_ (some 12) rfl rfl Try.func101 (by kernel_rfl) rfl #[.slice (some ad) m d] rfl (by (try simp only [List.map_toArray,List.map_cons,List.map_nil]);first|done|rfl) ?_;refine (getScheme_some _ (some ad) m d u HU.out i HS.out).mono ?_;rintro e w1 ⟨⟨B1,m1,d1,rfl,hv1⟩,hb1⟩;refine ⟨_,rfl,?_⟩;obtain ⟨B2,m2,d2,hr2,hv2⟩ := hv1.cutFrom Try.underlying49 HI.out HSZ.out 2 2 rfl (by rw [hv1.len];exact H12.out);rw [HQ2.out] at hv2;obtain ⟨hr3,hv3⟩ := hv2.cutTo Try.underlying49 HI.out j r HRJ.out (by rw [hv2.len];exact HJL.out);obtain ⟨B4,m4,d4,hr4,hv4⟩ := hv2.cutFrom Try.underlying49 HI.out HSZ.out j r HRJ.out (by rw [hv2.len];exact HJL.out);have HV3 := Aside0.mk hv3;have HV4 := Aside0.mk hv4;clear hv3 hv4;have HV2 := Aside0.mk hv2;have HB1 := Aside0.mk (Below.refl w1.heap.size w1);clear hv1 hv2;have n0_ := Aside0.mk (below_step (bl_ HB.out) hb1);clear HB;have HB := n0_;clear n0_;clear hb1)|((with_reducible refine gate_callee (f := 94) rfl ?_);refine goesL_ (some 21) rfl rfl Try.func94 (by kernel_rfl) rfl #[] rfl (by (try simp only [List.map_toArray,List.map_cons,List.map_nil]);first|done|rfl) ?_;refine (strSlashSlash_calls _).mono ?_;rintro e w2 ⟨g2,c2,rfl,hc2,hb2,hg2,hb1⟩;refine ⟨_,rfl,?_⟩;clear hc2 hb2 hg2;have n0_ := Aside0.mk (below_step (bl_ HB.out) hb1);clear HB;have HB := n0_;clear n0_;have n0_ := Aside0.mk (below_step (bl_ HB1.out) hb1);clear HB1;have HB1 := n0_;clear n0_;clear hb1)|((with_reducible refine gate_callee (f := 86) rfl ?_);refine goesL_ (some 25) rfl rfl Try.func86 (by kernel_rfl) rfl #[.slice B2 m2 d2,.int .u8 47] rfl (by (try simp only [List.map_toArray,List.map_cons,List.map_nil]);first|done|rfl) ?_;refine (ib_VW (HV2.out.below HB1.out) 47 47 rfl (-1) HN4.out).mono ?_;rintro e w3 ⟨rfl,hd⟩;refine ⟨_,rfl,?_⟩;have hb1 := hd.below;clear hd;have n0_ := Aside0.mk (below_step (bl_ HB.out) hb1);clear HB;have HB := n0_;clear n0_;have n0_ := Aside0.mk (below_step (bl_ HB1.out) hb1);clear HB1;have HB1 := n0_;clear n0_;clear hb1)|((with_reducible refine gate_callee (f := 86) rfl ?_);refine goesL_ (some 29) rfl rfl Try.func86 (by kernel_rfl) rfl #[.slice B2 m2 d2,.int .u8 63] rfl (by (try simp only [List.map_toArray,List.map_cons,List.map_nil]);first|done|rfl) ?_;refine (ib_VW (HV2.out.below HB1.out) 63 63 rfl r HR.out).mono ?_;rintro e w4 ⟨rfl,hd⟩;refine ⟨_,rfl,?_⟩;have hb1 := hd.below;clear hd;have n0_ := Aside0.mk (below_step (bl_ HB.out) hb1);clear HB;have HB := n0_;clear n0_;have n0_ := Aside0.mk (below_step (bl_ HB1.out) hb1);clear HB1;have HB1 := n0_;clear n0_;clear hb1))
 go_quiet (fail)
 go_wp2
 go_ret3
 refine ⟨⟨_,_,_,_,_,_,_,_,_,rfl,HSC.out.below (bl_ HB.out),?_,?_⟩,(bl_ HB.out)⟩
 ·
  have h3 := HV3.out
  rw [HJJ.out,HJ.out.2.1] at h3
  rw [HJJ.out]
  exact h3.below (bl_ HB1.out)
 have h3 := HV4.out
 rw [HJJ.out,HJ.out.2.2.1] at h3
 exact h3.below (bl_ HB1.out)
set_option maxHeartbeats 16000000 in
set_option maxRecDepth 100000 in
theorem split_bare {S : Nat → Prop} (w : World) (A B : Option Addr) (n c m d i : Nat) (h u q : List UInt8) (hh : VW S w A n c h) (hu : VW S w B m d u) (hS : ∀ k,S k → k < w.heap.size) (hs : schEnd 0 u = some i) (hq : q = u.drop (i + 3)) (h2 : i + 3 ≤ u.length) (h4 : (47 : UInt8) ∉ q) (h6 : (63 : UInt8) ∉ q) :
  Calls Try.prog 81 #[.slice A n c,.slice B m d] w (ThreePost S w (u.take i) q [47]) := by
 have hil := schEnd_lt u 0 i hs
 have hm := hu.len
 obtain ⟨ad,rfl⟩ := hu.some (by omega)
 obtain ⟨i0,hi0,_,hsz0,_⟩ := info_parts info5
 have hnil := fun W : World => Lib.run_eql_slice_nil (P := Try.prog) W 49 5 (some ad) i d 0 0 Try.underlying49
 have hq2 : (u.drop (i + 1)).drop 2 = q := by rw [hq,List.drop_drop]
 have HH := Aside0.mk hh
 have HU := Aside0.mk hu
 have HSS := Aside0.mk hS
 have HS := Aside0.mk hs
 have HI := Aside0.mk hi0
 have HSZ := Aside0.mk hsz0
 have HQ2 := Aside0.mk hq2
 have HSC := Aside0.mk (hu.take i (by omega))
 have H12 : Aside0 (2 ≤ (u.drop (i + 1)).length) := ⟨by rw [List.length_drop];omega⟩
 have HB := Aside0.mk (Below.refl w.heap.size w)
 have HN4 : Aside0 (Lib.indexByte q 47 = -1) := ⟨ib_none h4⟩
 have HN6 : Aside0 (Lib.indexByte q 63 = -1) := ⟨ib_none h6⟩
 clear hh hu hs hS hi0 hsz0 hq hq2 hil hm h2 h4 h6
 go_enter Try.func81,Try.ntmps81
 go_wp2_with (first|((with_reducible refine gate_callee (f := 101) rfl ?_);refine goesL_ (some 12) rfl rfl Try.func101 (by kernel_rfl) rfl #[.slice (some ad) m d] rfl (by (try simp only [List.map_toArray,List.map_cons,List.map_nil]);first|done|rfl) ?_;refine (getScheme_some _ (some ad) m d u HU.out i HS.out).mono ?_;rintro e w1 ⟨⟨B1,m1,d1,rfl,hv1⟩,hb1⟩;refine ⟨_,rfl,?_⟩;obtain ⟨B2,m2,d2,hr2,hv2⟩ := hv1.cutFrom Try.underlying49 HI.out HSZ.out 2 2 rfl (by rw [hv1.len];exact H12.out);rw [HQ2.out] at hv2;have HV2 := Aside0.mk hv2;have HB1 := Aside0.mk (Below.refl w1.heap.size w1);clear hv1 hv2;have n0_ := Aside0.mk (below_step (bl_ HB.out) hb1);clear HB;have HB := n0_;clear n0_;clear hb1)|((with_reducible refine gate_callee (f := 94) rfl ?_);refine goesL_ (some 21) rfl rfl Try.func94 (by kernel_rfl) rfl #[] rfl (by (try simp only [List.map_toArray,List.map_cons,List.map_nil]);first|done|rfl) ?_;refine (strSlashSlash_calls _).mono ?_;rintro e w2 ⟨g2,c2,rfl,hc2,hb2,hg2,hb1⟩;refine ⟨_,rfl,?_⟩;clear hc2 hb2 hg2;have n0_ := Aside0.mk (below_step (bl_ HB.out) hb1);clear HB;have HB := n0_;clear n0_;have n0_ := Aside0.mk (below_step (bl_ HB1.out) hb1);clear HB1;have HB1 := n0_;clear n0_;clear hb1)|((with_reducible refine gate_callee (f := 86) rfl ?_);refine goesL_ (some 25) rfl rfl Try.func86 (by kernel_rfl) rfl #[.slice B2 m2 d2,.int .u8 47] rfl (by (try simp only [List.map_toArray,List.map_cons,List.map_nil]);first|done|rfl) ?_;refine (ib_VW (HV2.out.below HB1.out) 47 47 rfl (-1) HN4.out).mono ?_;rintro e w3 ⟨rfl,hd⟩;refine ⟨_,rfl,?_⟩;have hb1 := hd.below;clear hd;have n0_ := Aside0.mk (below_step (bl_ HB.out) hb1);clear HB;have HB := n0_;clear n0_;have n0_ := Aside0.mk (below_step (bl_ HB1.out) hb1);clear HB1;have HB1 := n0_;clear n0_;clear hb1)|((with_reducible refine gate_callee (f := 86) rfl ?_);refine goesL_ (some 29) rfl rfl Try.func86 (by kernel_rfl) rfl #[.slice B2 m2 d2,.int .u8 63] rfl (by (try simp only [List.map_toArray,List.map_cons,List.map_nil]);first|done|rfl) ?_;refine (ib_VW (HV2.out.below HB1.out) 63 63 rfl (-1) HN6.out).mono ?_;rintro e w4 ⟨rfl,hd⟩;refine ⟨_,rfl,?_⟩;have hb1 := hd.below;clear hd;have n0_ := Aside0.mk (below_step (bl_ HB.out) hb1);clear HB;have HB := n0_;clear n0_;have n0_ := Aside0.mk (below_step (bl_ HB1.out) hb1);clear HB1;have HB1 := n0_;clear n0_;clear hb1)|((with_reducible refine gate_callee (f := 88) rfl ?_);refine goesL_ (some 41) rfl rfl Try.func88 (by kernel_rfl) rfl #[] rfl (by (try simp only [List.map_toArray,List.map_cons,List.map_nil]);first|done|rfl) ?_;refine (strSlash_calls _).mono ?_;rintro e w5 ⟨g5,c5,rfl,hc5,hb5,hg5,hb1⟩;refine ⟨_,rfl,?_⟩;have HR5 := Aside0.mk (VW.of_BR (S := S) hb5 (fun e => by have := HSS.out g5 e;have := HB.out.size;omega) hc5 (by decide));clear hc5 hb5 hg5;have n0_ := Aside0.mk (below_step (bl_ HB.out) hb1);clear HB;have HB := n0_;clear n0_;have n0_ := Aside0.mk (below_step (bl_ HB1.out) hb1);clear HB1;have HB1 := n0_;clear n0_;clear hb1))
 go_ret3
 exact ⟨⟨_,_,_,_,_,_,_,_,_,rfl,HSC.out.below HB.out,HV2.out.below HB1.out,HR5.out⟩,HB.out⟩
end Go.Proofs.Ytbkeakeldegkeaa.Q
end
section
namespace Go.Proofs.Ytbkeakeldegkeaa.Q
open Go.RowKit Go.Proofs.YtbkeakeldegkeaaW.PrintWords Go.Proofs.YtbkeakeldegkeaaW.PrintLast Go.Proofs.YtbkeakeldegkeaaW.PrintMore
open Go.Proofs.Ytbkeakeldegkeaa.SpA (toI toI_length toI_append ix upto past ib_none ib_some upto_none upto_some past_none ix1)
open Go.Proofs.Ytbkeakeldegkeaa.Ob
theorem cutFromU {P : Program} {t : TypeId} {i : TypeInfo} (ht : P.underlying t = some (.slice 5)) (hi : P.info? 5 = some i) (hs : i.size = 1) (A : Option Addr) (n c j : Nat) (x : Int) (hx : x = (j : Int)) (hm : j ≤ n) :
  ∃ B m d,(∀ W : World,(Instr.slice t (.slice A n c) (some (.int .i64 x)) none none).run P W = .ok (.slice B m d) W) ∧ ∀ (S : Nat → Prop) (W : World) (l : List UInt8),VW S W A n c l → VW S W B m d (l.drop j) :=
 ⟨_,_,_,cutFrom_run ht hi hs A n c j x hx hm _ _ _ rfl rfl rfl,fun S W l h => h.drop j hm⟩
theorem cutMidU {P : Program} {t : TypeId} {i : TypeInfo} (ht : P.underlying t = some (.slice 5)) (hi : P.info? 5 = some i) (hs : i.size = 1) (A : Option Addr) (n c j k : Nat) (x y : Int) (hx : x = (j : Int)) (hy : y = (k : Int)) (hm : k ≤ n) (hjk : j ≤ k) (hc : n ≤ c) :
  ∃ B m d,(∀ W : World,(Instr.slice t (.slice A n c) (some (.int .i64 x)) (some (.int .i64 y)) none).run P W = .ok (.slice B m d) W) ∧ ∀ (S : Nat → Prop) (W : World) (l : List UInt8),VW S W A n c l → VW S W B m d ((l.take k).drop j) :=
 ⟨_,_,_,cutMid_run ht hi hs A n c j k x y hx hy hm hjk hc _ _ _ rfl rfl rfl,fun S W l h => (h.take k hm).drop j hjk⟩
theorem cuts_at {P : Program} {t : TypeId} {i : TypeInfo} (ht : P.underlying t = some (.slice 5)) (hi : P.info? 5 = some i) (hs : i.size = 1) (A : Option Addr) (n c : Nat) (l : List UInt8) (b : UInt8) (hn : n = l.length) (hc : n ≤ c) (hb : b ∈ l) :
  ∃ (x : Int) (j : Nat) (B : Option Addr) (m d : Nat),ix [b] l 0 = x ∧ Lib.indexByte l b = x ∧ x = (j : Int) ∧ j < n ∧ j = (upto b l).length ∧
   (∀ W : World,(Instr.slice t (.slice A n c) none (some (.int .i64 x)) none).run P W = .ok (.slice A j c) W) ∧
   (∀ W : World,(Instr.slice t (.slice A n c) (some (.int .i64 (x + 1))) none none).run P W = .ok (.slice B m d) W) ∧
   (∀ (S : Nat → Prop) (W : World),VW S W A n c l → VW S W A j c (upto b l)) ∧ (∀ (S : Nat → Prop) (W : World),VW S W A n c l → VW S W B m d (past b l)) := by
 obtain ⟨h1,h2,h3,h4,h5,h6,h7⟩ := upto_some hb
 obtain ⟨B,m,d,hr,hv⟩ := cutFromU (P := P) ht hi hs A n c ((upto b l).length + 1) (((upto b l).length : Int) + 1) (by omega) (by omega)
 refine ⟨((upto b l).length : Int),(upto b l).length,B,m,d,?_,ib_some hb,rfl,by omega,rfl,cutTo_run ht hi A n c _ _ rfl (by omega) hc,hr,fun S W h => ?_,fun S W h => ?_⟩
 ·
  rw [ix1,if_pos hb,Nat.zero_add]
 ·
  have := h.take (upto b l).length (by omega)
  rwa [h2] at this
 have := hv S W l h
 rwa [h4] at this
theorem upto_mid {a : UInt8} : ∀ {p r : List UInt8},a ∉ p → upto a (p ++ a :: r) = p
 | [],r,_ => by simp [upto]
 | x :: t,r,h => by
  have hx : (x != a) = true := bne_iff_ne.2 (fun e => h (by simp [e]))
  have := upto_mid (a := a) (p := t) (r := r) (fun e => h (by simp [e]))
  unfold upto at *
  simp [hx,this]
theorem upto_upto {a b : UInt8} {l : List UInt8} (h : a ∈ upto b l) : upto a l = upto a (upto b l) ∧ a ∈ l ∧ (b ∈ l → (upto a l).length < (upto b l).length ∧ (l.take (upto b l).length).drop ((upto a l).length + 1) = past a (upto b l)) := by
 by_cases hb : b ∈ l
 ·
  obtain ⟨h1,h2,h3,h4,h5,h6,h7⟩ := upto_some hb
  obtain ⟨k1,k2,k3,k4,k5,k6,k7⟩ := upto_some h
  have hl : l = upto a (upto b l) ++ a :: (past a (upto b l) ++ b :: past b l) := by
   have h6' := h6
   rw [k6] at h6'
   simpa using h6'
  have hal : a ∈ l := by rw [hl];simp
  have hu : upto a l = upto a (upto b l) := by
   have h9 := congrArg (upto a) hl
   rw [h9,upto_mid k7]
  refine ⟨hu,hal,fun _ => ⟨by rw [hu];exact k1,?_⟩⟩
  rw [h2,hu]
  exact k4
 have e := (upto_none hb).1
 rw [e] at h ⊢
 exact ⟨rfl,h,fun hb' => absurd hb' hb⟩
theorem upto_no {a b : UInt8} {l : List UInt8} (h : a ∉ upto b l) (ha : a ∈ l) (hb : b ∈ l) : (upto b l).length < (upto a l).length ∨ a = b := by
 by_cases hab : a = b
 ·
  exact .inr hab
 left
 obtain ⟨h1,h2,h3,h4,h5,h6,h7⟩ := upto_some hb
 obtain ⟨k1,k2,k3,k4,k5,k6,k7⟩ := upto_some ha
 rcases Nat.lt_or_ge (upto b l).length (upto a l).length with hlt|hge
 ·
  exact hlt
 exfalso
 have e1 : l[(upto a l).length]? = some a := by
  have h9 := congrArg (fun x => x[(upto a l).length]?) k6
  simpa using h9
 rcases Nat.lt_or_ge (upto a l).length (upto b l).length with hlt|hge2
 ·
  apply h
  have : (l.take (upto b l).length)[(upto a l).length]? = some a := by rw [List.getElem?_take,if_pos hlt];exact e1
  rw [h2] at this
  exact List.mem_of_getElem? this
 have e2 : l[(upto b l).length]? = some b := by
  have h9 := congrArg (fun x => x[(upto b l).length]?) h6
  simpa using h9
 rw [show (upto b l).length = (upto a l).length by omega,e1] at e2
 exact hab (Option.some.inj e2)
end Go.Proofs.Ytbkeakeldegkeaa.Q
end
section
namespace Go.Proofs.Ytbkeakeldegkeaa.Q
open Go.RowKit Go.Proofs.YtbkeakeldegkeaaW.PrintWords Go.Proofs.YtbkeakeldegkeaaW.PrintLast Go.Proofs.YtbkeakeldegkeaaW.PrintMore
open Go.Proofs.Ytbkeakeldegkeaa.SpA (toI toI_length toI_append lowU UR ix upto past partU HTTP)
open Go.Proofs.Ytbkeakeldegkeaa.Ob
structure US (T : TypeId) (g : Nat) (w0 : World) (vals0 : List Value) (W : World) (vals : List Value) (rows : List (Option (Bool × List UInt8))) (A : Option Addr) (n c : Nat) (h : List UInt8) (B : Option Addr) (m d : Nat) (u : List UInt8) : Prop where
 ob : OBJ W g T vals rows
 ps : PStep g w0 vals0 W vals
 vh : VW (OS g vals) W A n c h
 vu : VW (OS g vals) W B m d u
section
variable {T : TypeId} {g : Nat} {w0 W W1 W2 : World} {vals0 vals vals2 : List Value} {rows rows2 : List (Option (Bool × List UInt8))} {A B : Option Addr} {n c m d : Nat} {h u : List UInt8}
theorem US.below (k : US T g w0 vals0 W vals rows A n c h B m d u) (hb : Below W.heap.size W W1) : US T g w0 vals0 W1 vals rows A n c h B m d u :=
 ⟨k.ob.below hb,k.ps.trans (PStep.below hb),k.vh.below hb,k.vu.below hb⟩
theorem US.next (k : US T g w0 vals0 W vals rows A n c h B m d u) (ho : OBJ W2 g T vals2 rows2) (hp : PStep g W vals W2 vals2) : US T g w0 vals0 W2 vals2 rows2 A n c h B m d u :=
 ⟨ho,k.ps.trans hp,k.vh.step hp,k.vu.step hp⟩
theorem US.views {A' B' : Option Addr} {n' c' m' d' : Nat} {h' u' : List UInt8} (k : US T g w0 vals0 W vals rows A n c h B m d u) (h1 : VW (OS g vals) W A' n' c' h') (h2 : VW (OS g vals) W B' m' d' u') : US T g w0 vals0 W vals rows A' n' c' h' B' m' d' u' := ⟨k.ob,k.ps,h1,h2⟩
theorem US.app (k : US T g w0 vals0 W vals rows A n c h B m d u) (hT : T ≠ 5) (i : Nat) {Ai : Option Addr} {ni n' ci : Nat} {l l1 : List UInt8} {v1 : Value} (hi : isRow i = true) (hr : rows[i]? = some (some (true,l))) (hv : vals[i]? = some (.slice Ai ni ci)) (hb : BV W1 v1 l1) (ho : Only (fun j => (Value.slice Ai n' ci).ownBlock = some j) W W1) (hat : v1.ownBlock = (Value.slice Ai n' ci).ownBlock ∨ ∃ b,v1.ownBlock = some b ∧ W.heap.size ≤ b) :
  OBJ W1 g T vals (rows.set i none) ∧ US T g w0 vals0 (W1.setCell ⟨g,i,none⟩ v1) (vals.set i v1) (rows.set i (some (true,l1))) A n c h B m d u := by
 obtain ⟨h1,h2,h3⟩ := ur_app k.ob hT hi hr hv hb ho hat
 exact ⟨h1,k.next h2 h3⟩
theorem US.bv (k : US T g w0 vals0 W vals rows A n c h B m d u) (i : Nat) {v : Value} {l : List UInt8} (hr : rows[i]? = some (some (true,l))) (hv : vals[i]? = some v) : BV W v l := by
 obtain ⟨v',hv',hb⟩ := k.ob.row i true l hr
 rw [hv] at hv';cases hv'
 exact hb
theorem US.rw (k : US T g w0 vals0 W vals rows A n c h B m d u) (i : Nat) {v : Value} {b : Bool} {l : List UInt8} (hr : rows[i]? = some (some (b,l))) (hv : vals[i]? = some v) : RW b W v l := by
 obtain ⟨v',hv',hb⟩ := k.ob.row i b l hr
 rw [hv] at hv';cases hv'
 exact hb
theorem US.turn (k : US T g w0 vals0 W vals rows A n c h B m d u) (hT : T ≠ 5) (i : Nat) {v : Value} {l l1 : List UInt8} (hi : isRow i = true) (hr : rows[i]? = some (some (true,l))) (hv : vals[i]? = some v) (ho : Only (fun j => v.ownBlock = some j) W W1) (hb : BV W1 v l1) :
  US T g w0 vals0 W1 vals (rows.set i (some (true,l1))) A n c h B m d u := k.next (OBJ.turn k.ob hT hr hv ho hb) (PStep.turn hi hv ho)
theorem US.path (k : US T g w0 vals0 W vals rows A n c h B m d u) (hT : T ≠ 5) {f : Bool} {l l1 : List UInt8} {v0 v1 : Value} (hr : rows[2]? = some (some (f,l))) (hv : vals[2]? = some v0) (hb : RW f W1 v1 l1) (ho : Only (fun j => v0.ownBlock = some j) W W1) (hat : v1.ownBlock = v0.ownBlock ∨ ∃ b,v1.ownBlock = some b ∧ W.heap.size ≤ b) :
  OBJ W1 g T vals (rows.set 2 none) ∧ US T g w0 vals0 (W1.setCell ⟨g,2,none⟩ v1) (vals.set 2 v1) (rows.set 2 (some (f,l1))) A n c h B m d u := by
 obtain ⟨h1,h2⟩ := OBJ.refill k.ob hT 2 hr hv rfl ho hat
 have hlen : 2 < vals.length := by rcases Nat.lt_or_ge 2 vals.length with h1|h1;exact h1;rw [List.getElem?_eq_none h1] at hv;cases hv
 exact ⟨h1,k.next (OBJ.restore hT 2 hlen h1 h2 hb) (PStep.row rfl hv rfl ho hat)⟩
theorem US.same (k : US T g w0 vals0 W vals rows A n c h B m d u) (hT : T ≠ 5) (i : Nat) {v : Value} (hv : vals[i]? = some v) : US T g w0 vals0 (W.setCell ⟨g,i,none⟩ v) vals rows A n c h B m d u :=
 k.next (OBJ_same k.ob hT i v hv) ⟨Only.set (Only.refl _ _) (.inl (.inl rfl)) _ _,fun _ h => .inl h⟩
theorem US.other (k : US T g w0 vals0 W vals rows A n c h B m d u) (i j : Nat) (hij : i ≠ j) {f : Bool} {li lj : List UInt8} {Ai : Option Addr} {ni ci : Nat} {vj : Value} (hri : rows[i]? = some (some (true,li))) (hvi : vals[i]? = some (.slice Ai ni ci)) (hrj : rows[j]? = some (some (f,lj))) (hvj : vals[j]? = some vj) : VW (fun q => vj.ownBlock = some q) W Ai ni ci li := by
 have hb := k.bv i hri hvi
 refine ⟨hb.cap.1,hb.cap.2,fun W' ho => ?_⟩
 refine (hb.move fun q hq => ho.block q (hb.lt q hq) fun e => ?_).C
 exact k.ob.sep i j _ _ _ _ q hri hrj hij hvi hvj hq e
end
theorem split_calls {S : Nat → Prop} (w : World) (A B : Option Addr) (n c m d : Nat) (h u x y z : List UInt8) (hh : VW S w A n c h) (hu : VW S w B m d u) (hS : ∀ k,S k → k < w.heap.size) (hp : partU h u = some (x,y,z)) :
  Calls Try.prog 81 #[.slice A n c,.slice B m d] w (ThreePost S w x y z) := by
 unfold partU at hp
 cases hs : SpA.schEnd 0 u with
 | none =>
  rw [hs] at hp
  cases hp
  exact split_none w A B n c m d h u hh hu hS hs
 | some i =>
  rw [hs] at hp
  have hi := SpA.schEnd_lt u 0 i hs
  simp only at hp
  split at hp
  ·
   cases hp
  rename_i h2
  rw [List.length_drop] at h2
  have h3 : i + 3 ≤ u.length := by omega
  split at hp
  ·
   rename_i h4
   cases hp
   exact split_slash w A B n c m d i h u _ hh hu hS hs rfl h3 h4
  rename_i h4
  split at hp
  ·
   rename_i h6
   cases hp
   exact split_query w A B n c m d i h u _ hh hu hS hs rfl h3 h4 h6
  rename_i h6
  cases hp
  exact split_bare w A B n c m d i h u _ hh hu hS hs rfl h3 h4 h6
theorem partU_len {h u x y z : List UInt8} (hp : partU h u = some (x,y,z)) : x.length ≤ u.length + 4 ∧ y.length ≤ h.length + u.length ∧ z.length ≤ u.length + 1 := by
 have key : ∀ (p : UInt8 → Bool) (l : List UInt8),(l.takeWhile p).length ≤ l.length ∧ (l.dropWhile p).length ≤ l.length := fun p l => ⟨List.takeWhile_sublist _ |>.length_le,List.dropWhile_sublist _ |>.length_le⟩
 unfold partU at hp
 cases hs : SpA.schEnd 0 u with
 | none => rw [hs] at hp;cases hp;simp [HTTP]
 | some i =>
  rw [hs] at hp
  have hd : (u.drop (i + 3)).length ≤ u.length := by simp
  have k1 := key (· != 47) (u.drop (i + 3))
  have k2 := key (· != 63) (u.drop (i + 3))
  simp only at hp
  split at hp
  ·
   cases hp
  split at hp
  ·
   cases hp;simp only [upto];refine ⟨by simp;omega,by omega,by omega⟩
  split at hp
  ·
   cases hp;simp only [upto];refine ⟨by simp;omega,by omega,by omega⟩
  cases hp;refine ⟨by simp;omega,by omega,by simp⟩
theorem OS_lt {T : TypeId} {g : Nat} {W : World} {vals : List Value} {rows : List (Option (Bool × List UInt8))} (h : OBJ W g T vals rows) (hrow : ∀ i,isRow i = true → ∃ l,rows[i]? = some (some l)) (k : Nat) (hk : OS g vals k) : k < W.heap.size := by
 rcases hk with rfl|⟨i,v,hi,hv,hb⟩
 ·
  exact h.lt
 obtain ⟨l,hl⟩ := hrow i hi
 obtain ⟨v',hv',hr⟩ := h.row i l.1 l.2 hl
 rw [hv] at hv';cases hv'
 exact hr.lt k hb
theorem urW_rows (f : Bool) (o s p q h ho fu rq us pa : List UInt8) (i : Nat) (hi : isRow i = true) : ∃ l,(urW f o s p q h ho fu rq us pa)[i]? = some (some l) := by
 simp only [isRow,Bool.or_eq_true,beq_iff_eq] at hi
 rcases hi with ((((((rfl|rfl)|rfl)|rfl)|rfl)|rfl)|rfl)|rfl <;> exact ⟨_,rfl⟩
theorem reset_step {g : Nat} {w w1 : World} {A0 A1 A2 A3 A4 A5 A12 A13 : Option Addr} {n0 n1 n2 n3 n4 n5 n12 n13 c0 c1 c2 c3 c4 c5 c12 c13 : Nat} {b8 b9 : Bool} {v10 v11 : Value} (ho : Only (fun j => j = g) w w1) :
  PStep g w (urV (.slice A0 n0 c0) (.slice A1 n1 c1) (.slice A2 n2 c2) (.slice A3 n3 c3) (.slice A4 n4 c4) (.slice A5 n5 c5) b8 b9 v10 v11 (.slice A12 n12 c12) (.slice A13 n13 c13)) w1 (urV (.slice A0 0 c0) (.slice A1 0 c1) (.slice A2 0 c2) (.slice A3 0 c3) (.slice A4 0 c4) (.slice A5 0 c5) false false v10 v11 (.slice A12 0 c12) (.slice A13 0 c13)) := by
 refine ⟨ho.mono fun j _ h => .inl h,fun k hk => .inl ?_⟩
 rcases hk with rfl|⟨i,v,hi,hv,hb⟩
 ·
  exact .inl rfl
 simp only [isRow,Bool.or_eq_true,beq_iff_eq] at hi
 have key : ∀ {A : Option Addr} {n c c' : Nat},(Value.slice A 0 c).ownBlock = some k → (Value.slice A n c').ownBlock = some k := fun {A n c c'} h => by
  cases A with
  | none => cases h
  | some a => exact h
 rcases hi with ((((((rfl|rfl)|rfl)|rfl)|rfl)|rfl)|rfl)|rfl <;> (cases hv;first|exact .inr ⟨0,_,rfl,rfl,key hb⟩|exact .inr ⟨1,_,rfl,rfl,key hb⟩|exact .inr ⟨2,_,rfl,rfl,key hb⟩|exact .inr ⟨3,_,rfl,rfl,key hb⟩|exact .inr ⟨4,_,rfl,rfl,key hb⟩|exact .inr ⟨5,_,rfl,rfl,key hb⟩|exact .inr ⟨12,_,rfl,rfl,key hb⟩|exact .inr ⟨13,_,rfl,rfl,key hb⟩)
end Go.Proofs.Ytbkeakeldegkeaa.Q
end
