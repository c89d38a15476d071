/- FnUriSays: the law's function, called with any arguments, returns true and leaves its arguments as they were: every input, no condition. Part 9 of 16. -/
import Derived.Test.YtbkeakeldegkeaaZFnUriSays6
import Derived.Test.YtbkeakeldegkeaaZFnUriSays7
import Derived.Test.YtbkeakeldegkeaaZFnUriSays1
set_option linter.unusedVariables false
set_option linter.unusedSimpArgs false
section
namespace Go.Proofs.Ytbkeakeldegkeaa.Q
open Go.RowKit Go.Proofs.YtbkeakeldegkeaaW.PrintWords Go.Proofs.YtbkeakeldegkeaaW.PrintLast Go.Proofs.YtbkeakeldegkeaaW.PrintMore
open Go.Proofs.YtbkeakeldegkeaaKit (L size_L)
open Go.Proofs.Ytbkeakeldegkeaa.SpA (toI toI_length toI_append lowU UR SEP quoteP parseU lastU)
open Go.Proofs.Ytbkeakeldegkeaa.Ob
theorem upto_past_len (c : UInt8) (l : List UInt8) : (SpA.upto c l).length + (SpA.past c l).length ≤ l.length := by
 have h := congrArg List.length (List.takeWhile_append_dropWhile (p := (· != c)) (l := l))
 rw [List.length_append] at h
 unfold SpA.upto SpA.past
 rw [List.length_drop]
 omega
theorem restU_total (s h u : List UInt8) : (SpA.restU s h u).host.length ≤ h.length ∧ (SpA.restU s h u).orig.length + (SpA.restU s h u).query.length + (SpA.restU s h u).hash.length ≤ u.length ∧ (SpA.restU s h u).path.length ≤ u.length + 2 := by
 have h1 := upto_past_len 35 u
 have h2 := upto_past_len 63 (SpA.upto 35 u)
 refine ⟨?_,?_,?_⟩
 ·
  show ((SpA.authU h).2.2.map lowU).length ≤ _
  rw [List.length_map]
  have h3 := upto_past_len 64 h
  unfold SpA.authU
  split
  ·
   split
   ·
    show (SpA.past 64 h).length ≤ _
    omega
   show (SpA.past 64 h).length ≤ _
   omega
  exact Nat.le_refl _
 ·
  show (SpA.upto 63 (SpA.upto 35 u)).length + (SpA.past 63 (SpA.upto 35 u)).length + (SpA.past 35 u).length ≤ _
  omega
 have := norm_len2 (SpA.upto 63 (SpA.upto 35 u))
 show (SpA.norm (SpA.upto 63 (SpA.upto 35 u))).length ≤ _
 omega
theorem partU_total {h u s h' u' : List UInt8} (e : SpA.partU h u = some (s,h',u')) : s.length + h'.length + u'.length ≤ h.length + u.length + 5 ∧ u'.length ≤ u.length + 1 := by
 unfold SpA.partU at e
 split at e
 ·
  cases e
  have : SpA.HTTP.length = 4 := rfl
  omega
 rename_i i hi
 have hl := SpA.schEnd_lt u 0 i hi
 have tw : ∀ c (l : List UInt8),(SpA.upto c l).length + (l.dropWhile (· != c)).length = l.length := fun c l => by
  have := congrArg List.length (List.takeWhile_append_dropWhile (p := (· != c)) (l := l))
  rw [List.length_append] at this
  exact this
 split at e
 ·
  cases e
 split at e
 ·
  cases e
  have := tw 47 (u.drop (i + 3))
  rw [List.length_drop] at this
  rw [List.length_take]
  omega
 split at e
 ·
  cases e
  have := tw 63 (u.drop (i + 3))
  rw [List.length_drop] at this
  rw [List.length_take]
  omega
 cases e
 rw [List.length_take,List.length_drop]
 simp only [List.length_cons,List.length_nil]
 omega
theorem parse_total {h u : List UInt8} {r : UR} (hp : parseU h u = some r) : r.scheme.length + r.host.length + r.orig.length + r.path.length + r.query.length + r.hash.length ≤ h.length + u.length + u.length + 20 := by
 unfold parseU at hp
 split at hp
 ·
  cases hp
  simp
 split at hp
 ·
  cases hq : SpA.partU h u with
  | none => rw [hq] at hp;cases hp
  | some x =>
   obtain ⟨s,h',u'⟩ := x
   rw [hq] at hp
   cases hp
   have h1 := partU_total hq
   have h2 := restU_total (s.map lowU) h' u'
   have h3 : (SpA.restU (s.map lowU) h' u').scheme.length = s.length := by show (s.map lowU).length = _;rw [List.length_map]
   simp only at h2 h3 ⊢
   omega
 cases hp
 have h2 := restU_total [] h u
 have h3 : (SpA.restU [] h u).scheme.length = 0 := rfl
 omega
theorem full_eq (r : UR) (raw : Bool) (h : r.path ≠ []) : fullL r.scheme r.host raw r.orig r.path r.query r.hash = r.full raw ∧ reqL raw r.orig r.path r.query = r.req raw := by
 have e : reqL raw r.orig r.path r.query = r.req raw := by
  unfold reqL UR.req UR.pth
  rw [if_neg h]
  rfl
 refine ⟨?_,e⟩
 unfold fullL UR.full
 rw [e]
 rfl
structure UT (w W : World) (x0 x1 x2 x3 : Value) : Prop where
 be : Below w.heap.size w W
 r0 : W.heap[w.heap.size]? = some (.cells #[x0] 9 (0,0))
 r1 : W.heap[w.heap.size + 1]? = some (.cells #[x1] 9 (0,0))
 r2 : W.heap[w.heap.size + 1 + 1]? = some (.cells #[x2] 9 (0,0))
 r3 : W.heap[w.heap.size + 1 + 1 + 1]? = some (.cells #[x3] 4 (0,0))
 sz : w.heap.size + 5 ≤ W.heap.size
theorem UT.only {w W W2 : World} {x0 x1 x2 x3 : Value} {S : Nat → Prop} (h : UT w W x0 x1 x2 x3) (ho : Only S W W2) (hS : ∀ k,k < w.heap.size + 4 → ¬ S k) : UT w W2 x0 x1 x2 x3 := by
 have := h.sz
 refine ⟨⟨ho.os.trans h.be.os,ho.tape.trans h.be.tape,ho.output.trans h.be.output,Nat.le_trans h.be.size ho.size,fun k hk => (ho.block k (by omega) (hS k (by omega))).trans (h.be.block k hk)⟩,?_,?_,?_,?_,Nat.le_trans h.sz ho.size⟩
 ·
  exact (ho.block _ (by omega) (hS _ (by omega))).trans h.r0
 ·
  exact (ho.block _ (by omega) (hS _ (by omega))).trans h.r1
 ·
  exact (ho.block _ (by omega) (hS _ (by omega))).trans h.r2
 exact (ho.block _ (by omega) (hS _ (by omega))).trans h.r3
theorem UT.below {w W W2 : World} {x0 x1 x2 x3 : Value} (h : UT w W x0 x1 x2 x3) (hb : Below W.heap.size W W2) : UT w W2 x0 x1 x2 x3 := h.only (S := fun _ => False) (Only.of_below hb) (fun _ _ e => e)
theorem UT.put0 {w W : World} {x0 x1 x2 x3 : Value} (h : UT w W x0 x1 x2 x3) (v : Value) : UT w (W.setCell ⟨w.heap.size,0,none⟩ v) v x1 x2 x3 :=
 ⟨h.be.setCell (p := ⟨w.heap.size,0,none⟩) (by show _ ≤ w.heap.size;omega) v,blk_put h.r0 0 v rfl,(Below.heap_setCell _ _ _ _ (by show w.heap.size + 1 ≠ w.heap.size;omega)).trans h.r1,(Below.heap_setCell _ _ _ _ (by show w.heap.size + 1 + 1 ≠ w.heap.size;omega)).trans h.r2,(Below.heap_setCell _ _ _ _ (by show w.heap.size + 1 + 1 + 1 ≠ w.heap.size;omega)).trans h.r3,by simpa [World.setCell] using h.sz⟩
theorem UT.put1 {w W : World} {x0 x1 x2 x3 : Value} (h : UT w W x0 x1 x2 x3) (v : Value) : UT w (W.setCell ⟨w.heap.size + 1,0,none⟩ v) x0 v x2 x3 :=
 ⟨h.be.setCell (p := ⟨w.heap.size + 1,0,none⟩) (by show _ ≤ w.heap.size + 1;omega) v,(Below.heap_setCell _ _ _ _ (by show w.heap.size ≠ w.heap.size + 1;omega)).trans h.r0,blk_put h.r1 0 v rfl,(Below.heap_setCell _ _ _ _ (by show w.heap.size + 1 + 1 ≠ w.heap.size + 1;omega)).trans h.r2,(Below.heap_setCell _ _ _ _ (by show w.heap.size + 1 + 1 + 1 ≠ w.heap.size + 1;omega)).trans h.r3,by simpa [World.setCell] using h.sz⟩
theorem UT.put2 {w W : World} {x0 x1 x2 x3 : Value} (h : UT w W x0 x1 x2 x3) (v : Value) : UT w (W.setCell ⟨w.heap.size + 1 + 1,0,none⟩ v) x0 x1 v x3 :=
 ⟨h.be.setCell (p := ⟨w.heap.size + 1 + 1,0,none⟩) (by show _ ≤ w.heap.size + 1 + 1;omega) v,(Below.heap_setCell _ _ _ _ (by show w.heap.size ≠ w.heap.size + 1 + 1;omega)).trans h.r0,(Below.heap_setCell _ _ _ _ (by show w.heap.size + 1 ≠ w.heap.size + 1 + 1;omega)).trans h.r1,blk_put h.r2 0 v rfl,(Below.heap_setCell _ _ _ _ (by show w.heap.size + 1 + 1 + 1 ≠ w.heap.size + 1 + 1;omega)).trans h.r3,by simpa [World.setCell] using h.sz⟩
theorem UT.put3 {w W : World} {x0 x1 x2 x3 : Value} (h : UT w W x0 x1 x2 x3) (v : Value) : UT w (W.setCell ⟨w.heap.size + 1 + 1 + 1,0,none⟩ v) x0 x1 x2 v :=
 ⟨h.be.setCell (p := ⟨w.heap.size + 1 + 1 + 1,0,none⟩) (by show _ ≤ w.heap.size + 1 + 1 + 1;omega) v,(Below.heap_setCell _ _ _ _ (by show w.heap.size ≠ w.heap.size + 1 + 1 + 1;omega)).trans h.r0,(Below.heap_setCell _ _ _ _ (by show w.heap.size + 1 ≠ w.heap.size + 1 + 1 + 1;omega)).trans h.r1,(Below.heap_setCell _ _ _ _ (by show w.heap.size + 1 + 1 ≠ w.heap.size + 1 + 1 + 1;omega)).trans h.r2,blk_put h.r3 0 v rfl,by simpa [World.setCell] using h.sz⟩
theorem UT.fresh (w : World) (L : Array Value) (TT : TypeId) : UT w (((((w.alloc (.cells #[.string ⟨#[]⟩] 9)).alloc (.cells #[.string ⟨#[]⟩] 9)).alloc (.cells #[.string ⟨#[]⟩] 9)).alloc (.cells #[.bool false] 4)).alloc (.cells L TT)) (.string ⟨#[]⟩) (.string ⟨#[]⟩) (.string ⟨#[]⟩) (.bool false) := by
 refine ⟨below_alloc (below_alloc (below_alloc (below_alloc (below_alloc (Below.refl _ _) _) _) _) _) _,?_,?_,?_,?_,by simp⟩
 ·
  rw [Below.heap_alloc _ _ _ (by first|(simp;done)|(simp;omega)),Below.heap_alloc _ _ _ (by first|(simp;done)|(simp;omega)),Below.heap_alloc _ _ _ (by first|(simp;done)|(simp;omega)),Below.heap_alloc _ _ _ (by simp)]
  exact heap_alloc_new w _
 ·
  rw [Below.heap_alloc _ _ _ (by first|(simp;done)|(simp;omega)),Below.heap_alloc _ _ _ (by first|(simp;done)|(simp;omega)),Below.heap_alloc _ _ _ (by simp)]
  have := heap_alloc_new (w.alloc (.cells #[.string ⟨#[]⟩] 9)) (.cells #[.string ⟨#[]⟩] 9)
  simpa using this
 ·
  rw [Below.heap_alloc _ _ _ (by first|(simp;done)|(simp;omega)),Below.heap_alloc _ _ _ (by simp)]
  have := heap_alloc_new ((w.alloc (.cells #[.string ⟨#[]⟩] 9)).alloc (.cells #[.string ⟨#[]⟩] 9)) (.cells #[.string ⟨#[]⟩] 9)
  simpa using this
 rw [Below.heap_alloc _ _ _ (by simp)]
 have := heap_alloc_new (((w.alloc (.cells #[.string ⟨#[]⟩] 9)).alloc (.cells #[.string ⟨#[]⟩] 9)).alloc (.cells #[.string ⟨#[]⟩] 9)) (.cells #[.bool false] 4)
 simpa using this
theorem uriText_idle (a b c d : Nat) (w : World) :
  CallsD Try.prog 33 #[.pointer (some ⟨a,0,none⟩),.pointer (some ⟨b,0,none⟩),.pointer (some ⟨c,0,none⟩),.pointer (some ⟨d,0,none⟩)] .returning w fun e u' w' => e = .returned (.tuple #[]) ∧ u' = .returning ∧ w' = w := by
 refine callsD_of_wpS Try.func33 rfl fun c₀ cs hu => ?_
 apply wpS_seq
 apply wpS_region
 simp [wpOpsS,go_sem,recoverD,hu,Try.ntmps33,Exit.thenS]
 refine wpS_cond (t := false) (by simp [Act.eval,Array.replicate]) ?_
 simp only [Bool.false_eq_true,if_false]
 refine wpS_of_wp (wp_skip ?_)
 cases c₀
 simp_all [bodyPostS,results,Try.results33]
set_option maxHeartbeats 16000000 in
set_option maxRecDepth 100000 in
theorem uriText_calls (a0 a1 : ByteArray) (a2 : Bool) (w : World) (h0 : a0.size ≤ 3000000000) (h1 : a1.size ≤ 3000000000) (r : UR) (hp : parseU a0.data.toList a1.data.toList = some r) (hne : r.path ≠ []) (hpo : r.orig.length ≤ 2147483647) :
  Calls Try.prog 23 #[.string a0,.string a1,.bool a2] w fun e w' => e = .returned (.tuple #[.string ⟨(r.full a2).toArray⟩,.string ⟨(r.req a2).toArray⟩,.string ⟨(lastU r.path).toArray⟩,.bool true]) ∧ Below w.heap.size w w' := by
 have hmf : ∀ (fn : Fn) (first cap : Array Value) (w : World),(Instr.makeFunc fn first cap).run Try.prog w = .ok (.func fn first cap) w := fun _ _ _ _ => rfl
 have HP := Aside0.mk hp
 have HNE := Aside0.mk hne
 have HPO := Aside0.mk hpo
 have HL0 := Aside0.mk h0
 have HL1 := Aside0.mk h1
 have HPL : Aside0 (r.path.length ≤ 4611686018427387) := ⟨by have := parse_total hp;have e0 : a0.data.toList.length = a0.size := (size_L a0).symm;have e1 : a1.data.toList.length = a1.size := (size_L a1).symm;omega⟩
 have HTOT : Aside0 (r.scheme.length + r.host.length + r.orig.length + r.path.length + r.query.length + r.hash.length ≤ 10000000000) := ⟨by have := parse_total hp;have e0 : a0.data.toList.length = a0.size := (size_L a0).symm;have e1 : a1.data.toList.length = a1.size := (size_L a1).symm;omega⟩
 have HFE := Aside0.mk (full_eq r a2 hne)
 have HU0 := Aside0.mk (UT.fresh w #[.slice none 0 0,.slice none 0 0,.slice none 0 0,.slice none 0 0,.slice none 0 0,.slice none 0 0,.slice none 0 0,.slice none 0 0,.bool false,.bool false,.slice none 0 0,.slice none 0 0,.slice none 0 0,.slice none 0 0] 54)
 have HG0 : Aside0 (OBJ (((((w.alloc (.cells #[.string ⟨#[]⟩] 9)).alloc (.cells #[.string ⟨#[]⟩] 9)).alloc (.cells #[.string ⟨#[]⟩] 9)).alloc (.cells #[.bool false] 4)).alloc (.cells #[.slice none 0 0,.slice none 0 0,.slice none 0 0,.slice none 0 0,.slice none 0 0,.slice none 0 0,.slice none 0 0,.slice none 0 0,.bool false,.bool false,.slice none 0 0,.slice none 0 0,.slice none 0 0,.slice none 0 0] 54)) (w.heap.size + 1 + 1 + 1 + 1) 54 (urV (.slice none 0 0) (.slice none 0 0) (.slice none 0 0) (.slice none 0 0) (.slice none 0 0) (.slice none 0 0) false false (.slice none 0 0) (.slice none 0 0) (.slice none 0 0) (.slice none 0 0)) (urW false [] [] [] [] [] [] [] [] [] [])) := ⟨urZ_obj (by
  have := heap_alloc_new ((((w.alloc (.cells #[.string ⟨#[]⟩] 9)).alloc (.cells #[.string ⟨#[]⟩] 9)).alloc (.cells #[.string ⟨#[]⟩] 9)).alloc (.cells #[.bool false] 4)) (.cells #[.slice none 0 0,.slice none 0 0,.slice none 0 0,.slice none 0 0,.slice none 0 0,.slice none 0 0,.slice none 0 0,.slice none 0 0,.bool false,.bool false,.slice none 0 0,.slice none 0 0,.slice none 0 0,.slice none 0 0] 54)
  rw [show ((((w.alloc (.cells #[.string ⟨#[]⟩] 9)).alloc (.cells #[.string ⟨#[]⟩] 9)).alloc (.cells #[.string ⟨#[]⟩] 9)).alloc (.cells #[.bool false] 4)).heap.size = w.heap.size + 1 + 1 + 1 + 1 by simp] at this
  exact this)⟩
 have HE3 : Aside0 ((((((w.alloc (.cells #[.string ⟨#[]⟩] 9)).alloc (.cells #[.string ⟨#[]⟩] 9)).alloc (.cells #[.string ⟨#[]⟩] 9)).alloc (.cells #[.bool false] 4)).alloc (.cells #[.slice none 0 0,.slice none 0 0,.slice none 0 0,.slice none 0 0,.slice none 0 0,.slice none 0 0,.slice none 0 0,.slice none 0 0,.bool false,.bool false,.slice none 0 0,.slice none 0 0,.slice none 0 0,.slice none 0 0] 54)).heap.size = w.heap.size + 1 + 1 + 1 + 1 + 1) := ⟨by simp⟩
 clear hp hne h0 h1 hpo
 go_enter_defers Try.func23,Try.ntmps23
 go_wp2_with (first|((with_reducible refine gate_dst (N := 13) rfl ?_);refine YtbkeakeldegkeaaX.convL_ (some 13) rfl rfl 9 49 _ rfl a0 rfl ?_;refine (conv_BR2 9 49 5 Try.underlying9 Try.underlying49 Try.underlying5 a0 _).mono ?_;rintro e w1 ⟨k1,rfl,hk1,hb1,hbl1⟩;refine ⟨_,rfl,?_⟩;rw [HE3.out] at hb1;have HU1 := Aside0.mk (HU0.out.below hbl1);have HG1 := Aside0.mk (HG0.out.below hbl1);have HV1 := Aside0.mk (VW.of_conv (S := fun j => j = w.heap.size + 1 + 1 + 1 + 1) hb1 (fun e => by omega) hk1 HL0.out);clear hk1 hb1 hbl1)|((with_reducible refine gate_dst (N := 15) rfl ?_);refine YtbkeakeldegkeaaX.convL_ (some 15) rfl rfl 9 49 _ rfl a1 rfl ?_;refine (conv_BR2 9 49 5 Try.underlying9 Try.underlying49 Try.underlying5 a1 _).mono ?_;rintro e w2 ⟨k2,rfl,hk2,hb2,hbl2⟩;refine ⟨_,rfl,?_⟩;have HU2 := Aside0.mk (HU1.out.below hbl2);have HG2 := Aside0.mk (HG1.out.below hbl2);have HV2 := Aside0.mk (HV1.out.below hbl2);have HV3 := Aside0.mk (VW.of_conv (S := fun j => j = w.heap.size + 1 + 1 + 1 + 1) hb2 (fun e => by have := HU1.out.sz;omega) hk2 HL1.out);clear hk2 hb2 hbl2)|((with_reducible refine gate_callee (f := 30) rfl ?_);refine goesL_ (some 16) rfl rfl Try.func30 (by kernel_rfl) rfl #[.pointer (some ⟨w.heap.size + 1 + 1 + 1 + 1,0,none⟩),.slice (some ⟨_,0,none⟩) a0.size k1,.slice (some ⟨_,0,none⟩) a1.size k2] rfl (by (try simp only [List.map_toArray,List.map_cons,List.map_nil]);first|done|rfl) ?_;refine (uParse_fresh _ (w.heap.size + 1 + 1 + 1 + 1) HG2.out _ _ _ _ _ _ _ _ HV2.out HV3.out r HP.out (by have e1 : a0.data.toList.length = a0.size := (size_L a0).symm;have := HL0.out;omega) (by have e1 : a1.data.toList.length = a1.size := (size_L a1).symm;have := HL1.out;omega) HPO.out).mono ?_;rintro e w3 ⟨rfl,⟨A0,n0,c0,A1,n1,c1,A2,n2,c2,A3,n3,c3,A4,n4,c4,A5,n5,c5,A12,n12,c12,A13,n13,c13,ho⟩,hon⟩;refine ⟨_,rfl,?_⟩;have HU3 := Aside0.mk (HU2.out.only hon (fun k hk e => by omega));have HG3 := Aside0.mk ho;have e9 := ho.cell 9 _ rfl;have z9 := ho.fz 9;clear ho hon))
 clear e9 z9
 have hg4 : OBJ (w3.setCell ⟨w.heap.size + 1 + 1 + 1 + 1,9,none⟩ (.bool a2)) (w.heap.size + 1 + 1 + 1 + 1) 54 (urV (.slice A0 n0 c0) (.slice A1 n1 c1) (.slice A2 n2 c2) (.slice A3 n3 c3) (.slice A4 n4 c4) (.slice A5 n5 c5) false a2 (.slice none 0 0) (.slice none 0 0) (.slice A12 n12 c12) (.slice A13 n13 c13)) (urW false r.orig r.scheme r.path r.query r.hash r.host [] [] r.user r.pass) := HG3.out.put (by decide) 9 (show 9 < 14 by decide) (.bool a2) (by intro l e;cases e)
 have HG4 := Aside0.mk hg4
 have HU4 := Aside0.mk (HU3.out.only (S := fun j => j = w.heap.size + 1 + 1 + 1 + 1) (Only.set (S := fun j => j = w.heap.size + 1 + 1 + 1 + 1) (Only.refl _ _) (.inl rfl) 9 (.bool a2)) (fun k hk e => by omega))
 clear hg4
 obtain ⟨B,m,d,hlast⟩ := last_at A2 n2 c2 r.path (OBJ.len2 HG4.out 2 (b := false) rfl rfl).1 (OBJ.len2 HG4.out 2 (b := false) rfl rfl).2 HNE.out HPL.out
 have HLAST := Aside0.mk hlast
 clear hlast
 refine wp_region_noPanic ?_
 refine wp_region_any (by kernel_rfl) ?_
 try (change wpAny _ _ _ _ _ _ _ (World.drew _))
 refine wpAny_ready (rs := [0]) (by kernel_rfl) (by simp) ?_
 refine AllReady.cons rfl (fun K hK => ?_) AllReady.nil
 go_simp
 have hd4 : Below (w3.setCell ⟨w.heap.size + 1 + 1 + 1 + 1,9,none⟩ (.bool a2)).heap.size (w3.setCell ⟨w.heap.size + 1 + 1 + 1 + 1,9,none⟩ (.bool a2)) (w3.setCell ⟨w.heap.size + 1 + 1 + 1 + 1,9,none⟩ (.bool a2)).drew := below_drew1 (Below.refl _ _)
 refine (string_calls _ (w.heap.size + 1 + 1 + 1 + 1) (urV (.slice A0 n0 c0) (.slice A1 n1 c1) (.slice A2 n2 c2) (.slice A3 n3 c3) (.slice A4 n4 c4) (.slice A5 n5 c5) false a2 (.slice none 0 0) (.slice none 0 0) (.slice A12 n12 c12) (.slice A13 n13 c13)) (urW false r.orig r.scheme r.path r.query r.hash r.host [] [] r.user r.pass) (HG4.out.below hd4) A0 A1 A2 A3 A4 A5 none none n0 c0 n1 c1 n2 c2 n3 c3 n4 c4 n5 c5 0 0 0 0 true false true true a2 r.scheme r.host r.orig r.path r.query r.hash [] [] rfl rfl rfl rfl rfl rfl rfl rfl rfl rfl rfl rfl rfl rfl rfl rfl rfl rfl HNE.out (by have := HTOT.out;omega)).mono ?_
 rintro e w5 ⟨Af,nf,cf,Aq,nq,cq,rfl,hob,hon,ho1,ho2⟩
 rw [HFE.out.1] at hob ⊢
 rw [HFE.out.2] at hob
 have HU5 := Aside0.mk ((HU4.out.below hd4).only hon (by rintro k hk (e|e|e);omega;cases e;cases e))
 have hs5 : (w3.setCell ⟨w.heap.size + 1 + 1 + 1 + 1,9,none⟩ (.bool a2)).drew.heap.size ≤ w5.heap.size := hon.size
 have hob5 : OBJ w5 (w.heap.size + 1 + 1 + 1 + 1) 54 (urV (.slice A0 n0 c0) (.slice A1 n1 c1) (.slice A2 n2 c2) (.slice A3 n3 c3) (.slice A4 n4 c4) (.slice A5 n5 c5) false a2 (.slice Af nf cf) (.slice Aq nq cq) (.slice A12 n12 c12) (.slice A13 n13 c13)) (urW false r.orig r.scheme r.path r.query r.hash r.host (r.full a2) (r.req a2) r.user r.pass) := hob
 have HOQ : Aside0 (∀ k,(Value.slice Aq nq cq).ownBlock = some k → w.heap.size + 4 ≤ k) := ⟨fun k hk => by
  have := (HU4.out.below hd4).sz
  rcases ho1 k hk with (e|e|e)|e
  ·
   omega
  ·
   cases e
  ·
   cases e
  omega⟩
 have HG5 := Aside0.mk hob5
 clear hob hob5 hon ho1 ho2 hd4 hs5
 refine hK _ _ ?_
 clear hK K
 refine wpAny_ready (rs := [1]) (by kernel_rfl) (by simp) ?_
 refine AllReady.cons rfl (fun K hK => ?_) AllReady.nil
 go_simp
 refine (req_calls _ (w.heap.size + 1 + 1 + 1 + 1) (urV (.slice A0 n0 c0) (.slice A1 n1 c1) (.slice A2 n2 c2) (.slice A3 n3 c3) (.slice A4 n4 c4) (.slice A5 n5 c5) false a2 (.slice Af nf cf) (.slice Aq nq cq) (.slice A12 n12 c12) (.slice A13 n13 c13)) (urW false r.orig r.scheme r.path r.query r.hash r.host (r.full a2) (r.req a2) r.user r.pass) HG5.out A0 A2 A3 Aq n0 c0 n2 c2 n3 c3 nq cq false a2 r.orig r.path r.query (r.req a2) rfl rfl rfl rfl rfl rfl rfl rfl rfl rfl HNE.out (by have := HTOT.out;omega)).mono ?_
 rintro e w6 ⟨Ar,nr,cr,rfl,hob,hon,hown⟩
 rw [HFE.out.2] at hob
 have HU6 := Aside0.mk (HU5.out.only hon (by rintro k hk (e|e);omega;have := HOQ.out k e;omega))
 have HG6 : Aside0 (OBJ w6 (w.heap.size + 1 + 1 + 1 + 1) 54 (urV (.slice A0 n0 c0) (.slice A1 n1 c1) (.slice A2 n2 c2) (.slice A3 n3 c3) (.slice A4 n4 c4) (.slice A5 n5 c5) false a2 (.slice Af nf cf) (.slice Ar nr cr) (.slice A12 n12 c12) (.slice A13 n13 c13)) (urW false r.orig r.scheme r.path r.query r.hash r.host (r.full a2) (r.req a2) r.user r.pass)) := ⟨hob⟩
 have HOR : Aside0 (∀ k,(Value.slice Ar nr cr).ownBlock = some k → w.heap.size + 4 ≤ k) := ⟨fun k hk => by
  have := HU5.out.sz
  rcases hown k hk with e|e
  ·
   exact HOQ.out k e
  omega⟩
 have HVR : Aside0 (VW (fun j => w.heap.size ≤ j ∧ j < w.heap.size + 4) w6 Ar nr cr (r.req a2)) := ⟨OBJ.vw HG6.out 11 (b := true) rfl rfl (fun k hk e => by have := HOR.out k hk;omega)⟩
 have HT2 : Aside0 (∀ k,(Value.slice A2 n2 c2).ownBlock = some k → w.heap.size ≤ k → k < w.heap.size + 4 → False) := ⟨fun k hk h1 h2 => by
  obtain ⟨u,hu,hb⟩ := HG6.out.row 2 false r.path rfl
  cases hu
  obtain ⟨C,f,hC⟩ := hb.type hk
  rcases (by omega : k = w.heap.size ∨ k = w.heap.size + 1 ∨ k = w.heap.size + 1 + 1 ∨ k = w.heap.size + 1 + 1 + 1) with e|e|e|e
  ·
   rw [e,HU6.out.r0] at hC;cases hC
  ·
   rw [e,HU6.out.r1] at hC;cases hC
  ·
   rw [e,HU6.out.r2] at hC;cases hC
  rw [e,HU6.out.r3] at hC;cases hC⟩
 clear hob hon hown
 refine hK _ _ ?_
 clear hK K
 refine wpAny_of_held (S := fun W => Only (fun j => w.heap.size ≤ j ∧ j < w.heap.size + 4) w6 W) _ _ _ _ ?_
 have hS : Only (fun j => w.heap.size ≤ j ∧ j < w.heap.size + 4) w6 w6 := Only.refl _ _
 refine wpAnyH_take (i := 2) (v := .string ⟨(r.req a2).toArray⟩) rfl (by kernel_rfl) (by kernel_rfl) (by kernel_rfl) (fun _ _ _ h => h) (Or.inl ⟨by rfl,fun W hW => by have hcv := conv_C (P := Try.prog) (c := cr) (HVR.out.rd W hW) Try.underlying49 Try.underlying5 Try.underlying9;clear hS hW;go_simp⟩) hS ?_
 try simp only [Act.put,List.setIfInBounds_toArray,List.set_cons_zero,List.set_cons_succ]
 refine wpAnyH_ready (rs := [3]) (by kernel_rfl) (by simp) ?_
 refine AllReadyH.cons rfl (fun K hK => ?_) AllReadyH.nil
 have HSX := Aside0.mk hS
 clear hS
 go_simp
 have hS := HSX.out
 clear HSX
 refine (HLAST.out.2 _ _ _ _ false HG6.out rfl rfl).mono ?_
 rintro e w7 ⟨rfl,hb⟩
 have hS' := hS.trans (Only.of_below (S := fun _ => False) hb) (fun _ _ e => e.elim)
 have HU7 := Aside0.mk (HU6.out.below hb)
 clear hS hb
 refine hK.out _ _ hS' (fun hS => ?_)
 clear hK K hS'
 have HVL : Aside0 (VW (fun j => w.heap.size ≤ j ∧ j < w.heap.size + 4) w6 B m d (lastU r.path)) := ⟨HLAST.out.1 _ _ (OBJ.vw HG6.out 2 (b := false) rfl rfl (fun k hk e => HT2.out k hk e.1 e.2))⟩
 refine wpAnyH_take (i := 4) (v := .string ⟨(lastU r.path).toArray⟩) rfl (by kernel_rfl) (by kernel_rfl) (by kernel_rfl) (fun _ _ _ h => h) (Or.inl ⟨by rfl,fun W hW => by have hcv := conv_C (P := Try.prog) (c := d) (HVL.out.rd W hW) Try.underlying49 Try.underlying5 Try.underlying9;clear hS hW;go_simp⟩) hS ?_
 try simp only [Act.put,List.setIfInBounds_toArray,List.set_cons_zero,List.set_cons_succ]
 refine wpAnyH_ready (rs := [5]) (by kernel_rfl) (by simp) ?_
 refine AllReadyH.cons rfl (fun K hK => ?_) AllReadyH.nil
 have HSX := Aside0.mk hS
 clear hS
 have q0 := (blk_cell HU7.out.r0 0).trans rfl
 have z0 := blk_frozen HU7.out.r0 0
 go_simp
 clear q0 z0
 have HU8 := Aside0.mk (HU7.out.put0 (.string ⟨(r.full a2).toArray⟩))
 refine hK.out _ _ (HSX.out.set (.inl (by show w.heap.size ≤ w.heap.size ∧ w.heap.size < w.heap.size + 4;omega)) _ _) (fun hS => ?_)
 clear hK K HSX HU7
 refine wpAnyH_ready (rs := [6]) (by kernel_rfl) (by simp) ?_
 refine AllReadyH.cons rfl (fun K hK => ?_) AllReadyH.nil
 have HSX := Aside0.mk hS
 clear hS
 have q1 := (blk_cell HU8.out.r1 0).trans rfl
 have z1 := blk_frozen HU8.out.r1 0
 go_simp
 clear q1 z1
 have HU9 := Aside0.mk (HU8.out.put1 (.string ⟨(r.req a2).toArray⟩))
 refine hK.out _ _ (HSX.out.set (.inl (by show w.heap.size ≤ w.heap.size + 1 ∧ w.heap.size + 1 < w.heap.size + 4;omega)) _ _) (fun hS => ?_)
 clear hK K HSX HU8
 refine wpAnyH_ready (rs := [7]) (by kernel_rfl) (by simp) ?_
 refine AllReadyH.cons rfl (fun K hK => ?_) AllReadyH.nil
 have HSX := Aside0.mk hS
 clear hS
 have q2 := (blk_cell HU9.out.r2 0).trans rfl
 have z2 := blk_frozen HU9.out.r2 0
 go_simp
 clear q2 z2
 have HU10 := Aside0.mk (HU9.out.put2 (.string ⟨(lastU r.path).toArray⟩))
 refine hK.out _ _ (HSX.out.set (.inl (by show w.heap.size ≤ w.heap.size + 1 + 1 ∧ w.heap.size + 1 + 1 < w.heap.size + 4;omega)) _ _) (fun hS => ?_)
 clear hK K HSX HU9
 refine wpAnyH_ready (rs := [8]) (by kernel_rfl) (by simp) ?_
 refine AllReadyH.cons rfl (fun K hK => ?_) AllReadyH.nil
 have HSX := Aside0.mk hS
 clear hS
 have q3 := (blk_cell HU10.out.r3 0).trans rfl
 have z3 := blk_frozen HU10.out.r3 0
 go_simp
 clear q3 z3
 have HU11 := Aside0.mk (HU10.out.put3 (.bool true))
 refine hK.out _ _ (HSX.out.set (.inl (by show w.heap.size ≤ w.heap.size + 1 + 1 + 1 ∧ w.heap.size + 1 + 1 + 1 < w.heap.size + 4;omega)) _ _) (fun hS => ?_)
 clear hK K HSX HU10
 refine wpAnyH_done (by kernel_rfl) ?_ _
 refine NoPanic.normal ?_
 clear hS
 have hfin := HU11.out
 clear HU11
 revert hfin
 refine gen_goal (fun W => UT w W (.string ⟨(r.full a2).toArray⟩) (.string ⟨(r.req a2).toArray⟩) (.string ⟨(lastU r.path).toArray⟩) (.bool true)) _ _ (fun W9 hfin => ?_)
 have HF := Aside0.mk hfin
 clear hfin
 go_wp2
 refine leaves_cons (f := 33) (args := #[.pointer (some ⟨w.heap.size,0,none⟩),.pointer (some ⟨w.heap.size + 1,0,none⟩),.pointer (some ⟨w.heap.size + 1 + 1,0,none⟩),.pointer (some ⟨w.heap.size + 1 + 1 + 1,0,none⟩)]) (by simp) (by simp [go_sem]) ?_
 refine (uriText_idle (w.heap.size) (w.heap.size + 1) (w.heap.size + 1 + 1) (w.heap.size + 1 + 1 + 1) _).mono ?_
 rintro e u' w'' ⟨rfl,rfl,rfl⟩
 have s0 := (blk_cell HF.out.r0 0).trans rfl
 have s1 := (blk_cell HF.out.r1 0).trans rfl
 have s2 := (blk_cell HF.out.r2 0).trans rfl
 have s3 := (blk_cell HF.out.r3 0).trans rfl
 simp [Leaves,settle,results,Try.results23,go_sem,s0,s1,s2,s3]
 exact HF.out.be
end Go.Proofs.Ytbkeakeldegkeaa.Q
end
section
namespace Go.Proofs.Ytbkeakeldegkeaa.Q
open Go.RowKit Go.Proofs.YtbkeakeldegkeaaW.PrintWords Go.Proofs.YtbkeakeldegkeaaW.PrintLast Go.Proofs.YtbkeakeldegkeaaW.PrintMore
attribute [local go_sem] max2_int min2_int max_two min_two max_three min_three max_four min_four
def impl_UriText.f (a0 : ByteArray) (a1 : ByteArray) (a2 : Bool) : Option (ByteArray × ByteArray × ByteArray × Bool) := if (a0.size ≤ 3000000000 ∧ a1.size ≤ 3000000000) ∧ a1.data.toList.any Go.Proofs.Ytbkeakeldegkeaa.SpA.isCtl = false then (match Go.Proofs.Ytbkeakeldegkeaa.SpA.parseU a0.data.toList a1.data.toList with|none => none|some u => if u.orig.length ≤ 2147483647 then some (⟨(u.full a2).toArray⟩,⟨(u.req a2).toArray⟩,⟨(Go.Proofs.Ytbkeakeldegkeaa.SpA.lastU u.path).toArray⟩,true) else none) else none
theorem impl_UriText.calls (a0 : ByteArray) (a1 : ByteArray) (a2 : Bool) (r1 : ByteArray) (r2 : ByteArray) (r3 : ByteArray) (r4 : Bool) (w : World) (h : impl_UriText.f a0 a1 a2 = some (r1,r2,r3,r4)) :
  Calls Try.prog 23 #[.string a0,.string a1,.bool a2] w fun e w' => e = .returned (.tuple #[.string r1,.string r2,.string r3,.bool r4]) ∧ Below w.heap.size w w' := by
 unfold impl_UriText.f at h
 split at h
 ·
  rename_i hc
  cases hp : Go.Proofs.Ytbkeakeldegkeaa.SpA.parseU a0.data.toList a1.data.toList with
  | none => rw [hp] at h;cases h
  | some u =>
   rw [hp] at h
   simp only at h
   split at h
   ·
    have hk := uriText_calls a0 a1 a2 w hc.1.1 hc.1.2 u hp (Go.Proofs.Ytbkeakeldegkeaa.SpA.parse_path hp hc.2) (by assumption)
    cases h
    exact hk
   cases h
 cases h
end Go.Proofs.Ytbkeakeldegkeaa.Q
end
section
namespace Go.Proofs.Ytbkeakeldegkeaa.Q
open Go.RowKit Go.Proofs.YtbkeakeldegkeaaW.PrintWords Go.Proofs.YtbkeakeldegkeaaW.PrintLast Go.Proofs.YtbkeakeldegkeaaW.PrintMore
def lowB (c : UInt8) : UInt8 := if 65 ≤ c.toNat ∧ c.toNat ≤ 90 then c + 32 else c
def lowBL (l : List UInt8) (k : Nat) : List UInt8 := (l.take k).map lowB ++ l.drop k
theorem lowBL_len (l : List UInt8) (k : Nat) (h : k ≤ l.length) : (lowBL l k).length = l.length := by simp [lowBL];omega
theorem lowBL_at (l : List UInt8) (k : Nat) (h : k < l.length) : (lowBL l k)[k]? = some l[k] := by
 unfold lowBL
 rw [List.getElem?_append_right (by simp;omega)]
 simp [Nat.min_eq_left (Nat.le_of_lt h)]
theorem lowBL_set (l : List UInt8) (k : Nat) (h : k < l.length) : (lowBL l k).set k (lowB l[k]) = lowBL l (k + 1) := by
 unfold lowBL
 rw [List.set_append_right _ _ (by simp;omega),List.take_succ_eq_append_getElem h,List.map_append,List.append_assoc]
 simp [Nat.min_eq_left (Nat.le_of_lt h)]
 rw [List.drop_eq_getElem_cons h]
 rfl
theorem lowBL_same (l : List UInt8) (k : Nat) (h : k < l.length) (hc : lowB l[k] = l[k]) : lowBL l (k + 1) = lowBL l k := by
 unfold lowBL
 rw [List.take_succ_eq_append_getElem h,List.map_append,List.append_assoc]
 conv => rhs;rw [List.drop_eq_getElem_cons h]
 simp [hc]
set_option maxHeartbeats 8000000 in
set_option maxRecDepth 100000 in
theorem lower_calls (s : ByteArray) (w : World) (hl : s.size ≤ 140737488355328) : Calls Try.prog 42 #[.string s] w fun e w' => e = .returned (.string ⟨(s.data.toList.map lowB).toArray⟩) ∧ Below w.heap.size w w' := by
 have HL := Aside0.mk hl
 clear hl
 have HB := Aside0.mk (Below.refl w.heap.size w)
 obtain ⟨l,hl⟩ : ∃ l,l = s.data.toList := ⟨_,rfl⟩
 have HLL := Aside0.mk hl
 have hs : s.size = l.length := by rw [hl];simp
 have HS := Aside0.mk hs
 clear hl hs
 go_enter Try.func42,Try.ntmps42
 go_wp2_with (refine YtbkeakeldegkeaaX.convL_ (some 6) rfl rfl 9 49 _ rfl s rfl ?_;refine (conv_BR 9 49 5 Try.underlying9 Try.underlying49 Try.underlying5 s _).mono ?_;rintro en w6 ⟨c6,rfl,hbr,hb⟩;rw [← HLL.out] at hbr;refine ⟨_,rfl,?_⟩;have n0_ := Aside0.mk (below_step HB.out hb);have BK := hbr;clear HB hbr hb;have HB := n0_;clear n0_;obtain ⟨gb,hgb⟩ : ∃ g,g = w.heap.size := ⟨_,rfl⟩;have GE : Aside0 (w.heap.size ≤ gb) := ⟨by omega⟩;rw [← hgb] at BK ⊢;clear hgb)
 have BK0 : Aside0 (BR w6 gb 5 (lowBL l 0)) := ⟨by rw [show lowBL l 0 = l by simp [lowBL]];exact BK⟩
 clear BK
 go_loopw [9] (fun s9 wr => ∃ k : Nat,s9 = .int .i64 (k : Int) ∧ Aside0 (k ≤ l.length) ∧ Aside0 (BR wr gb 5 (lowBL l k)) ∧ Aside0 (Below w.heap.size w wr)) (fun s9 _ => (l.length - (intOf s9)).toNat)
 case atStart => exact ⟨0,rfl,⟨Nat.zero_le _⟩,BK0,HB⟩
 case round =>
  clear HB BK0
  obtain ⟨k,rfl,HK,BK,HB⟩ := hrel
  obtain ⟨x9,hx9⟩ : ∃ x : Int,x = (k : Int) := ⟨_,rfl⟩
  rw [← hx9]
  have HX := Aside0.mk hx9
  have hsl : (s.size : Int) = (l.length : Int) := by rw [HS.out]
  by_cases hlt : k < l.length
  ·
   have c1 : decide (x9 < (s.size : Int)) = true := decide_eq_true (by omega)
   have c2 : decide (0 ≤ x9) = true := decide_eq_true (by omega)
   have p1 : (0 ≤ x9) = True := eq_true (by omega)
   have q1 : (x9 < (s.size : Int)) = True := eq_true (by omega)
   have hxt : x9.toNat = k := by omega
   obtain ⟨b,hb⟩ : ∃ b : UInt8,b = l[k] := ⟨_,rfl⟩
   obtain ⟨y,hy⟩ : ∃ y : Int,y = (b.toNat : Int) := ⟨_,rfl⟩
   have hlen := lowBL_len l k HK.out
   have hat : (lowBL l k)[k]'(by omega) = l[k] := by have := lowBL_at l k hlt;rw [List.getElem?_eq_getElem (by omega)] at this;exact Option.some.inj this
   have hcell : wr.cell? ⟨gb,x9.toNat,none⟩ = some (.int .u8 y) := by rw [hxt,hy,hb,← hat];exact BK.out.cell k (by omega)
   have hfz : wr.frozen? ⟨gb,x9.toNat,none⟩ = false := by rw [hxt];exact BK.out.frozen k (by omega)
   have HY := Aside0.mk hy
   have HXT := Aside0.mk hxt
   have HLT := Aside0.mk hlt
   have HLEN := Aside0.mk hlen
   have HW : Aside0 (wrap64 (x9 + 1) = ((k + 1 : Nat) : Int)) := ⟨by have h1 := HL.out;have h2 := HS.out;rw [hx9];unfold wrap64;omega⟩
   by_cases d1 : 65 ≤ y
   ·
    have e1 : decide (65 ≤ y) = true := decide_eq_true d1
    by_cases d2 : y ≤ 90
    ·
     have e2 : decide (y ≤ 90) = true := decide_eq_true d2
     have HD := Aside0.mk (And.intro d1 d2)
     have hset : (lowBL l k).set k (lowB b) = lowBL l (k + 1) := by rw [hb];exact lowBL_set l k hlt
     have HSET := Aside0.mk hset
     clear hx9 hsl hxt hy hlen hat d1 d2 hset hb hlt
     go_wp2
     go_roundw
     case measure => show ((l.length : Int) - wrap64 (x9 + 1)).toNat < ((l.length : Int) - x9).toNat;rw [HW.out];have := HX.out;have := HLT.out;omega
     case rel =>
      refine ⟨k + 1,congrArg (Value.int .i64) HW.out,⟨by have := HLT.out;omega⟩,⟨?_⟩,⟨?_⟩⟩
      ·
       have hd := HD.out
       have hy := HY.out
       have hb2 : ((y + 32) % 256 : Int) = ((lowB b).toNat : Int) := by
        have hc : lowB b = b + 32 := if_pos (by omega)
        rw [hc]
        have : (b + 32).toNat = (b.toNat + 32) % 256 := UInt8.toNat_add ..
        rw [this]
        omega
       have hp := BK.out.put k (by have := HLEN.out;have := HLT.out;omega) (lowB b)
       rw [HSET.out] at hp
       rw [HXT.out,hb2]
       exact hp
      repeat (first|(with_reducible first|exact HB.out|apply below_alloc|apply pw_below_drewN|apply below_drew1|refine below_set ?_ GE.out)|exact HB.out)
    have e2 : decide (y ≤ 90) = false := decide_eq_false d2
    have hsame : lowBL l (k + 1) = lowBL l k := lowBL_same l k hlt (by rw [← hb];exact if_neg (by omega))
    have HSM := Aside0.mk hsame
    clear hx9 hsl hxt hy hlen hat d1 d2 hsame hb hlt
    go_wp2
    go_roundw
    case measure => show ((l.length : Int) - wrap64 (x9 + 1)).toNat < ((l.length : Int) - x9).toNat;rw [HW.out];have := HX.out;have := HLT.out;omega
    case rel => exact ⟨k + 1,congrArg (Value.int .i64) HW.out,⟨by have := HLT.out;omega⟩,⟨by rw [HSM.out];exact BK.out.heap rfl⟩,⟨bl_ HB.out⟩⟩
   have e1 : decide (65 ≤ y) = false := decide_eq_false d1
   have hsame : lowBL l (k + 1) = lowBL l k := lowBL_same l k hlt (by rw [← hb];exact if_neg (by omega))
   have HSM := Aside0.mk hsame
   clear hx9 hsl hxt hy hlen hat d1 hsame hb hlt
   go_wp2
   go_roundw
   case measure => show ((l.length : Int) - wrap64 (x9 + 1)).toNat < ((l.length : Int) - x9).toNat;rw [HW.out];have := HX.out;have := HLT.out;omega
   case rel => exact ⟨k + 1,congrArg (Value.int .i64) HW.out,⟨by have := HLT.out;omega⟩,⟨by rw [HSM.out];exact BK.out.heap rfl⟩,⟨bl_ HB.out⟩⟩
  have c1 : decide (x9 < (s.size : Int)) = false := decide_eq_false (by omega)
  have hke : k = l.length := by have := HK.out;omega
  have hcv := And.intro (BR.back BK.out 49 9 c6 Try.underlying49 Try.underlying5 Try.underlying9) (fun m => BR.back (BK.out.drewN m) 49 9 c6 Try.underlying49 Try.underlying5 Try.underlying9)
  rw [lowBL_len l k HK.out,← HS.out] at hcv
  have HKE := Aside0.mk hke
  clear hx9 hsl hke hlt
  go_wp2
  go_ret
  refine ⟨?_,bl_ HB.out⟩
  rw [HKE.out,← HLL.out]
  simp [lowBL]
end Go.Proofs.Ytbkeakeldegkeaa.Q
end
section
namespace Go.Proofs.Ytbkeakeldegkeaa.Q
open Go.RowKit Go.Proofs.YtbkeakeldegkeaaW.PrintWords Go.Proofs.YtbkeakeldegkeaaW.PrintLast Go.Proofs.YtbkeakeldegkeaaW.PrintMore
attribute [local go_sem] max2_int min2_int max_two min_two max_three min_three max_four min_four
def spec_fair.l0 : Nat → ByteArray → Int → Option (Bool)
 | 0,_,_ => none
 | k + 1,x0,x3 => if x3 < (x0.size : Int) then (if 0 ≤ x3 then (if (bt x0 x3) ≤ 32 then (some false) else (if (bt x0 x3) ≥ 127 then (some false) else (if (bt x0 x3) = 92 then (some false) else (spec_fair.l0 k x0 (wrap64 (x3 + 1)))))) else (none)) else (some true)
def spec_fair.f (k : Nat) (a0 : ByteArray) : Option (Bool) := spec_fair.l0 k a0 0
set_option maxHeartbeats 8000000 in
set_option maxRecDepth 100000 in
theorem spec_fair.calls (k : Nat) (a0 : ByteArray) (r : Bool) (w : World) (h : spec_fair.f k a0 = some r) :
  Calls Try.prog 37 #[.string a0] w fun e w' => e = .returned (.bool r) ∧ Drawn0 w w' := by
 have H : (spec_fair.l0 k a0 0) = some r := h
 clear h
 have H' := Aside0.mk H
 clear H
 go_enter Try.func37,Try.ntmps37
 go_wp2
 go_loopg [3] k (fun kq v3 w' => ∃ (x3_1 : Int),v3 = .int .i64 x3_1 ∧ Aside0 (spec_fair.l0 kq a0 x3_1 = some r) ∧ Aside0 (kq ≤ k) ∧ Drawn0 w w')
 case atStart => exact ⟨(0),(rs_),H',⟨Nat.le_refl _⟩,by repeat (first|exact Drawn0.refl _|apply Drawn0.step)⟩
 case round =>
  clear H'
  obtain ⟨x3_1,rfl,HA,HK1,⟨m1,rfl⟩⟩ := hrel
  cases gk with
  | zero => exact absurd HA.out (by simp [spec_fair.l0])
  | succ k1 =>
   have H := HA.out
   clear HA
   simp only [spec_fair.l0] at H
   by_cases c2 : x3_1 < (a0.size : Int)
   ·
    rw [if_pos c2] at H
    have c2b0 : decide (x3_1 < (a0.size : Int)) = true := decide_eq_true c2
    clear c2
    by_cases c3 : 0 ≤ x3_1
    ·
     rw [if_pos c3] at H
     have c3b0 : decide (0 ≤ x3_1) = true := decide_eq_true c3
     clear c3
     by_cases c5 : (bt a0 x3_1) ≤ 32
     ·
      rw [if_pos c5] at H
      have c5b0 : decide ((bt a0 x3_1) ≤ 32) = true := decide_eq_true c5
      clear c5
      obtain rfl := Option.some.inj H
      have p4 : 0 ≤ (x3_1 : Int) := odt_
      have q4 : x3_1 < (a0.size : Int) := odt_
      have hx4 := bt_at a0 x3_1
      replace p4 := eq_true p4
      replace q4 := eq_true q4
      go_wp2
      go_ret
      exact ⟨rs_,by repeat (first|exact Drawn0.refl _|apply Drawn0.step)⟩
     rw [if_neg c5] at H
     have c5b0 : decide ((bt a0 x3_1) ≤ 32) = false := decide_eq_false c5
     clear c5
     by_cases c7 : (bt a0 x3_1) ≥ 127
     ·
      rw [if_pos c7] at H
      have c7b0 : decide (127 ≤ (bt a0 x3_1)) = true := decide_eq_true c7
      clear c7
      obtain rfl := Option.some.inj H
      have p4 : 0 ≤ (x3_1 : Int) := odt_
      have q4 : x3_1 < (a0.size : Int) := odt_
      have hx4 := bt_at a0 x3_1
      replace p4 := eq_true p4
      replace q4 := eq_true q4
      have p6 : 0 ≤ (x3_1 : Int) := odt_
      have q6 : x3_1 < (a0.size : Int) := odt_
      have hx6 := bt_at a0 x3_1
      replace p6 := eq_true p6
      replace q6 := eq_true q6
      go_wp2
      go_ret
      exact ⟨rs_,by repeat (first|exact Drawn0.refl _|apply Drawn0.step)⟩
     rw [if_neg c7] at H
     have c7b0 : decide (127 ≤ (bt a0 x3_1)) = false := decide_eq_false c7
     clear c7
     by_cases c9 : (bt a0 x3_1) = 92
     ·
      rw [if_pos c9] at H
      have c9b0 : ((bt a0 x3_1) == 92) = true := beq_iff_eq.mpr c9
      have c9b1 : ((bt a0 x3_1) != 92) = false := bne_eq_false_iff_eq.mpr c9
      clear c9
      obtain rfl := Option.some.inj H
      have p4 : 0 ≤ (x3_1 : Int) := odt_
      have q4 : x3_1 < (a0.size : Int) := odt_
      have hx4 := bt_at a0 x3_1
      replace p4 := eq_true p4
      replace q4 := eq_true q4
      have p6 : 0 ≤ (x3_1 : Int) := odt_
      have q6 : x3_1 < (a0.size : Int) := odt_
      have hx6 := bt_at a0 x3_1
      replace p6 := eq_true p6
      replace q6 := eq_true q6
      have p8 : 0 ≤ (x3_1 : Int) := odt_
      have q8 : x3_1 < (a0.size : Int) := odt_
      have hx8 := bt_at a0 x3_1
      replace p8 := eq_true p8
      replace q8 := eq_true q8
      go_wp2
      go_ret
      exact ⟨rs_,by repeat (first|exact Drawn0.refl _|apply Drawn0.step)⟩
     rw [if_neg c9] at H
     have c9b0 : ((bt a0 x3_1) == 92) = false := beq_eq_false_iff_ne.mpr c9
     have c9b1 : ((bt a0 x3_1) != 92) = true := bne_iff_ne.mpr c9
     have H' := Aside0.mk H
     clear H
     have p4 : 0 ≤ (x3_1 : Int) := odt_
     have q4 : x3_1 < (a0.size : Int) := odt_
     have hx4 := bt_at a0 x3_1
     replace p4 := eq_true p4
     replace q4 := eq_true q4
     have p6 : 0 ≤ (x3_1 : Int) := odt_
     have q6 : x3_1 < (a0.size : Int) := odt_
     have hx6 := bt_at a0 x3_1
     replace p6 := eq_true p6
     replace q6 := eq_true q6
     have p8 : 0 ≤ (x3_1 : Int) := odt_
     have q8 : x3_1 < (a0.size : Int) := odt_
     have hx8 := bt_at a0 x3_1
     replace p8 := eq_true p8
     replace q8 := eq_true q8
     go_wp2
     go_roundg k1
     case measure => have := HK1.out;omega
     case rel => exact ⟨(wrap64 (x3_1 + 1)),(rs_),H',⟨by have := HK1.out;omega⟩,by repeat (first|exact Drawn0.refl _|apply Drawn0.step)⟩
    rw [if_neg c3] at H
    exact absurd H (by simp)
   rw [if_neg c2] at H
   have c2b0 : decide (x3_1 < (a0.size : Int)) = false := decide_eq_false c2
   clear c2
   obtain rfl := Option.some.inj H
   go_wp2
   go_ret
   exact ⟨rs_,by repeat (first|exact Drawn0.refl _|apply Drawn0.step)⟩
def spec_indexOf.l0 : Nat → ByteArray → Int → Int → Option (Int)
 | 0,_,_,_ => none
 | k + 1,x0,x1,x5 => if x5 < (x0.size : Int) then (if 0 ≤ x5 then (if (bt x0 x5) = x1 then (some x5) else (spec_indexOf.l0 k x0 x1 (wrap64 (x5 + 1)))) else (none)) else (some (-1))
def spec_indexOf.f (k : Nat) (a0 : ByteArray) (a1 : Int) : Option (Int) := spec_indexOf.l0 k a0 a1 0
set_option maxHeartbeats 8000000 in
set_option maxRecDepth 100000 in
theorem spec_indexOf.calls (k : Nat) (a0 : ByteArray) (a1 : Int) (r : Int) (w : World) (h : spec_indexOf.f k a0 a1 = some r) :
  Calls Try.prog 40 #[.string a0,.int .u8 a1] w fun e w' => e = .returned (.int .i64 r) ∧ Drawn0 w w' := by
 have H : (spec_indexOf.l0 k a0 a1 0) = some r := h
 clear h
 have H' := Aside0.mk H
 clear H
 go_enter Try.func40,Try.ntmps40
 go_wp2
 go_loopg [5] k (fun kq v5 w' => ∃ (x5_1 : Int),v5 = .int .i64 x5_1 ∧ Aside0 (spec_indexOf.l0 kq a0 a1 x5_1 = some r) ∧ Aside0 (kq ≤ k) ∧ Drawn0 w w')
 case atStart => exact ⟨(0),(rs_),H',⟨Nat.le_refl _⟩,by repeat (first|exact Drawn0.refl _|apply Drawn0.step)⟩
 case round =>
  clear H'
  try clear p2
  obtain ⟨x5_1,rfl,HA,HK1,⟨m1,rfl⟩⟩ := hrel
  cases gk with
  | zero => exact absurd HA.out (by simp [spec_indexOf.l0])
  | succ k1 =>
   have H := HA.out
   clear HA
   simp only [spec_indexOf.l0] at H
   by_cases c3 : x5_1 < (a0.size : Int)
   ·
    rw [if_pos c3] at H
    have c3b0 : decide (x5_1 < (a0.size : Int)) = true := decide_eq_true c3
    clear c3
    by_cases c4 : 0 ≤ x5_1
    ·
     rw [if_pos c4] at H
     have c4b0 : decide (0 ≤ x5_1) = true := decide_eq_true c4
     clear c4
     by_cases c6 : (bt a0 x5_1) = a1
     ·
      rw [if_pos c6] at H
      have c6b0 : ((bt a0 x5_1) == a1) = true := beq_iff_eq.mpr c6
      have c6b1 : ((bt a0 x5_1) != a1) = false := bne_eq_false_iff_eq.mpr c6
      clear c6
      obtain rfl := Option.some.inj H
      have p5 : 0 ≤ (x5_1 : Int) := odt_
      have q5 : x5_1 < (a0.size : Int) := odt_
      have hx5 := bt_at a0 x5_1
      replace p5 := eq_true p5
      replace q5 := eq_true q5
      go_wp2
      go_ret
      exact ⟨rs_,by repeat (first|exact Drawn0.refl _|apply Drawn0.step)⟩
     rw [if_neg c6] at H
     have c6b0 : ((bt a0 x5_1) == a1) = false := beq_eq_false_iff_ne.mpr c6
     have c6b1 : ((bt a0 x5_1) != a1) = true := bne_iff_ne.mpr c6
     have H' := Aside0.mk H
     clear H
     have p5 : 0 ≤ (x5_1 : Int) := odt_
     have q5 : x5_1 < (a0.size : Int) := odt_
     have hx5 := bt_at a0 x5_1
     replace p5 := eq_true p5
     replace q5 := eq_true q5
     go_wp2
     go_roundg k1
     case measure => have := HK1.out;omega
     case rel => exact ⟨(wrap64 (x5_1 + 1)),(rs_),H',⟨by have := HK1.out;omega⟩,by repeat (first|exact Drawn0.refl _|apply Drawn0.step)⟩
    rw [if_neg c4] at H
    exact absurd H (by simp)
   rw [if_neg c3] at H
   have c3b0 : decide (x5_1 < (a0.size : Int)) = false := decide_eq_false c3
   clear c3
   obtain rfl := Option.some.inj H
   go_wp2
   go_ret
   exact ⟨rs_,by repeat (first|exact Drawn0.refl _|apply Drawn0.step)⟩
def spec_Lower.f (a0 : ByteArray) : Option (ByteArray) := if a0.size ≤ 140737488355328 then some ⟨(a0.data.toList.map lowB).toArray⟩ else none
theorem spec_Lower.calls (a0 : ByteArray) (r : ByteArray) (w : World) (h : spec_Lower.f a0 = some r) :
  Calls Try.prog 42 #[.string a0] w fun e w' => e = .returned (.string r) ∧ Below w.heap.size w w' := by
 unfold spec_Lower.f at h
 split at h
 ·
  obtain rfl := Option.some.inj h
  exact lower_calls a0 w (by assumption)
 cases h
end Go.Proofs.Ytbkeakeldegkeaa.Q
end
