/- FnUriParts: the law's function, called with any arguments, returns true and leaves its arguments as they were: every input, no condition. Part 7 of 9. -/
import Derived.Test.YtbkeakeldegkeaaZFnUriParts5
import Derived.Defers
import Derived.Recover
import Derived.Laws.Pointers
import Derived.Test.YtbkeakeldegkeaaZFnUriParts1
import Derived.Test.YtbkeakeldegkeaaZFnUriParts2
section
namespace Go.Proofs.Ytbkeakeldegkeaa.Q
open Go.RowKit Go.Proofs.YtbkeakeldegkeaaW.PrintWords Go.Proofs.YtbkeakeldegkeaaW.PrintLast Go.Proofs.YtbkeakeldegkeaaW.PrintMore
open Go.Proofs.YtbkeakeldegkeaaKit (L size_L)
open Go.Proofs.Ytbkeakeldegkeaa.SpA (toI toI_length toI_append lowU UR parseU)
open Go.Proofs.Ytbkeakeldegkeaa.Ob
set_option linter.unusedVariables false
set_option linter.unusedSimpArgs false
theorem RW.form {b : Bool} {W : World} {v : Value} {l : List UInt8} (h : RW b W v l) : ∃ A n c, v = .slice A n c := by
  obtain ⟨A, c, e, _⟩ := h.slice
  exact ⟨A, _, c, e⟩
theorem VW.of_conv {S : Nat → Prop} {w : World} {g c : Nat} {s : ByteArray} (h : BR w g 5 s.data.toList) (hS : ¬ S g) (hc : s.size ≤ c) (hl : s.size ≤ 3000000000) : VW S w (Option.some ⟨g, 0, none⟩) s.size c s.data.toList := by
  have e : s.data.toList.length = s.size := (size_L s).symm
  have := VW.of_BR (S := S) (c := c) h hS (by omega) (by omega)
  rwa [e] at this
theorem urZ_obj {W : World} {g : Nat} (h : W.heap[g]? = some (.cells (urV (.slice none 0 0) (.slice none 0 0) (.slice none 0 0) (.slice none 0 0) (.slice none 0 0) (.slice none 0 0) false false (.slice none 0 0) (.slice none 0 0) (.slice none 0 0) (.slice none 0 0)).toArray 54 (0, 0))) : OBJ W g 54 (urV (.slice none 0 0) (.slice none 0 0) (.slice none 0 0) (.slice none 0 0) (.slice none 0 0) (.slice none 0 0) false false (.slice none 0 0) (.slice none 0 0) (.slice none 0 0) (.slice none 0 0)) (urW false [] [] [] [] [] [] [] [] [] []) := by
  refine OBJ.fresh h (by intro v hv; simp only [urV, List.mem_cons, List.not_mem_nil, or_false] at hv; rcases hv with rfl | rfl | rfl | rfl | rfl | rfl | rfl | rfl | rfl | rfl | rfl | rfl | rfl | rfl <;> rfl) fun i b l hi => ?_
  have h14 : i < 14 := (List.getElem?_eq_some_iff.1 hi).1
  rcases (by omega : i = 0 ∨ i = 1 ∨ i = 2 ∨ i = 3 ∨ i = 4 ∨ i = 5 ∨ i = 6 ∨ i = 7 ∨ i = 8 ∨ i = 9 ∨ i = 10 ∨ i = 11 ∨ i = 12 ∨ i = 13) with rfl | rfl | rfl | rfl | rfl | rfl | rfl | rfl | rfl | rfl | rfl | rfl | rfl | rfl <;> first | (cases hi; exact ⟨rfl, rfl⟩) | cases hi
theorem OS_z {g k : Nat} (h : OS g (urV (.slice none 0 0) (.slice none 0 0) (.slice none 0 0) (.slice none 0 0) (.slice none 0 0) (.slice none 0 0) false false (.slice none 0 0) (.slice none 0 0) (.slice none 0 0) (.slice none 0 0)) k) : k = g := by
  rcases h with h | ⟨i, v, hi, hv, hb⟩
  · exact h
  · simp only [isRow, Bool.or_eq_true, beq_iff_eq] at hi
    rcases hi with ((((((rfl | rfl) | rfl) | rfl) | rfl) | rfl) | rfl) | rfl <;> (cases hv; cases hb)
theorem ur_forms {W : World} {g : Nat} {x0 x1 x2 x3 x4 x5 x12 x13 v10 v11 : Value} {b8 b9 f : Bool} {o s p q h ho fu rq us pa : List UInt8} (k : OBJ W g 54 (urV x0 x1 x2 x3 x4 x5 b8 b9 v10 v11 x12 x13) (urW f o s p q h ho fu rq us pa)) :
    (∃ A n c, x0 = .slice A n c) ∧ (∃ A n c, x1 = .slice A n c) ∧ (∃ A n c, x2 = .slice A n c) ∧ (∃ A n c, x3 = .slice A n c) ∧ (∃ A n c, x4 = .slice A n c) ∧ (∃ A n c, x5 = .slice A n c) ∧ (∃ A n c, x12 = .slice A n c) ∧ (∃ A n c, x13 = .slice A n c) := by
  have key : ∀ (i : Nat) (b : Bool) (l : List UInt8) (v : Value), (urW f o s p q h ho fu rq us pa)[i]? = some (some (b, l)) → (urV x0 x1 x2 x3 x4 x5 b8 b9 v10 v11 x12 x13)[i]? = some v → ∃ A n c, v = .slice A n c := fun i b l v hr hv => by
    obtain ⟨u, hu, hw⟩ := k.row i b l hr
    rw [hv] at hu; cases hu
    exact RW.form hw
  exact ⟨key 0 _ _ _ rfl rfl, key 1 _ _ _ rfl rfl, key 2 _ _ _ rfl rfl, key 3 _ _ _ rfl rfl, key 4 _ _ _ rfl rfl, key 5 _ _ _ rfl rfl, key 12 _ _ _ rfl rfl, key 13 _ _ _ rfl rfl⟩
def FreshPost (g : Nat) (w : World) (r : UR) (e : Ending) (w' : World) : Prop := e = .returned (.tuple #[]) ∧ (∃ A0 n0 c0 A1 n1 c1 A2 n2 c2 A3 n3 c3 A4 n4 c4 A5 n5 c5 A12 n12 c12 A13 n13 c13, OBJ w' g 54 (urV (.slice A0 n0 c0) (.slice A1 n1 c1) (.slice A2 n2 c2) (.slice A3 n3 c3) (.slice A4 n4 c4) (.slice A5 n5 c5) false false (.slice none 0 0) (.slice none 0 0) (.slice A12 n12 c12) (.slice A13 n13 c13)) (urW false r.orig r.scheme r.path r.query r.hash r.host [] [] r.user r.pass)) ∧ Only (fun j => j = g) w w'
set_option maxHeartbeats 8000000 in
set_option maxRecDepth 100000 in
theorem uParse_fresh (w : World) (g : Nat) (h0 : OBJ w g 54 (urV (.slice none 0 0) (.slice none 0 0) (.slice none 0 0) (.slice none 0 0) (.slice none 0 0) (.slice none 0 0) false false (.slice none 0 0) (.slice none 0 0) (.slice none 0 0) (.slice none 0 0)) (urW false [] [] [] [] [] [] [] [] [] [])) (A B : Option Addr) (n c m d : Nat) (h u : List UInt8) (hh : VW (fun j => j = g) w A n c h) (hu : VW (fun j => j = g) w B m d u) (r : UR) (hp : parseU h u = some r) (hlh : h.length ≤ 3000000000) (hlu : u.length ≤ 3000000000) (hpo : r.orig.length ≤ 2147483647) :
    Calls Try.prog 30 #[.pointer (some ⟨g, 0, none⟩), .slice A n c, .slice B m d] w (FreshPost g w r) := by
  have v1 : VW (OS g (urV (.slice none 0 0) (.slice none 0 0) (.slice none 0 0) (.slice none 0 0) (.slice none 0 0) (.slice none 0 0) false false (.slice none 0 0) (.slice none 0 0) (.slice none 0 0) (.slice none 0 0))) w A n c h := ⟨hh.len, hh.cap, fun W ho => hh.rd W (ho.mono fun k _ hk => OS_z hk)⟩
  have v2 : VW (OS g (urV (.slice none 0 0) (.slice none 0 0) (.slice none 0 0) (.slice none 0 0) (.slice none 0 0) (.slice none 0 0) false false (.slice none 0 0) (.slice none 0 0) (.slice none 0 0) (.slice none 0 0))) w B m d u := ⟨hu.len, hu.cap, fun W ho => hu.rd W (ho.mono fun k _ hk => OS_z hk)⟩
  have HC := Aside0.mk (parse_calls w g none 0 0 none 0 0 none 0 0 none 0 0 none 0 0 none 0 0 none 0 0 none 0 0 false false false (.slice none 0 0) (.slice none 0 0) [] [] [] [] [] [] [] [] [] [] h0 A B n c m d h u v1 v2 normInto_nil r hp hlh hlu hpo)
  clear h0 hh hu hp hlh hlu v1 v2 hpo
  go_enter Try.func30, Try.ntmps30
  go_wp2_with (first | ((with_reducible refine gate_callee (f := 59) rfl ?_); refine goesL_ (some 9) rfl rfl Try.func59 (by kernel_rfl) rfl #[.pointer (some ⟨g, 0, none⟩), .slice A n c, .slice B m d, .bool false] rfl (by (try simp only [List.map_toArray, List.map_cons, List.map_nil]); first | done | rfl) ?_; refine (HC.out).mono ?_; rintro e w1 ⟨rfl, x0, x1, x2, x3, x4, x5, x12, x13, ho, hps⟩; refine ⟨_, rfl, ?_⟩; have HO := Aside0.mk ho; have HP := Aside0.mk hps; clear ho hps))
  go_end0
  refine ⟨rfl, ?_, HP.out.on.mono fun k _ hk => OS_z hk⟩
  obtain ⟨⟨A0, n0, c0, rfl⟩, ⟨A1, n1, c1, rfl⟩, ⟨A2, n2, c2, rfl⟩, ⟨A3, n3, c3, rfl⟩, ⟨A4, n4, c4, rfl⟩, ⟨A5, n5, c5, rfl⟩, ⟨A12, n12, c12, rfl⟩, ⟨A13, n13, c13, rfl⟩⟩ := ur_forms HO.out
  exact ⟨_, _, _, _, _, _, _, _, _, _, _, _, _, _, _, _, _, _, _, _, _, _, _, _, HO.out⟩
theorem uriOf_idle (g h : Nat) (w : World) :
    CallsD Try.prog 29 #[.pointer (some ⟨g, 0, none⟩), .pointer (some ⟨h, 0, none⟩)] .returning w fun e u' w' => e = .returned (.tuple #[]) ∧ u' = .returning ∧ w' = w := by
  refine callsD_of_wpS Try.func29 rfl fun c₀ cs hu => ?_
  apply wpS_seq
  apply wpS_region
  simp [wpOpsS, go_sem, recoverD, hu, Try.ntmps29, Exit.thenS]
  refine wpS_cond (t := false) (by simp [Act.eval, Array.replicate]) ?_
  simp only [Bool.false_eq_true, if_false]
  refine wpS_of_wp (wp_skip ?_)
  cases c₀
  simp_all [bodyPostS, results, Try.results29]
structure UO (w W : World) (cs : Array Value) : Prop where
  be : Below w.heap.size w W
  r0 : W.heap[w.heap.size]? = some (.cells cs 27 (0, 0))
  r1 : W.heap[w.heap.size + 1]? = some (.cells #[.bool false] 4 (0, 0))
  sz : w.heap.size + 3 ≤ W.heap.size
theorem UO.below {w W W2 : World} {cs : Array Value} (h : UO w W cs) (hb : Below W.heap.size W W2) : UO w W2 cs := by
  have := h.sz
  exact ⟨below_step h.be hb, (hb.block _ (by omega)).trans h.r0, (hb.block _ (by omega)).trans h.r1, Nat.le_trans h.sz hb.size⟩
theorem UO.only {w W W2 : World} {cs : Array Value} (h : UO w W cs) (ho : Only (fun j => j = w.heap.size + 1 + 1) W W2) : UO w W2 cs := by
  have := h.sz
  refine ⟨⟨ho.os.trans h.be.os, ho.tape.trans h.be.tape, ho.output.trans h.be.output, Nat.le_trans h.be.size ho.size, fun k hk => (ho.block k (by omega) (fun e => by omega)).trans (h.be.block k hk)⟩, (ho.block _ (by omega) (fun e => by omega)).trans h.r0, (ho.block _ (by omega) (fun e => by omega)).trans h.r1, Nat.le_trans h.sz ho.size⟩
set_option maxHeartbeats 16000000 in
set_option maxRecDepth 100000 in
theorem uriOf_calls (a0 a1 : ByteArray) (w : World) (h0 : a0.size ≤ 3000000000) (h1 : a1.size ≤ 3000000000) (r : UR) (hp : parseU a0.data.toList a1.data.toList = some r) (hne : r.path ≠ []) (hpo : r.orig.length ≤ 2147483647) :
    Calls Try.prog 18 #[.string a0, .string a1] w fun e w' => e = .returned (.tuple #[.agg #[.string ⟨r.sch.toArray⟩, .string ⟨r.host.toArray⟩, .string ⟨r.path.toArray⟩, .string ⟨r.orig.toArray⟩, .string ⟨r.query.toArray⟩, .string ⟨r.hash.toArray⟩, .string ⟨r.user.toArray⟩, .string ⟨r.pass.toArray⟩], .bool true]) ∧ Below w.heap.size w w' := by
  have hmf : ∀ (fn : Fn) (first cap : Array Value) (w : World), (Instr.makeFunc fn first cap).run Try.prog w = .ok (.func fn first cap) w := fun _ _ _ _ => rfl
  have HP := Aside0.mk hp
  have HNE := Aside0.mk hne
  have HPO := Aside0.mk hpo
  have HL0 := Aside0.mk h0
  have HL1 := Aside0.mk h1
  have HU0 : Aside0 (UO w (((w.alloc (.cells #[.string ⟨#[]⟩, .string ⟨#[]⟩, .string ⟨#[]⟩, .string ⟨#[]⟩, .string ⟨#[]⟩, .string ⟨#[]⟩, .string ⟨#[]⟩, .string ⟨#[]⟩] 27)).alloc (.cells #[.bool false] 4)).alloc (.cells #[.slice none 0 0, .slice none 0 0, .slice none 0 0, .slice none 0 0, .slice none 0 0, .slice none 0 0, .slice none 0 0, .slice none 0 0, .bool false, .bool false, .slice none 0 0, .slice none 0 0, .slice none 0 0, .slice none 0 0] 54)) #[.string ⟨#[]⟩, .string ⟨#[]⟩, .string ⟨#[]⟩, .string ⟨#[]⟩, .string ⟨#[]⟩, .string ⟨#[]⟩, .string ⟨#[]⟩, .string ⟨#[]⟩]) := ⟨by
    refine ⟨below_alloc (below_alloc (below_alloc (Below.refl _ _) _) _) _, ?_, ?_, by simp⟩
    · rw [Below.heap_alloc _ _ _ (by simp; omega), Below.heap_alloc _ _ _ (by simp)]
      exact heap_alloc_new w _
    · rw [Below.heap_alloc _ _ _ (by simp)]
      have := heap_alloc_new (w.alloc (.cells #[.string ⟨#[]⟩, .string ⟨#[]⟩, .string ⟨#[]⟩, .string ⟨#[]⟩, .string ⟨#[]⟩, .string ⟨#[]⟩, .string ⟨#[]⟩, .string ⟨#[]⟩] 27)) (.cells #[.bool false] 4)
      simpa using this⟩
  have HG0 : Aside0 (OBJ (((w.alloc (.cells #[.string ⟨#[]⟩, .string ⟨#[]⟩, .string ⟨#[]⟩, .string ⟨#[]⟩, .string ⟨#[]⟩, .string ⟨#[]⟩, .string ⟨#[]⟩, .string ⟨#[]⟩] 27)).alloc (.cells #[.bool false] 4)).alloc (.cells #[.slice none 0 0, .slice none 0 0, .slice none 0 0, .slice none 0 0, .slice none 0 0, .slice none 0 0, .slice none 0 0, .slice none 0 0, .bool false, .bool false, .slice none 0 0, .slice none 0 0, .slice none 0 0, .slice none 0 0] 54)) (w.heap.size + 1 + 1) 54 (urV (.slice none 0 0) (.slice none 0 0) (.slice none 0 0) (.slice none 0 0) (.slice none 0 0) (.slice none 0 0) false false (.slice none 0 0) (.slice none 0 0) (.slice none 0 0) (.slice none 0 0)) (urW false [] [] [] [] [] [] [] [] [] [])) := ⟨urZ_obj (by
    have := heap_alloc_new ((w.alloc (.cells #[.string ⟨#[]⟩, .string ⟨#[]⟩, .string ⟨#[]⟩, .string ⟨#[]⟩, .string ⟨#[]⟩, .string ⟨#[]⟩, .string ⟨#[]⟩, .string ⟨#[]⟩] 27)).alloc (.cells #[.bool false] 4)) (.cells #[.slice none 0 0, .slice none 0 0, .slice none 0 0, .slice none 0 0, .slice none 0 0, .slice none 0 0, .slice none 0 0, .slice none 0 0, .bool false, .bool false, .slice none 0 0, .slice none 0 0, .slice none 0 0, .slice none 0 0] 54)
    rw [show ((w.alloc (.cells #[.string ⟨#[]⟩, .string ⟨#[]⟩, .string ⟨#[]⟩, .string ⟨#[]⟩, .string ⟨#[]⟩, .string ⟨#[]⟩, .string ⟨#[]⟩, .string ⟨#[]⟩] 27)).alloc (.cells #[.bool false] 4)).heap.size = w.heap.size + 1 + 1 by simp] at this
    exact this)⟩
  have HE3 : Aside0 ((((w.alloc (.cells #[.string ⟨#[]⟩, .string ⟨#[]⟩, .string ⟨#[]⟩, .string ⟨#[]⟩, .string ⟨#[]⟩, .string ⟨#[]⟩, .string ⟨#[]⟩, .string ⟨#[]⟩] 27)).alloc (.cells #[.bool false] 4)).alloc (.cells #[.slice none 0 0, .slice none 0 0, .slice none 0 0, .slice none 0 0, .slice none 0 0, .slice none 0 0, .slice none 0 0, .slice none 0 0, .bool false, .bool false, .slice none 0 0, .slice none 0 0, .slice none 0 0, .slice none 0 0] 54)).heap.size = w.heap.size + 1 + 1 + 1) := ⟨by simp⟩
  clear hp hne h0 h1 hpo
  go_enter_defers Try.func18, Try.ntmps18
  go_wp2_with (first | ((with_reducible refine gate_dst (N := 9) rfl ?_); refine Go.Proofs.YtbkeakeldegkeaaX.convL_ (some 9) rfl rfl 9 49 _ rfl a0 rfl ?_; refine (conv_BR2 9 49 5 Try.underlying9 Try.underlying49 Try.underlying5 a0 _).mono ?_; rintro e w1 ⟨k1, rfl, hk1, hb1, hbl1⟩; refine ⟨_, rfl, ?_⟩; rw [HE3.out] at hb1; have HU1 := Aside0.mk (HU0.out.below hbl1); have HG1 := Aside0.mk (HG0.out.below hbl1); have HV1 := Aside0.mk (VW.of_conv (S := fun j => j = w.heap.size + 1 + 1) hb1 (fun e => by omega) hk1 HL0.out); clear hk1 hb1 hbl1) | ((with_reducible refine gate_dst (N := 11) rfl ?_); refine Go.Proofs.YtbkeakeldegkeaaX.convL_ (some 11) rfl rfl 9 49 _ rfl a1 rfl ?_; refine (conv_BR2 9 49 5 Try.underlying9 Try.underlying49 Try.underlying5 a1 _).mono ?_; rintro e w2 ⟨k2, rfl, hk2, hb2, hbl2⟩; refine ⟨_, rfl, ?_⟩; have HU2 := Aside0.mk (HU1.out.below hbl2); have HG2 := Aside0.mk (HG1.out.below hbl2); have HV2 := Aside0.mk (HV1.out.below hbl2); have HV3 := Aside0.mk (VW.of_conv (S := fun j => j = w.heap.size + 1 + 1) hb2 (fun e => by have := HU1.out.sz; omega) hk2 HL1.out); clear hk2 hb2 hbl2) | ((with_reducible refine gate_callee (f := 30) rfl ?_); refine goesL_ (some 12) rfl rfl Try.func30 (by kernel_rfl) rfl #[.pointer (some ⟨w.heap.size + 1 + 1, 0, none⟩), .slice (some ⟨_, 0, none⟩) a0.size k1, .slice (some ⟨_, 0, none⟩) a1.size k2] rfl (by (try simp only [List.map_toArray, List.map_cons, List.map_nil]); first | done | rfl) ?_; refine (uParse_fresh _ (w.heap.size + 1 + 1) HG2.out _ _ _ _ _ _ _ _ HV2.out HV3.out r HP.out (by have e1 : a0.data.toList.length = a0.size := (size_L a0).symm; have := HL0.out; omega) (by have e1 : a1.data.toList.length = a1.size := (size_L a1).symm; have := HL1.out; omega) HPO.out).mono ?_; rintro e w3 ⟨rfl, ⟨A0, n0, c0, A1, n1, c1, A2, n2, c2, A3, n3, c3, A4, n4, c4, A5, n5, c5, A12, n12, c12, A13, n13, c13, ho⟩, hon⟩; refine ⟨_, rfl, ?_⟩; have HU3 := Aside0.mk (HU2.out.only hon); have HG3 := Aside0.mk ho; clear ho hon) | ((with_reducible refine gate_callee (f := 31) rfl ?_); refine goesL_ (some 13) rfl rfl Try.func31 (by kernel_rfl) rfl #[.pointer (some ⟨w.heap.size + 1 + 1, 0, none⟩)] rfl (by (try simp only [List.map_toArray, List.map_cons, List.map_nil]); first | done | rfl) ?_; refine (uParts_calls _ (w.heap.size + 1 + 1) A0 n0 c0 A1 n1 c1 A2 n2 c2 A3 n3 c3 A4 n4 c4 A5 n5 c5 A12 n12 c12 A13 n13 c13 false false false (.slice none 0 0) (.slice none 0 0) _ _ _ _ _ _ _ _ _ _ HG3.out HNE.out r.sch rfl).mono ?_; rintro e w4 ⟨rfl, hb4⟩; refine ⟨_, rfl, ?_⟩; have hu4 := HU3.out.below hb4; have HU4 := Aside0.mk hu4; have q0 := (blk_cell hu4.r0 0).trans rfl; have z0 := blk_frozen hu4.r0 0; have q1 := (blk_cell hu4.r0 1).trans rfl; have z1 := blk_frozen hu4.r0 1; have q2 := (blk_cell hu4.r0 2).trans rfl; have z2 := blk_frozen hu4.r0 2; have q3 := (blk_cell hu4.r0 3).trans rfl; have z3 := blk_frozen hu4.r0 3; have q4 := (blk_cell hu4.r0 4).trans rfl; have z4 := blk_frozen hu4.r0 4; have q5 := (blk_cell hu4.r0 5).trans rfl; have z5 := blk_frozen hu4.r0 5; have q6 := (blk_cell hu4.r0 6).trans rfl; have z6 := blk_frozen hu4.r0 6; have q7 := (blk_cell hu4.r0 7).trans rfl; have z7 := blk_frozen hu4.r0 7; have q8 := (blk_cell hu4.r1 0).trans rfl; have z8 := blk_frozen hu4.r1 0; clear hb4 hu4))
  refine leaves_cons (f := 29) (args := #[.pointer (some ⟨w.heap.size, 0, none⟩), .pointer (some ⟨w.heap.size + 1, 0, none⟩)]) (by simp) (by simp [go_sem]) ?_
  refine (uriOf_idle w.heap.size (w.heap.size + 1) _).mono ?_
  rintro e u' w'' ⟨rfl, rfl, rfl⟩
  have hz : _ := blk_put (blk_put (blk_put (blk_put (blk_put (blk_put (blk_put (blk_put (HU4.out.r0) 0 (.string ⟨(r.sch).toArray⟩) rfl) 1 (.string ⟨(r.host).toArray⟩) rfl) 2 (.string ⟨(r.path).toArray⟩) rfl) 3 (.string ⟨(r.orig).toArray⟩) rfl) 4 (.string ⟨(r.query).toArray⟩) rfl) 5 (.string ⟨(r.hash).toArray⟩) rfl) 6 (.string ⟨(r.user).toArray⟩) rfl) 7 (.string ⟨(r.pass).toArray⟩) rfl
  have hy := (Below.heap_setCell _ ⟨w.heap.size + 1, 0, none⟩ (.bool true) w.heap.size (by show w.heap.size ≠ w.heap.size + 1; omega)).trans hz
  have hx := blk_put (cs' := #[.bool true]) ((Below.heap_setCell _ ⟨w.heap.size, 7, none⟩ (.string ⟨(r.pass).toArray⟩) (w.heap.size + 1) (by show w.heap.size + 1 ≠ w.heap.size; omega)).trans ((Below.heap_setCell _ ⟨w.heap.size, 6, none⟩ (.string ⟨(r.user).toArray⟩) (w.heap.size + 1) (by show w.heap.size + 1 ≠ w.heap.size; omega)).trans ((Below.heap_setCell _ ⟨w.heap.size, 5, none⟩ (.string ⟨(r.hash).toArray⟩) (w.heap.size + 1) (by show w.heap.size + 1 ≠ w.heap.size; omega)).trans ((Below.heap_setCell _ ⟨w.heap.size, 4, none⟩ (.string ⟨(r.query).toArray⟩) (w.heap.size + 1) (by show w.heap.size + 1 ≠ w.heap.size; omega)).trans ((Below.heap_setCell _ ⟨w.heap.size, 3, none⟩ (.string ⟨(r.orig).toArray⟩) (w.heap.size + 1) (by show w.heap.size + 1 ≠ w.heap.size; omega)).trans ((Below.heap_setCell _ ⟨w.heap.size, 2, none⟩ (.string ⟨(r.path).toArray⟩) (w.heap.size + 1) (by show w.heap.size + 1 ≠ w.heap.size; omega)).trans ((Below.heap_setCell _ ⟨w.heap.size, 1, none⟩ (.string ⟨(r.host).toArray⟩) (w.heap.size + 1) (by show w.heap.size + 1 ≠ w.heap.size; omega)).trans ((Below.heap_setCell _ ⟨w.heap.size, 0, none⟩ (.string ⟨(r.sch).toArray⟩) (w.heap.size + 1) (by show w.heap.size + 1 ≠ w.heap.size; omega)).trans (HU4.out.r1))))))))) 0 (.bool true) rfl
  have hfin2 : Below w.heap.size w _ := (((((((((HU4.out.be).setCell (p := ⟨w.heap.size, 0, none⟩) (Nat.le_refl _) (.string ⟨(r.sch).toArray⟩)).setCell (p := ⟨w.heap.size, 1, none⟩) (Nat.le_refl _) (.string ⟨(r.host).toArray⟩)).setCell (p := ⟨w.heap.size, 2, none⟩) (Nat.le_refl _) (.string ⟨(r.path).toArray⟩)).setCell (p := ⟨w.heap.size, 3, none⟩) (Nat.le_refl _) (.string ⟨(r.orig).toArray⟩)).setCell (p := ⟨w.heap.size, 4, none⟩) (Nat.le_refl _) (.string ⟨(r.query).toArray⟩)).setCell (p := ⟨w.heap.size, 5, none⟩) (Nat.le_refl _) (.string ⟨(r.hash).toArray⟩)).setCell (p := ⟨w.heap.size, 6, none⟩) (Nat.le_refl _) (.string ⟨(r.user).toArray⟩)).setCell (p := ⟨w.heap.size, 7, none⟩) (Nat.le_refl _) (.string ⟨(r.pass).toArray⟩)).setCell (p := ⟨w.heap.size + 1, 0, none⟩) (Nat.le_succ _) (.bool true)
  clear hz q0 z0 q1 z1 q2 z2 q3 z3 q4 z4 q5 z5 q6 z6 q7 z7 q8 z8
  generalize ((((((((((w4).setCell ⟨w.heap.size, 0, none⟩ (.string ⟨(r.sch).toArray⟩)).setCell ⟨w.heap.size, 1, none⟩ (.string ⟨(r.host).toArray⟩)).setCell ⟨w.heap.size, 2, none⟩ (.string ⟨(r.path).toArray⟩)).setCell ⟨w.heap.size, 3, none⟩ (.string ⟨(r.orig).toArray⟩)).setCell ⟨w.heap.size, 4, none⟩ (.string ⟨(r.query).toArray⟩)).setCell ⟨w.heap.size, 5, none⟩ (.string ⟨(r.hash).toArray⟩)).setCell ⟨w.heap.size, 6, none⟩ (.string ⟨(r.user).toArray⟩)).setCell ⟨w.heap.size, 7, none⟩ (.string ⟨(r.pass).toArray⟩)).setCell ⟨w.heap.size + 1, 0, none⟩ (.bool true)) = W9 at hy hx hfin2 ⊢
  have r0 := (blk_cell hy 0).trans rfl
  have r1 := (blk_cell hy 1).trans rfl
  have r2 := (blk_cell hy 2).trans rfl
  have r3 := (blk_cell hy 3).trans rfl
  have r4 := (blk_cell hy 4).trans rfl
  have r5 := (blk_cell hy 5).trans rfl
  have r6 := (blk_cell hy 6).trans rfl
  have r7 := (blk_cell hy 7).trans rfl
  have s0 := (blk_cell hx 0).trans rfl
  clear hy hx
  simp [Leaves, settle, results, Try.results18, go_sem, r0, r1, r2, r3, r4, r5, r6, r7, s0]
  exact hfin2
end Go.Proofs.Ytbkeakeldegkeaa.Q
end
section
namespace Go.Proofs.Ytbkeakeldegkeaa.Q
open Go.RowKit Go.Proofs.YtbkeakeldegkeaaW.PrintWords Go.Proofs.YtbkeakeldegkeaaW.PrintLast Go.Proofs.YtbkeakeldegkeaaW.PrintMore
attribute [local go_sem] max2_int min2_int max_two min_two max_three min_three max_four min_four
set_option linter.unusedVariables false
set_option linter.unusedSimpArgs false
def impl_UriOf.f (a0 : ByteArray) (a1 : ByteArray) : Option (ByteArray × ByteArray × ByteArray × ByteArray × ByteArray × ByteArray × ByteArray × ByteArray × Bool) := if (a0.size ≤ 3000000000 ∧ a1.size ≤ 3000000000) ∧ a1.data.toList.any Go.Proofs.Ytbkeakeldegkeaa.SpA.isCtl = false then (match Go.Proofs.Ytbkeakeldegkeaa.SpA.parseU a0.data.toList a1.data.toList with | none => none | some u => if u.orig.length ≤ 2147483647 then some (⟨(u.sch).toArray⟩, ⟨(u.host).toArray⟩, ⟨(u.path).toArray⟩, ⟨(u.orig).toArray⟩, ⟨(u.query).toArray⟩, ⟨(u.hash).toArray⟩, ⟨(u.user).toArray⟩, ⟨(u.pass).toArray⟩, true) else none) else none
theorem impl_UriOf.calls (a0 : ByteArray) (a1 : ByteArray) (r1 : ByteArray) (r2 : ByteArray) (r3 : ByteArray) (r4 : ByteArray) (r5 : ByteArray) (r6 : ByteArray) (r7 : ByteArray) (r8 : ByteArray) (r9 : Bool) (w : World) (h : impl_UriOf.f a0 a1 = some (r1, r2, r3, r4, r5, r6, r7, r8, r9)) :
    Calls Try.prog 18 #[.string a0, .string a1] w fun e w' => e = .returned (.tuple #[.agg #[.string r1, .string r2, .string r3, .string r4, .string r5, .string r6, .string r7, .string r8], .bool r9]) ∧ Below w.heap.size w w' := by
  unfold impl_UriOf.f at h
  split at h
  · rename_i hc
    cases hp : Go.Proofs.Ytbkeakeldegkeaa.SpA.parseU a0.data.toList a1.data.toList with
    | none => rw [hp] at h; cases h
    | some u =>
      rw [hp] at h
      simp only at h
      split at h
      · have hk := uriOf_calls a0 a1 w hc.1.1 hc.1.2 u hp (Go.Proofs.Ytbkeakeldegkeaa.SpA.parse_path hp hc.2) (by assumption)
        cases h
        exact hk
      · cases h
  · cases h
end Go.Proofs.Ytbkeakeldegkeaa.Q
end
section
namespace Go.Proofs.Ytbkeakeldegkeaa.Q
open Go.RowKit Go.Proofs.YtbkeakeldegkeaaW.PrintWords Go.Proofs.YtbkeakeldegkeaaW.PrintLast Go.Proofs.YtbkeakeldegkeaaW.PrintMore
attribute [local go_sem] max2_int min2_int max_two min_two max_three min_three max_four min_four
set_option linter.unusedVariables false
set_option linter.unusedSimpArgs false
attribute [local go_sem high] eqA27
def laws_parses.f  : Option (Bool) := (impl_UriOf.f (⟨#[]⟩ : ByteArray) (⟨#[104, 116, 116, 112, 58, 47, 47, 104, 47, 97, 63, 98, 61, 99, 35, 100]⟩ : ByteArray)).bind fun bt183 => (if bt183.2.2.2.2.2.2.2.2 = true then (some (bt183.1.toList == ([104, 116, 116, 112] : List UInt8) && (bt183.2.1.toList == ([104] : List UInt8) && (bt183.2.2.1.toList == ([47, 97] : List UInt8) && (bt183.2.2.2.1.toList == ([47, 97] : List UInt8) && (bt183.2.2.2.2.1.toList == ([98, 61, 99] : List UInt8) && (bt183.2.2.2.2.2.1.toList == ([100] : List UInt8) && (bt183.2.2.2.2.2.2.1.toList == ([] : List UInt8) && (bt183.2.2.2.2.2.2.2.1.toList == ([] : List UInt8)))))))))) else (some false))
set_option maxHeartbeats 8000000 in
set_option maxRecDepth 100000 in
theorem laws_parses.calls  (r : Bool) (w : World) (h : laws_parses.f  = some r) :
    Calls Try.prog 12 #[] w fun e w' => e = .returned (.bool r) ∧ Below w.heap.size w w' := by
  have hu27 := Try.underlying27
  have HB := Aside0.mk (Below.refl w.heap.size w)
  have H : ((impl_UriOf.f (⟨#[]⟩ : ByteArray) (⟨#[104, 116, 116, 112, 58, 47, 47, 104, 47, 97, 63, 98, 61, 99, 35, 100]⟩ : ByteArray)).bind fun bt183 => (if bt183.2.2.2.2.2.2.2.2 = true then (some (bt183.1.toList == ([104, 116, 116, 112] : List UInt8) && (bt183.2.1.toList == ([104] : List UInt8) && (bt183.2.2.1.toList == ([47, 97] : List UInt8) && (bt183.2.2.2.1.toList == ([47, 97] : List UInt8) && (bt183.2.2.2.2.1.toList == ([98, 61, 99] : List UInt8) && (bt183.2.2.2.2.2.1.toList == ([100] : List UInt8) && (bt183.2.2.2.2.2.2.1.toList == ([] : List UInt8) && (bt183.2.2.2.2.2.2.2.1.toList == ([] : List UInt8)))))))))) else (some false))) = some r := h
  clear h
  replace H := Option.bind_eq_some_iff.mp H
  obtain ⟨⟨t183, t184, t185, t186, t187, t188, t189, t190, t191⟩, A10, H⟩ := H
  replace H : (if t191 = true then (some (t183.toList == ([104, 116, 116, 112] : List UInt8) && (t184.toList == ([104] : List UInt8) && (t185.toList == ([47, 97] : List UInt8) && (t186.toList == ([47, 97] : List UInt8) && (t187.toList == ([98, 61, 99] : List UInt8) && (t188.toList == ([100] : List UInt8) && (t189.toList == ([] : List UInt8) && (t190.toList == ([] : List UInt8)))))))))) else (some false)) = some r := H
  have A1 := Aside0.mk A10
  clear A10
  by_cases c2 : t191 = true
  · subst c2
    have H1 : (some (t183.toList == ([104, 116, 116, 112] : List UInt8) && (t184.toList == ([104] : List UInt8) && (t185.toList == ([47, 97] : List UInt8) && (t186.toList == ([47, 97] : List UInt8) && (t187.toList == ([98, 61, 99] : List UInt8) && (t188.toList == ([100] : List UInt8) && (t189.toList == ([] : List UInt8) && (t190.toList == ([] : List UInt8)))))))))) = some r := by rw [if_pos rfl] at H; exact H
    clear H
    have H := H1
    clear H1
    obtain rfl := Option.some.inj H
    go_enter Try.func12, Try.ntmps12
    go_wp2_with (first | ((with_reducible refine gate_callee (f := 18) rfl ?_); refine goesL_ (some 4) rfl rfl Try.func18 (by kernel_rfl) rfl #[.string (⟨#[]⟩ : ByteArray), .string (⟨#[104, 116, 116, 112, 58, 47, 47, 104, 47, 97, 63, 98, 61, 99, 35, 100]⟩ : ByteArray)] rfl (by (try simp only [List.map_toArray, List.map_cons, List.map_nil]); first | done | rfl | (simp only [List.length_drop, List.length_take]; rfl)) ?_; (with_reducible refine (impl_UriOf.calls (⟨#[]⟩ : ByteArray) (⟨#[104, 116, 116, 112, 58, 47, 47, 104, 47, 97, 63, 98, 61, 99, 35, 100]⟩ : ByteArray) t183 t184 t185 t186 t187 t188 t189 t190 true _ A1.out).mono ?_); rintro e w3 ⟨rfl, hb⟩; refine ⟨_, rfl, ?_⟩; have n0_ := Aside0.mk (below_step (by repeat (first | (with_reducible first | exact HB.out | apply below_alloc | apply pw_below_drewN | apply below_drew1) | exact HB.out)) hb); clear HB; have HB := n0_; clear n0_; (try clear hb); (try clear hb2); (try clear hk); (try clear hi)) | ((with_reducible refine gate_dst (N := 1) rfl ?_); refine box_event ?hg (N := 1) ?hd (cs := #[.string (⟨#[]⟩ : ByteArray), .string (⟨#[]⟩ : ByteArray), .string (⟨#[]⟩ : ByteArray), .string (⟨#[]⟩ : ByteArray), .string (⟨#[]⟩ : ByteArray), .string (⟨#[]⟩ : ByteArray), .string (⟨#[]⟩ : ByteArray), .string (⟨#[]⟩ : ByteArray)]) (t := 27) ?hr ?_; (case hd => rfl); (case hg => rfl); (case hr => first | (go_simp; done) | (go_simp; rfl)); intro gb192 hg w4 hbox hb; have n0_ := Aside0.mk (below_step (by repeat (first | (with_reducible first | exact HB.out | apply below_alloc | apply pw_below_drewN | apply below_drew1) | exact HB.out)) hb); have n1_ := Aside0.mk (hbox); have n2_ := Aside0.mk ((by rw [hg]; exact (below_size (by repeat (first | (with_reducible first | exact HB.out | apply below_alloc | apply pw_below_drewN | apply below_drew1) | exact HB.out))) : w.heap.size ≤ gb192)); have n3_ := Aside0.mk ((by rw [hg]; exact (below_size (by repeat (first | (with_reducible first | exact HB.out | apply below_alloc | apply pw_below_drewN | apply below_drew1) | exact HB.out))) : w.heap.size ≤ gb192)); clear HB; have HB := n0_; have BK192 := n1_; have GW192 := n2_; have GE192 := n3_; clear n0_ n1_ n2_ n3_; clear hb hbox hg; have hcz5_0 : w4.cell? ⟨gb192, 0, none⟩ = some (.string (⟨#[]⟩ : ByteArray)) := (blk_cell BK192.out 0).trans rfl; have hcz5_1 : w4.cell? ⟨gb192, 1, none⟩ = some (.string (⟨#[]⟩ : ByteArray)) := (blk_cell BK192.out 1).trans rfl; have hcz5_2 : w4.cell? ⟨gb192, 2, none⟩ = some (.string (⟨#[]⟩ : ByteArray)) := (blk_cell BK192.out 2).trans rfl; have hcz5_3 : w4.cell? ⟨gb192, 3, none⟩ = some (.string (⟨#[]⟩ : ByteArray)) := (blk_cell BK192.out 3).trans rfl; have hcz5_4 : w4.cell? ⟨gb192, 4, none⟩ = some (.string (⟨#[]⟩ : ByteArray)) := (blk_cell BK192.out 4).trans rfl; have hcz5_5 : w4.cell? ⟨gb192, 5, none⟩ = some (.string (⟨#[]⟩ : ByteArray)) := (blk_cell BK192.out 5).trans rfl; have hcz5_6 : w4.cell? ⟨gb192, 6, none⟩ = some (.string (⟨#[]⟩ : ByteArray)) := (blk_cell BK192.out 6).trans rfl; have hcz5_7 : w4.cell? ⟨gb192, 7, none⟩ = some (.string (⟨#[]⟩ : ByteArray)) := (blk_cell BK192.out 7).trans rfl; have hfz5_0 := blk_frozen BK192.out 0; have hfz5_1 := blk_frozen BK192.out 1; have hfz5_2 := blk_frozen BK192.out 2; have hfz5_3 := blk_frozen BK192.out 3; have hfz5_4 := blk_frozen BK192.out 4; have hfz5_5 := blk_frozen BK192.out 5; have hfz5_6 := blk_frozen BK192.out 6; have hfz5_7 := blk_frozen BK192.out 7))
    go_ret
    exact ⟨by first | rfl | (simp [errW_none, errW_some] <;> rfl) | (simp [*, errW_none, errW_some] <;> rfl), by repeat (first | (with_reducible first | exact HB.out | apply below_alloc | apply pw_below_drewN | apply below_drew1 | refine below_set ?_ GE192.out) | exact HB.out)⟩
  · replace c2 := Bool.eq_false_iff.mpr c2
    subst c2
    have H1 : (some false) = some r := by rw [if_neg (show ¬ (false = true) by decide)] at H; exact H
    clear H
    have H := H1
    clear H1
    obtain rfl := Option.some.inj H
    go_enter Try.func12, Try.ntmps12
    go_wp2_with (first | ((with_reducible refine gate_callee (f := 18) rfl ?_); refine goesL_ (some 4) rfl rfl Try.func18 (by kernel_rfl) rfl #[.string (⟨#[]⟩ : ByteArray), .string (⟨#[104, 116, 116, 112, 58, 47, 47, 104, 47, 97, 63, 98, 61, 99, 35, 100]⟩ : ByteArray)] rfl (by (try simp only [List.map_toArray, List.map_cons, List.map_nil]); first | done | rfl | (simp only [List.length_drop, List.length_take]; rfl)) ?_; (with_reducible refine (impl_UriOf.calls (⟨#[]⟩ : ByteArray) (⟨#[104, 116, 116, 112, 58, 47, 47, 104, 47, 97, 63, 98, 61, 99, 35, 100]⟩ : ByteArray) t183 t184 t185 t186 t187 t188 t189 t190 false _ A1.out).mono ?_); rintro e w6 ⟨rfl, hb⟩; refine ⟨_, rfl, ?_⟩; have n0_ := Aside0.mk (below_step (by repeat (first | (with_reducible first | exact HB.out | apply below_alloc | apply pw_below_drewN | apply below_drew1) | exact HB.out)) hb); clear HB; have HB := n0_; clear n0_; (try clear hb); (try clear hb2); (try clear hk); (try clear hi)) | ((with_reducible refine gate_dst (N := 1) rfl ?_); refine box_event ?hg (N := 1) ?hd (cs := #[.string (⟨#[]⟩ : ByteArray), .string (⟨#[]⟩ : ByteArray), .string (⟨#[]⟩ : ByteArray), .string (⟨#[]⟩ : ByteArray), .string (⟨#[]⟩ : ByteArray), .string (⟨#[]⟩ : ByteArray), .string (⟨#[]⟩ : ByteArray), .string (⟨#[]⟩ : ByteArray)]) (t := 27) ?hr ?_; (case hd => rfl); (case hg => rfl); (case hr => first | (go_simp; done) | (go_simp; rfl)); intro gb192 hg w7 hbox hb; have n0_ := Aside0.mk (below_step (by repeat (first | (with_reducible first | exact HB.out | apply below_alloc | apply pw_below_drewN | apply below_drew1) | exact HB.out)) hb); have n1_ := Aside0.mk (hbox); have n2_ := Aside0.mk ((by rw [hg]; exact (below_size (by repeat (first | (with_reducible first | exact HB.out | apply below_alloc | apply pw_below_drewN | apply below_drew1) | exact HB.out))) : w.heap.size ≤ gb192)); have n3_ := Aside0.mk ((by rw [hg]; exact (below_size (by repeat (first | (with_reducible first | exact HB.out | apply below_alloc | apply pw_below_drewN | apply below_drew1) | exact HB.out))) : w.heap.size ≤ gb192)); clear HB; have HB := n0_; have BK192 := n1_; have GW192 := n2_; have GE192 := n3_; clear n0_ n1_ n2_ n3_; clear hb hbox hg; have hcz8_0 : w7.cell? ⟨gb192, 0, none⟩ = some (.string (⟨#[]⟩ : ByteArray)) := (blk_cell BK192.out 0).trans rfl; have hcz8_1 : w7.cell? ⟨gb192, 1, none⟩ = some (.string (⟨#[]⟩ : ByteArray)) := (blk_cell BK192.out 1).trans rfl; have hcz8_2 : w7.cell? ⟨gb192, 2, none⟩ = some (.string (⟨#[]⟩ : ByteArray)) := (blk_cell BK192.out 2).trans rfl; have hcz8_3 : w7.cell? ⟨gb192, 3, none⟩ = some (.string (⟨#[]⟩ : ByteArray)) := (blk_cell BK192.out 3).trans rfl; have hcz8_4 : w7.cell? ⟨gb192, 4, none⟩ = some (.string (⟨#[]⟩ : ByteArray)) := (blk_cell BK192.out 4).trans rfl; have hcz8_5 : w7.cell? ⟨gb192, 5, none⟩ = some (.string (⟨#[]⟩ : ByteArray)) := (blk_cell BK192.out 5).trans rfl; have hcz8_6 : w7.cell? ⟨gb192, 6, none⟩ = some (.string (⟨#[]⟩ : ByteArray)) := (blk_cell BK192.out 6).trans rfl; have hcz8_7 : w7.cell? ⟨gb192, 7, none⟩ = some (.string (⟨#[]⟩ : ByteArray)) := (blk_cell BK192.out 7).trans rfl; have hfz8_0 := blk_frozen BK192.out 0; have hfz8_1 := blk_frozen BK192.out 1; have hfz8_2 := blk_frozen BK192.out 2; have hfz8_3 := blk_frozen BK192.out 3; have hfz8_4 := blk_frozen BK192.out 4; have hfz8_5 := blk_frozen BK192.out 5; have hfz8_6 := blk_frozen BK192.out 6; have hfz8_7 := blk_frozen BK192.out 7))
    go_ret
    exact ⟨by first | rfl | (simp [errW_none, errW_some] <;> rfl) | (simp [*, errW_none, errW_some] <;> rfl), by repeat (first | (with_reducible first | exact HB.out | apply below_alloc | apply pw_below_drewN | apply below_drew1 | refine below_set ?_ GE192.out) | exact HB.out)⟩
def laws_word.l0 : Nat → ByteArray → Int → Int → Option (Bool)
  | 0, _, _, _ => none
  | k + 1, x0, x6, x7 => if x7 < x6 then (if 0 ≤ x7 then (if x7 < (x0.size : Int) then (if (Go.bits .or .u8 (bt x0 x7) 32) < 97 then (if (bt x0 x7) < 48 then (some false) else (if (bt x0 x7) > 57 then (some false) else (laws_word.l0 k x0 x6 (wrap64 (x7 + 1))))) else (if (Go.bits .or .u8 (bt x0 x7) 32) > 122 then (if (bt x0 x7) < 48 then (some false) else (if (bt x0 x7) > 57 then (some false) else (laws_word.l0 k x0 x6 (wrap64 (x7 + 1))))) else (laws_word.l0 k x0 x6 (wrap64 (x7 + 1))))) else (none)) else (none)) else (some (x0.toList != ([] : List UInt8)))
def laws_word.f (k : Nat) (a0 : ByteArray) : Option (Bool) := laws_word.l0 k a0 (a0.size : Int) 0
set_option maxHeartbeats 8000000 in
set_option maxRecDepth 100000 in
theorem laws_word.calls (k : Nat) (a0 : ByteArray) (r : Bool) (w : World) (h : laws_word.f k a0 = some r) :
    Calls Try.prog 13 #[.string a0] w fun e w' => e = .returned (.bool r) ∧ Drawn0 w w' := by
  have H : (laws_word.l0 k a0 (a0.size : Int) 0) = some r := h
  clear h
  have H' := Aside0.mk H
  clear H
  go_enter Try.func13, Try.ntmps13
  go_wp2
  go_loopg [7] k (fun kq v7 w' => ∃ (x7_1 : Int), v7 = .int .i64 x7_1 ∧ Aside0 (laws_word.l0 kq a0 (a0.size : Int) x7_1 = some r) ∧ Aside0 (kq ≤ k) ∧ Drawn0 w w')
  case atStart => exact ⟨(0), (by first | rfl | (simp; done) | (simp [*]; done) | (simp [Go.Proofs.YtbkeakeldegkeaaX.isEmpty_ne]; done)), H', ⟨Nat.le_refl _⟩, by repeat (first | exact Drawn0.refl _ | apply Drawn0.step)⟩
  case round =>
    clear H'
    try clear c1
    obtain ⟨x7_1, rfl, HA, HK1, ⟨m1, rfl⟩⟩ := hrel
    cases gk with
    | zero => exact absurd HA.out (by simp [laws_word.l0])
    | succ k1 =>
      have H := HA.out
      clear HA
      simp only [laws_word.l0] at H
      by_cases c2 : x7_1 < (a0.size : Int)
      · rw [if_pos c2] at H
        have c2b0 : decide (x7_1 < (a0.size : Int)) = true := decide_eq_true c2
        clear c2
        by_cases c3 : 0 ≤ x7_1
        · rw [if_pos c3] at H
          have c3b0 : decide (0 ≤ x7_1) = true := decide_eq_true c3
          clear c3
          by_cases c4 : x7_1 < (a0.size : Int)
          · rw [if_pos c4] at H
            have c4b0 : decide (x7_1 < (a0.size : Int)) = true := decide_eq_true c4
            clear c4
            by_cases c6 : (Go.bits .or .u8 (bt a0 x7_1) 32) < 97
            · rw [if_pos c6] at H
              have c6b0 : decide ((Go.bits .or .u8 (bt a0 x7_1) 32) < 97) = true := decide_eq_true c6
              clear c6
              by_cases c8 : (bt a0 x7_1) < 48
              · rw [if_pos c8] at H
                have c8b0 : decide ((bt a0 x7_1) < 48) = true := decide_eq_true c8
                clear c8
                obtain rfl := Option.some.inj H
                have p5 : 0 ≤ (x7_1 : Int) := of_decide_eq_true (by first | (with_reducible assumption) | assumption)
                have q5 : x7_1 < (a0.size : Int) := of_decide_eq_true (by first | (with_reducible assumption) | assumption)
                have hx5 := bt_at a0 x7_1
                replace p5 := eq_true p5
                replace q5 := eq_true q5
                have p7 : 0 ≤ (x7_1 : Int) := of_decide_eq_true (by first | (with_reducible assumption) | assumption)
                have q7 : x7_1 < (a0.size : Int) := of_decide_eq_true (by first | (with_reducible assumption) | assumption)
                have hx7 := bt_at a0 x7_1
                replace p7 := eq_true p7
                replace q7 := eq_true q7
                go_wp2
                go_ret
                exact ⟨by first | rfl | (simp; done) | (simp [*]; done) | (simp [Go.Proofs.YtbkeakeldegkeaaX.isEmpty_ne]; done), by repeat (first | exact Drawn0.refl _ | apply Drawn0.step)⟩
              · rw [if_neg c8] at H
                have c8b0 : decide ((bt a0 x7_1) < 48) = false := decide_eq_false c8
                clear c8
                by_cases c10 : (bt a0 x7_1) > 57
                · rw [if_pos c10] at H
                  have c10b0 : decide (57 < (bt a0 x7_1)) = true := decide_eq_true c10
                  clear c10
                  obtain rfl := Option.some.inj H
                  have p5 : 0 ≤ (x7_1 : Int) := of_decide_eq_true (by first | (with_reducible assumption) | assumption)
                  have q5 : x7_1 < (a0.size : Int) := of_decide_eq_true (by first | (with_reducible assumption) | assumption)
                  have hx5 := bt_at a0 x7_1
                  replace p5 := eq_true p5
                  replace q5 := eq_true q5
                  have p7 : 0 ≤ (x7_1 : Int) := of_decide_eq_true (by first | (with_reducible assumption) | assumption)
                  have q7 : x7_1 < (a0.size : Int) := of_decide_eq_true (by first | (with_reducible assumption) | assumption)
                  have hx7 := bt_at a0 x7_1
                  replace p7 := eq_true p7
                  replace q7 := eq_true q7
                  have p9 : 0 ≤ (x7_1 : Int) := of_decide_eq_true (by first | (with_reducible assumption) | assumption)
                  have q9 : x7_1 < (a0.size : Int) := of_decide_eq_true (by first | (with_reducible assumption) | assumption)
                  have hx9 := bt_at a0 x7_1
                  replace p9 := eq_true p9
                  replace q9 := eq_true q9
                  go_wp2
                  go_ret
                  exact ⟨by first | rfl | (simp; done) | (simp [*]; done) | (simp [Go.Proofs.YtbkeakeldegkeaaX.isEmpty_ne]; done), by repeat (first | exact Drawn0.refl _ | apply Drawn0.step)⟩
                · rw [if_neg c10] at H
                  have c10b0 : decide (57 < (bt a0 x7_1)) = false := decide_eq_false c10
                  clear c10
                  have H' := Aside0.mk H
                  clear H
                  have p5 : 0 ≤ (x7_1 : Int) := of_decide_eq_true (by first | (with_reducible assumption) | assumption)
                  have q5 : x7_1 < (a0.size : Int) := of_decide_eq_true (by first | (with_reducible assumption) | assumption)
                  have hx5 := bt_at a0 x7_1
                  replace p5 := eq_true p5
                  replace q5 := eq_true q5
                  have p7 : 0 ≤ (x7_1 : Int) := of_decide_eq_true (by first | (with_reducible assumption) | assumption)
                  have q7 : x7_1 < (a0.size : Int) := of_decide_eq_true (by first | (with_reducible assumption) | assumption)
                  have hx7 := bt_at a0 x7_1
                  replace p7 := eq_true p7
                  replace q7 := eq_true q7
                  have p9 : 0 ≤ (x7_1 : Int) := of_decide_eq_true (by first | (with_reducible assumption) | assumption)
                  have q9 : x7_1 < (a0.size : Int) := of_decide_eq_true (by first | (with_reducible assumption) | assumption)
                  have hx9 := bt_at a0 x7_1
                  replace p9 := eq_true p9
                  replace q9 := eq_true q9
                  go_wp2
                  go_roundg k1
                  case measure => have := HK1.out; omega
                  case rel => exact ⟨(wrap64 (x7_1 + 1)), (by first | rfl | (simp; done) | (simp [*]; done) | (simp [Go.Proofs.YtbkeakeldegkeaaX.isEmpty_ne]; done)), H', ⟨by have := HK1.out; omega⟩, by repeat (first | exact Drawn0.refl _ | apply Drawn0.step)⟩
            · rw [if_neg c6] at H
              have c6b0 : decide ((Go.bits .or .u8 (bt a0 x7_1) 32) < 97) = false := decide_eq_false c6
              clear c6
              by_cases c11 : (Go.bits .or .u8 (bt a0 x7_1) 32) > 122
              · rw [if_pos c11] at H
                have c11b0 : decide (122 < (Go.bits .or .u8 (bt a0 x7_1) 32)) = true := decide_eq_true c11
                clear c11
                by_cases c13 : (bt a0 x7_1) < 48
                · rw [if_pos c13] at H
                  have c13b0 : decide ((bt a0 x7_1) < 48) = true := decide_eq_true c13
                  clear c13
                  obtain rfl := Option.some.inj H
                  have p5 : 0 ≤ (x7_1 : Int) := of_decide_eq_true (by first | (with_reducible assumption) | assumption)
                  have q5 : x7_1 < (a0.size : Int) := of_decide_eq_true (by first | (with_reducible assumption) | assumption)
                  have hx5 := bt_at a0 x7_1
                  replace p5 := eq_true p5
                  replace q5 := eq_true q5
                  have p12 : 0 ≤ (x7_1 : Int) := of_decide_eq_true (by first | (with_reducible assumption) | assumption)
                  have q12 : x7_1 < (a0.size : Int) := of_decide_eq_true (by first | (with_reducible assumption) | assumption)
                  have hx12 := bt_at a0 x7_1
                  replace p12 := eq_true p12
                  replace q12 := eq_true q12
                  go_wp2
                  go_ret
                  exact ⟨by first | rfl | (simp; done) | (simp [*]; done) | (simp [Go.Proofs.YtbkeakeldegkeaaX.isEmpty_ne]; done), by repeat (first | exact Drawn0.refl _ | apply Drawn0.step)⟩
                · rw [if_neg c13] at H
                  have c13b0 : decide ((bt a0 x7_1) < 48) = false := decide_eq_false c13
                  clear c13
                  by_cases c15 : (bt a0 x7_1) > 57
                  · rw [if_pos c15] at H
                    have c15b0 : decide (57 < (bt a0 x7_1)) = true := decide_eq_true c15
                    clear c15
                    obtain rfl := Option.some.inj H
                    have p5 : 0 ≤ (x7_1 : Int) := of_decide_eq_true (by first | (with_reducible assumption) | assumption)
                    have q5 : x7_1 < (a0.size : Int) := of_decide_eq_true (by first | (with_reducible assumption) | assumption)
                    have hx5 := bt_at a0 x7_1
                    replace p5 := eq_true p5
                    replace q5 := eq_true q5
                    have p12 : 0 ≤ (x7_1 : Int) := of_decide_eq_true (by first | (with_reducible assumption) | assumption)
                    have q12 : x7_1 < (a0.size : Int) := of_decide_eq_true (by first | (with_reducible assumption) | assumption)
                    have hx12 := bt_at a0 x7_1
                    replace p12 := eq_true p12
                    replace q12 := eq_true q12
                    have p14 : 0 ≤ (x7_1 : Int) := of_decide_eq_true (by first | (with_reducible assumption) | assumption)
                    have q14 : x7_1 < (a0.size : Int) := of_decide_eq_true (by first | (with_reducible assumption) | assumption)
                    have hx14 := bt_at a0 x7_1
                    replace p14 := eq_true p14
                    replace q14 := eq_true q14
                    go_wp2
                    go_ret
                    exact ⟨by first | rfl | (simp; done) | (simp [*]; done) | (simp [Go.Proofs.YtbkeakeldegkeaaX.isEmpty_ne]; done), by repeat (first | exact Drawn0.refl _ | apply Drawn0.step)⟩
                  · rw [if_neg c15] at H
                    have c15b0 : decide (57 < (bt a0 x7_1)) = false := decide_eq_false c15
                    clear c15
                    have H' := Aside0.mk H
                    clear H
                    have p5 : 0 ≤ (x7_1 : Int) := of_decide_eq_true (by first | (with_reducible assumption) | assumption)
                    have q5 : x7_1 < (a0.size : Int) := of_decide_eq_true (by first | (with_reducible assumption) | assumption)
                    have hx5 := bt_at a0 x7_1
                    replace p5 := eq_true p5
                    replace q5 := eq_true q5
                    have p12 : 0 ≤ (x7_1 : Int) := of_decide_eq_true (by first | (with_reducible assumption) | assumption)
                    have q12 : x7_1 < (a0.size : Int) := of_decide_eq_true (by first | (with_reducible assumption) | assumption)
                    have hx12 := bt_at a0 x7_1
                    replace p12 := eq_true p12
                    replace q12 := eq_true q12
                    have p14 : 0 ≤ (x7_1 : Int) := of_decide_eq_true (by first | (with_reducible assumption) | assumption)
                    have q14 : x7_1 < (a0.size : Int) := of_decide_eq_true (by first | (with_reducible assumption) | assumption)
                    have hx14 := bt_at a0 x7_1
                    replace p14 := eq_true p14
                    replace q14 := eq_true q14
                    go_wp2
                    go_roundg k1
                    case measure => have := HK1.out; omega
                    case rel => exact ⟨(wrap64 (x7_1 + 1)), (by first | rfl | (simp; done) | (simp [*]; done) | (simp [Go.Proofs.YtbkeakeldegkeaaX.isEmpty_ne]; done)), H', ⟨by have := HK1.out; omega⟩, by repeat (first | exact Drawn0.refl _ | apply Drawn0.step)⟩
              · rw [if_neg c11] at H
                have c11b0 : decide (122 < (Go.bits .or .u8 (bt a0 x7_1) 32)) = false := decide_eq_false c11
                clear c11
                have H' := Aside0.mk H
                clear H
                have p5 : 0 ≤ (x7_1 : Int) := of_decide_eq_true (by first | (with_reducible assumption) | assumption)
                have q5 : x7_1 < (a0.size : Int) := of_decide_eq_true (by first | (with_reducible assumption) | assumption)
                have hx5 := bt_at a0 x7_1
                replace p5 := eq_true p5
                replace q5 := eq_true q5
                go_wp2
                go_roundg k1
                case measure => have := HK1.out; omega
                case rel => exact ⟨(wrap64 (x7_1 + 1)), (by first | rfl | (simp; done) | (simp [*]; done) | (simp [Go.Proofs.YtbkeakeldegkeaaX.isEmpty_ne]; done)), H', ⟨by have := HK1.out; omega⟩, by repeat (first | exact Drawn0.refl _ | apply Drawn0.step)⟩
          · rw [if_neg c4] at H
            exact absurd H (by simp)
        · rw [if_neg c3] at H
          exact absurd H (by simp)
      · rw [if_neg c2] at H
        have c2b0 : decide (x7_1 < (a0.size : Int)) = false := decide_eq_false c2
        clear c2
        obtain rfl := Option.some.inj H
        go_wp2
        go_ret
        exact ⟨by first | rfl | (simp; done) | (simp [*]; done) | (simp [Go.Proofs.YtbkeakeldegkeaaX.isEmpty_ne]; done), by repeat (first | exact Drawn0.refl _ | apply Drawn0.step)⟩
end Go.Proofs.Ytbkeakeldegkeaa.Q
namespace Go.Proofs.Ytbkeakeldegkeaa.Q
open Go.RowKit Go.Proofs.YtbkeakeldegkeaaW.PrintWords Go.Proofs.YtbkeakeldegkeaaW.PrintLast Go.Proofs.YtbkeakeldegkeaaW.PrintMore
attribute [local go_sem] max2_int min2_int max_two min_two max_three min_three max_four min_four
set_option linter.unusedVariables false
set_option linter.unusedSimpArgs false
def laws_short.l0 : Nat → List ByteArray → List ByteArray → Int → Int → Option (Bool)
  | 0, _, _, _, _ => none
  | k + 1, x0, x5, x6, x7 => if x7 < x6 then (if 0 ≤ x7 then (if x7 < (x5.length : Int) then (if ((rdOf ByteArray.empty x5 x7).size : Int) > 2000 then (some false) else (laws_short.l0 k x0 x5 x6 (wrap64 (x7 + 1)))) else (none)) else (none)) else (some (decide ((x0.length : Int) ≤ 60)))
def laws_short.f (k : Nat) (l0 : List ByteArray) : Option (Bool) := laws_short.l0 k l0 l0 (l0.length : Int) 0
set_option maxHeartbeats 8000000 in
set_option maxRecDepth 100000 in
theorem laws_short.calls (k : Nat) (A0 : Option Addr) (c0 : Nat) (l0 : List ByteArray) (r : Bool) (w : World) (hr0 : Kd.C Kd.string w A0 l0.length l0) (hc0 : l0.length ≤ c0) (h : laws_short.f k l0 = some r) :
    Calls Try.prog 14 #[.slice A0 l0.length c0] w fun e w' => e = .returned (.bool r) ∧ Drawn0 w w' := by
  have HR0 := Aside0.mk hr0
  have HC0 := Aside0.mk hc0
  clear hr0 hc0
  have H : (laws_short.l0 k l0 l0 (l0.length : Int) 0) = some r := h
  clear h
  have H' := Aside0.mk H
  clear H
  go_enter Try.func14, Try.ntmps14
  go_wp2
  go_loopg [7] k (fun kq v7 w' => ∃ (x7_1 : Int), v7 = .int .i64 x7_1 ∧ Aside0 (laws_short.l0 kq l0 l0 (l0.length : Int) x7_1 = some r) ∧ Aside0 (kq ≤ k) ∧ Drawn0 w w')
  case atStart => exact ⟨(0), (by first | rfl | (simp; done) | (simp [*]; done) | (simp [Go.Proofs.YtbkeakeldegkeaaX.isEmpty_ne]; done)), H', ⟨Nat.le_refl _⟩, by repeat (first | exact Drawn0.refl _ | apply Drawn0.step)⟩
  case round =>
    clear H'
    try clear c1
    obtain ⟨x7_1, rfl, HA, HK1, ⟨m1, rfl⟩⟩ := hrel
    cases gk with
    | zero => exact absurd HA.out (by simp [laws_short.l0])
    | succ k1 =>
      have H := HA.out
      clear HA
      simp only [laws_short.l0] at H
      by_cases c2 : x7_1 < (l0.length : Int)
      · rw [if_pos c2] at H
        have c2b0 : decide (x7_1 < (l0.length : Int)) = true := decide_eq_true c2
        clear c2
        by_cases c3 : 0 ≤ x7_1
        · rw [if_pos c3] at H
          have c3b0 : decide (0 ≤ x7_1) = true := decide_eq_true c3
          clear c3
          by_cases c4 : x7_1 < (l0.length : Int)
          · rw [if_pos c4] at H
            have c4b0 : decide (x7_1 < (l0.length : Int)) = true := decide_eq_true c4
            clear c4
            by_cases c5 : ((rdOf ByteArray.empty l0 x7_1).size : Int) > 2000
            · rw [if_pos c5] at H
              have c5b0 : decide (2000 < ((rdOf ByteArray.empty l0 x7_1).size : Int)) = true := decide_eq_true c5
              have c5b1 : decide (2000 < (rdOf ByteArray.empty l0 x7_1).size) = true := decide_eq_true (by omega)
              clear c5
              obtain rfl := Option.some.inj H
              have p193 : 0 ≤ (x7_1 : Int) := of_decide_eq_true (by first | (with_reducible assumption) | assumption)
              have q193 : x7_1 < (l0.length : Int) := of_decide_eq_true (by first | (with_reducible assumption) | assumption)
              obtain ⟨ad193, e193, hx193_0⟩ := Kd.at_string HR0.out x7_1 p193 q193
              cases e193
              replace p193 := eq_true p193
              replace q193 := eq_true q193
              go_wp2
              go_ret
              exact ⟨by first | rfl | (simp; done) | (simp [*]; done) | (simp [Go.Proofs.YtbkeakeldegkeaaX.isEmpty_ne]; done), by repeat (first | exact Drawn0.refl _ | apply Drawn0.step)⟩
            · rw [if_neg c5] at H
              have c5b0 : decide (2000 < ((rdOf ByteArray.empty l0 x7_1).size : Int)) = false := decide_eq_false c5
              have c5b1 : decide (2000 < (rdOf ByteArray.empty l0 x7_1).size) = false := decide_eq_false (by omega)
              clear c5
              have H' := Aside0.mk H
              clear H
              have p193 : 0 ≤ (x7_1 : Int) := of_decide_eq_true (by first | (with_reducible assumption) | assumption)
              have q193 : x7_1 < (l0.length : Int) := of_decide_eq_true (by first | (with_reducible assumption) | assumption)
              obtain ⟨ad193, e193, hx193_0⟩ := Kd.at_string HR0.out x7_1 p193 q193
              cases e193
              replace p193 := eq_true p193
              replace q193 := eq_true q193
              go_wp2
              go_roundg k1
              case measure => have := HK1.out; omega
              case rel => exact ⟨(wrap64 (x7_1 + 1)), (by first | rfl | (simp; done) | (simp [*]; done) | (simp [Go.Proofs.YtbkeakeldegkeaaX.isEmpty_ne]; done)), H', ⟨by have := HK1.out; omega⟩, by repeat (first | exact Drawn0.refl _ | apply Drawn0.step)⟩
          · rw [if_neg c4] at H
            exact absurd H (by simp)
        · rw [if_neg c3] at H
          exact absurd H (by simp)
      · rw [if_neg c2] at H
        have c2b0 : decide (x7_1 < (l0.length : Int)) = false := decide_eq_false c2
        clear c2
        obtain rfl := Option.some.inj H
        go_wp2
        go_ret
        exact ⟨by first | rfl | (simp; done) | (simp [*]; done) | (simp [Go.Proofs.YtbkeakeldegkeaaX.isEmpty_ne]; done), by repeat (first | exact Drawn0.refl _ | apply Drawn0.step)⟩
end Go.Proofs.Ytbkeakeldegkeaa.Q
end
section
namespace Go.Proofs.Ytbkeakeldegkeaa.Q
open Go.RowKit Go.Proofs.YtbkeakeldegkeaaW.PrintWords Go.Proofs.YtbkeakeldegkeaaW.PrintLast Go.Proofs.YtbkeakeldegkeaaW.PrintMore
attribute [local go_sem] max2_int min2_int max_two min_two max_three min_three max_four min_four
set_option linter.unusedVariables false
set_option linter.unusedSimpArgs false
mutual
def laws_calm.l0 : Nat → List ByteArray → Int → Int → Option (Bool)
  | 0, _, _, _ => none
  | k + 1, x6, x7, x8 => if x8 < x7 then (if 0 ≤ x8 then (if x8 < (x6.length : Int) then (laws_calm.l1 k (rdOf ByteArray.empty x6 x8) x6 x7 x8 ((rdOf ByteArray.empty x6 x8).size : Int) 0) else (none)) else (none)) else (some true)
def laws_calm.l1 : Nat → ByteArray → List ByteArray → Int → Int → Int → Int → Option (Bool)
  | 0, _, _, _, _, _, _ => none
  | k + 1, x4, x6, x7, x8, x13, x14 => if x14 < x13 then (if 0 ≤ x14 then (if x14 < (x4.size : Int) then (if (bt x4 x14) < 32 then (some false) else (if (bt x4 x14) = 127 then (some false) else (laws_calm.l1 k x4 x6 x7 x8 x13 (wrap64 (x14 + 1))))) else (none)) else (none)) else (laws_calm.l0 k x6 x7 (wrap64 (x8 + 1)))
end
def laws_calm.f (k : Nat) (l0 : List ByteArray) : Option (Bool) := laws_calm.l0 k l0 (l0.length : Int) 0
set_option maxHeartbeats 8000000 in
set_option maxRecDepth 100000 in
theorem laws_calm.calls (k : Nat) (A0 : Option Addr) (c0 : Nat) (l0 : List ByteArray) (r : Bool) (w : World) (hr0 : Kd.C Kd.string w A0 l0.length l0) (hc0 : l0.length ≤ c0) (h : laws_calm.f k l0 = some r) :
    Calls Try.prog 15 #[.slice A0 l0.length c0] w fun e w' => e = .returned (.bool r) ∧ Drawn0 w w' := by
  have HR0 := Aside0.mk hr0
  have HC0 := Aside0.mk hc0
  clear hr0 hc0
  have H : (laws_calm.l0 k l0 (l0.length : Int) 0) = some r := h
  clear h
  have H' := Aside0.mk H
  clear H
  go_enter Try.func15, Try.ntmps15
  go_wp2
  go_loopg [8] k (fun kq v8 w' => ∃ (x8_1 : Int), v8 = .int .i64 x8_1 ∧ Aside0 (laws_calm.l0 kq l0 (l0.length : Int) x8_1 = some r) ∧ Aside0 (kq ≤ k) ∧ Drawn0 w w')
  case atStart => exact ⟨(0), (by first | rfl | (simp; done) | (simp [*]; done) | (simp [Go.Proofs.YtbkeakeldegkeaaX.isEmpty_ne]; done)), H', ⟨Nat.le_refl _⟩, by repeat (first | exact Drawn0.refl _ | apply Drawn0.step)⟩
  case round =>
    clear H'
    try clear c1
    obtain ⟨x8_1, rfl, HA, HK1, ⟨m1, rfl⟩⟩ := hrel
    cases gk with
    | zero => exact absurd HA.out (by simp [laws_calm.l0])
    | succ k1 =>
      have H := HA.out
      clear HA
      simp only [laws_calm.l0] at H
      by_cases c2 : x8_1 < (l0.length : Int)
      · rw [if_pos c2] at H
        have c2b0 : decide (x8_1 < (l0.length : Int)) = true := decide_eq_true c2
        clear c2
        by_cases c3 : 0 ≤ x8_1
        · rw [if_pos c3] at H
          have c3b0 : decide (0 ≤ x8_1) = true := decide_eq_true c3
          clear c3
          by_cases c4 : x8_1 < (l0.length : Int)
          · rw [if_pos c4] at H
            have c4b0 : decide (x8_1 < (l0.length : Int)) = true := decide_eq_true c4
            clear c4
            have H' := Aside0.mk H
            clear H
            have p194 : 0 ≤ (x8_1 : Int) := of_decide_eq_true (by first | (with_reducible assumption) | assumption)
            have q194 : x8_1 < (l0.length : Int) := of_decide_eq_true (by first | (with_reducible assumption) | assumption)
            obtain ⟨ad194, e194, hx194_0⟩ := Kd.at_string HR0.out x8_1 p194 q194
            cases e194
            replace p194 := eq_true p194
            replace q194 := eq_true q194
            go_wp2
            go_loopg [14] k1 (fun kq v14 w' => ∃ (x14_2 : Int), v14 = .int .i64 x14_2 ∧ Aside0 (laws_calm.l1 kq (rdOf ByteArray.empty l0 x8_1) l0 (l0.length : Int) x8_1 ((rdOf ByteArray.empty l0 x8_1).size : Int) x14_2 = some r) ∧ Aside0 (kq ≤ k1) ∧ Drawn0 w w')
            case atStart => exact ⟨(0), (by first | rfl | (simp; done) | (simp [*]; done) | (simp [Go.Proofs.YtbkeakeldegkeaaX.isEmpty_ne]; done)), H', ⟨Nat.le_refl _⟩, by repeat (first | exact Drawn0.refl _ | apply Drawn0.step)⟩
            case round =>
              clear H'
              try clear c1
              try clear p1
              try clear q1
              try clear hx1
              try clear c2
              try clear c2b0
              try clear p2
              try clear c3
              try clear c3b0
              try clear c4
              try clear c4b0
              try clear hx194_0
              try clear p194
              try clear q194
              obtain ⟨x14_2, rfl, HA, HK2, ⟨m2, rfl⟩⟩ := hrel
              cases gk with
              | zero => exact absurd HA.out (by simp [laws_calm.l1])
              | succ k2 =>
                have H := HA.out
                clear HA
                simp only [laws_calm.l1] at H
                by_cases c5 : x14_2 < ((rdOf ByteArray.empty l0 x8_1).size : Int)
                · rw [if_pos c5] at H
                  have c5b0 : decide (x14_2 < ((rdOf ByteArray.empty l0 x8_1).size : Int)) = true := decide_eq_true c5
                  clear c5
                  by_cases c6 : 0 ≤ x14_2
                  · rw [if_pos c6] at H
                    have c6b0 : decide (0 ≤ x14_2) = true := decide_eq_true c6
                    clear c6
                    by_cases c7 : x14_2 < ((rdOf ByteArray.empty l0 x8_1).size : Int)
                    · rw [if_pos c7] at H
                      have c7b0 : decide (x14_2 < ((rdOf ByteArray.empty l0 x8_1).size : Int)) = true := decide_eq_true c7
                      clear c7
                      by_cases c9 : (bt (rdOf ByteArray.empty l0 x8_1) x14_2) < 32
                      · rw [if_pos c9] at H
                        have c9b0 : decide ((bt (rdOf ByteArray.empty l0 x8_1) x14_2) < 32) = true := decide_eq_true c9
                        clear c9
                        obtain rfl := Option.some.inj H
                        have p8 : 0 ≤ (x14_2 : Int) := of_decide_eq_true (by first | (with_reducible assumption) | assumption)
                        have q8 : x14_2 < ((rdOf ByteArray.empty l0 x8_1).size : Int) := of_decide_eq_true (by first | (with_reducible assumption) | assumption)
                        have hx8 := bt_at (rdOf ByteArray.empty l0 x8_1) x14_2
                        replace p8 := eq_true p8
                        replace q8 := eq_true q8
                        go_wp2
                        go_ret
                        exact ⟨by first | rfl | (simp; done) | (simp [*]; done) | (simp [Go.Proofs.YtbkeakeldegkeaaX.isEmpty_ne]; done), by repeat (first | exact Drawn0.refl _ | apply Drawn0.step)⟩
                      · rw [if_neg c9] at H
                        have c9b0 : decide ((bt (rdOf ByteArray.empty l0 x8_1) x14_2) < 32) = false := decide_eq_false c9
                        clear c9
                        by_cases c11 : (bt (rdOf ByteArray.empty l0 x8_1) x14_2) = 127
                        · rw [if_pos c11] at H
                          have c11b0 : ((bt (rdOf ByteArray.empty l0 x8_1) x14_2) == 127) = true := beq_iff_eq.mpr c11
                          have c11b1 : ((bt (rdOf ByteArray.empty l0 x8_1) x14_2) != 127) = false := bne_eq_false_iff_eq.mpr c11
                          clear c11
                          obtain rfl := Option.some.inj H
                          have p8 : 0 ≤ (x14_2 : Int) := of_decide_eq_true (by first | (with_reducible assumption) | assumption)
                          have q8 : x14_2 < ((rdOf ByteArray.empty l0 x8_1).size : Int) := of_decide_eq_true (by first | (with_reducible assumption) | assumption)
                          have hx8 := bt_at (rdOf ByteArray.empty l0 x8_1) x14_2
                          replace p8 := eq_true p8
                          replace q8 := eq_true q8
                          have p10 : 0 ≤ (x14_2 : Int) := of_decide_eq_true (by first | (with_reducible assumption) | assumption)
                          have q10 : x14_2 < ((rdOf ByteArray.empty l0 x8_1).size : Int) := of_decide_eq_true (by first | (with_reducible assumption) | assumption)
                          have hx10 := bt_at (rdOf ByteArray.empty l0 x8_1) x14_2
                          replace p10 := eq_true p10
                          replace q10 := eq_true q10
                          go_wp2
                          go_ret
                          exact ⟨by first | rfl | (simp; done) | (simp [*]; done) | (simp [Go.Proofs.YtbkeakeldegkeaaX.isEmpty_ne]; done), by repeat (first | exact Drawn0.refl _ | apply Drawn0.step)⟩
                        · rw [if_neg c11] at H
                          have c11b0 : ((bt (rdOf ByteArray.empty l0 x8_1) x14_2) == 127) = false := beq_eq_false_iff_ne.mpr c11
                          have c11b1 : ((bt (rdOf ByteArray.empty l0 x8_1) x14_2) != 127) = true := bne_iff_ne.mpr c11
                          have H' := Aside0.mk H
                          clear H
                          have p8 : 0 ≤ (x14_2 : Int) := of_decide_eq_true (by first | (with_reducible assumption) | assumption)
                          have q8 : x14_2 < ((rdOf ByteArray.empty l0 x8_1).size : Int) := of_decide_eq_true (by first | (with_reducible assumption) | assumption)
                          have hx8 := bt_at (rdOf ByteArray.empty l0 x8_1) x14_2
                          replace p8 := eq_true p8
                          replace q8 := eq_true q8
                          have p10 : 0 ≤ (x14_2 : Int) := of_decide_eq_true (by first | (with_reducible assumption) | assumption)
                          have q10 : x14_2 < ((rdOf ByteArray.empty l0 x8_1).size : Int) := of_decide_eq_true (by first | (with_reducible assumption) | assumption)
                          have hx10 := bt_at (rdOf ByteArray.empty l0 x8_1) x14_2
                          replace p10 := eq_true p10
                          replace q10 := eq_true q10
                          go_wp2
                          go_roundg k2
                          case measure => have := HK1.out; have := HK2.out; omega
                          case rel => exact ⟨(wrap64 (x14_2 + 1)), (by first | rfl | (simp; done) | (simp [*]; done) | (simp [Go.Proofs.YtbkeakeldegkeaaX.isEmpty_ne]; done)), H', ⟨by have := HK1.out; have := HK2.out; omega⟩, by repeat (first | exact Drawn0.refl _ | apply Drawn0.step)⟩
                    · rw [if_neg c7] at H
                      exact absurd H (by simp)
                  · rw [if_neg c6] at H
                    exact absurd H (by simp)
                · rw [if_neg c5] at H
                  have c5b0 : decide (x14_2 < ((rdOf ByteArray.empty l0 x8_1).size : Int)) = false := decide_eq_false c5
                  clear c5
                  have H' := Aside0.mk H
                  clear H
                  go_wp2
                  go_roundg k2
                  case measure => have := HK1.out; have := HK2.out; omega
                  case rel => exact ⟨(wrap64 (x8_1 + 1)), (by first | rfl | (simp; done) | (simp [*]; done) | (simp [Go.Proofs.YtbkeakeldegkeaaX.isEmpty_ne]; done)), H', ⟨by have := HK1.out; have := HK2.out; omega⟩, by repeat (first | exact Drawn0.refl _ | apply Drawn0.step)⟩
          · rw [if_neg c4] at H
            exact absurd H (by simp)
        · rw [if_neg c3] at H
          exact absurd H (by simp)
      · rw [if_neg c2] at H
        have c2b0 : decide (x8_1 < (l0.length : Int)) = false := decide_eq_false c2
        clear c2
        obtain rfl := Option.some.inj H
        go_wp2
        go_ret
        exact ⟨by first | rfl | (simp; done) | (simp [*]; done) | (simp [Go.Proofs.YtbkeakeldegkeaaX.isEmpty_ne]; done), by repeat (first | exact Drawn0.refl _ | apply Drawn0.step)⟩
end Go.Proofs.Ytbkeakeldegkeaa.Q
namespace Go.Proofs.Ytbkeakeldegkeaa.Q
open Go.RowKit Go.Proofs.YtbkeakeldegkeaaW.PrintWords Go.Proofs.YtbkeakeldegkeaaW.PrintLast Go.Proofs.YtbkeakeldegkeaaW.PrintMore
attribute [local go_sem] max2_int min2_int max_two min_two max_three min_three max_four min_four
set_option linter.unusedVariables false
set_option linter.unusedSimpArgs false
end Go.Proofs.Ytbkeakeldegkeaa.Q
end
section
namespace Go.Proofs.Ytbkeakeldegkeaa.Q
open Go.RowKit Go.Proofs.YtbkeakeldegkeaaW.PrintWords Go.Proofs.YtbkeakeldegkeaaW.PrintLast Go.Proofs.YtbkeakeldegkeaaW.PrintMore
attribute [local go_sem] max2_int min2_int max_two min_two max_three min_three max_four min_four
set_option linter.unusedVariables false
set_option linter.unusedSimpArgs false
def laws_holds.l0 : Nat → ByteArray → Int → Int → Int → Option (Bool)
  | 0, _, _, _, _ => none
  | k + 1, x0, x1, x7, x8 => if x8 < x7 then (if 0 ≤ x8 then (if x8 < (x0.size : Int) then (if (bt x0 x8) = x1 then (some true) else (laws_holds.l0 k x0 x1 x7 (wrap64 (x8 + 1)))) else (none)) else (none)) else (some false)
def laws_holds.f (k : Nat) (a0 : ByteArray) (a1 : Int) : Option (Bool) := laws_holds.l0 k a0 a1 (a0.size : Int) 0
set_option maxHeartbeats 8000000 in
set_option maxRecDepth 100000 in
theorem laws_holds.calls (k : Nat) (a0 : ByteArray) (a1 : Int) (r : Bool) (w : World) (h : laws_holds.f k a0 a1 = some r) :
    Calls Try.prog 20 #[.string a0, .int .u8 a1] w fun e w' => e = .returned (.bool r) ∧ Drawn0 w w' := by
  have H : (laws_holds.l0 k a0 a1 (a0.size : Int) 0) = some r := h
  clear h
  have H' := Aside0.mk H
  clear H
  go_enter Try.func20, Try.ntmps20
  go_wp2
  go_loopg [8] k (fun kq v8 w' => ∃ (x8_1 : Int), v8 = .int .i64 x8_1 ∧ Aside0 (laws_holds.l0 kq a0 a1 (a0.size : Int) x8_1 = some r) ∧ Aside0 (kq ≤ k) ∧ Drawn0 w w')
  case atStart => exact ⟨(0), (by first | rfl | (simp; done) | (simp [*]; done) | (simp [Go.Proofs.YtbkeakeldegkeaaX.isEmpty_ne]; done)), H', ⟨Nat.le_refl _⟩, by repeat (first | exact Drawn0.refl _ | apply Drawn0.step)⟩
  case round =>
    clear H'
    try clear c2
    try clear p2
    obtain ⟨x8_1, rfl, HA, HK1, ⟨m1, rfl⟩⟩ := hrel
    cases gk with
    | zero => exact absurd HA.out (by simp [laws_holds.l0])
    | succ k1 =>
      have H := HA.out
      clear HA
      simp only [laws_holds.l0] at H
      by_cases c3 : x8_1 < (a0.size : Int)
      · rw [if_pos c3] at H
        have c3b0 : decide (x8_1 < (a0.size : Int)) = true := decide_eq_true c3
        clear c3
        by_cases c4 : 0 ≤ x8_1
        · rw [if_pos c4] at H
          have c4b0 : decide (0 ≤ x8_1) = true := decide_eq_true c4
          clear c4
          by_cases c5 : x8_1 < (a0.size : Int)
          · rw [if_pos c5] at H
            have c5b0 : decide (x8_1 < (a0.size : Int)) = true := decide_eq_true c5
            clear c5
            by_cases c7 : (bt a0 x8_1) = a1
            · rw [if_pos c7] at H
              have c7b0 : ((bt a0 x8_1) == a1) = true := beq_iff_eq.mpr c7
              have c7b1 : ((bt a0 x8_1) != a1) = false := bne_eq_false_iff_eq.mpr c7
              clear c7
              obtain rfl := Option.some.inj H
              have p6 : 0 ≤ (x8_1 : Int) := of_decide_eq_true (by first | (with_reducible assumption) | assumption)
              have q6 : x8_1 < (a0.size : Int) := of_decide_eq_true (by first | (with_reducible assumption) | assumption)
              have hx6 := bt_at a0 x8_1
              replace p6 := eq_true p6
              replace q6 := eq_true q6
              go_wp2
              go_ret
              exact ⟨by first | rfl | (simp; done) | (simp [*]; done) | (simp [Go.Proofs.YtbkeakeldegkeaaX.isEmpty_ne]; done), by repeat (first | exact Drawn0.refl _ | apply Drawn0.step)⟩
            · rw [if_neg c7] at H
              have c7b0 : ((bt a0 x8_1) == a1) = false := beq_eq_false_iff_ne.mpr c7
              have c7b1 : ((bt a0 x8_1) != a1) = true := bne_iff_ne.mpr c7
              have H' := Aside0.mk H
              clear H
              have p6 : 0 ≤ (x8_1 : Int) := of_decide_eq_true (by first | (with_reducible assumption) | assumption)
              have q6 : x8_1 < (a0.size : Int) := of_decide_eq_true (by first | (with_reducible assumption) | assumption)
              have hx6 := bt_at a0 x8_1
              replace p6 := eq_true p6
              replace q6 := eq_true q6
              go_wp2
              go_roundg k1
              case measure => have := HK1.out; omega
              case rel => exact ⟨(wrap64 (x8_1 + 1)), (by first | rfl | (simp; done) | (simp [*]; done) | (simp [Go.Proofs.YtbkeakeldegkeaaX.isEmpty_ne]; done)), H', ⟨by have := HK1.out; omega⟩, by repeat (first | exact Drawn0.refl _ | apply Drawn0.step)⟩
          · rw [if_neg c5] at H
            exact absurd H (by simp)
        · rw [if_neg c4] at H
          exact absurd H (by simp)
      · rw [if_neg c3] at H
        have c3b0 : decide (x8_1 < (a0.size : Int)) = false := decide_eq_false c3
        clear c3
        obtain rfl := Option.some.inj H
        go_wp2
        go_ret
        exact ⟨by first | rfl | (simp; done) | (simp [*]; done) | (simp [Go.Proofs.YtbkeakeldegkeaaX.isEmpty_ne]; done), by repeat (first | exact Drawn0.refl _ | apply Drawn0.step)⟩
end Go.Proofs.Ytbkeakeldegkeaa.Q
end
section
namespace Go.Proofs.Ytbkeakeldegkeaa.Q
open Go.RowKit Go.Proofs.YtbkeakeldegkeaaW.PrintWords Go.Proofs.YtbkeakeldegkeaaW.PrintLast Go.Proofs.YtbkeakeldegkeaaW.PrintMore
def lowB (c : UInt8) : UInt8 := if 65 ≤ c.toNat ∧ c.toNat ≤ 90 then c + 32 else c
def lowBL (l : List UInt8) (k : Nat) : List UInt8 := (l.take k).map lowB ++ l.drop k
theorem lowBL_len (l : List UInt8) (k : Nat) (h : k ≤ l.length) : (lowBL l k).length = l.length := by simp [lowBL]; omega
theorem lowBL_at (l : List UInt8) (k : Nat) (h : k < l.length) : (lowBL l k)[k]? = some l[k] := by
  unfold lowBL
  rw [List.getElem?_append_right (by simp; omega)]
  simp [Nat.min_eq_left (Nat.le_of_lt h)]
theorem lowBL_set (l : List UInt8) (k : Nat) (h : k < l.length) : (lowBL l k).set k (lowB l[k]) = lowBL l (k + 1) := by
  unfold lowBL
  rw [List.set_append_right _ _ (by simp; omega), List.take_succ_eq_append_getElem h, List.map_append, List.append_assoc]
  simp [Nat.min_eq_left (Nat.le_of_lt h)]
  rw [List.drop_eq_getElem_cons h]
  rfl
theorem lowBL_same (l : List UInt8) (k : Nat) (h : k < l.length) (hc : lowB l[k] = l[k]) : lowBL l (k + 1) = lowBL l k := by
  unfold lowBL
  rw [List.take_succ_eq_append_getElem h, List.map_append, List.append_assoc]
  conv => rhs; rw [List.drop_eq_getElem_cons h]
  simp [hc]
set_option maxHeartbeats 8000000 in
set_option maxRecDepth 100000 in
theorem low_calls (s : ByteArray) (w : World) (hl : s.size ≤ 140737488355328) : Calls Try.prog 21 #[.string s] w fun e w' => e = .returned (.string ⟨(s.data.toList.map lowB).toArray⟩) ∧ Below w.heap.size w w' := by
  have HL := Aside0.mk hl
  clear hl
  have HB := Aside0.mk (Below.refl w.heap.size w)
  obtain ⟨l, hl⟩ : ∃ l, l = s.data.toList := ⟨_, rfl⟩
  have HLL := Aside0.mk hl
  have hs : s.size = l.length := by rw [hl]; simp
  have HS := Aside0.mk hs
  clear hl hs
  go_enter Try.func21, Try.ntmps21
  go_wp2_with (refine Go.Proofs.YtbkeakeldegkeaaX.convL_ (some 6) rfl rfl 9 49 _ rfl s rfl ?_; refine (conv_BR 9 49 5 Try.underlying9 Try.underlying49 Try.underlying5 s _).mono ?_; rintro en w6 ⟨c6, rfl, hbr, hb⟩; rw [← HLL.out] at hbr; refine ⟨_, rfl, ?_⟩; have n0_ := Aside0.mk (below_step HB.out hb); have BK := hbr; clear HB hbr hb; have HB := n0_; clear n0_; obtain ⟨gb, hgb⟩ : ∃ g, g = w.heap.size := ⟨_, rfl⟩; have GE : Aside0 (w.heap.size ≤ gb) := ⟨by omega⟩; rw [← hgb] at BK ⊢; clear hgb)
  have BK0 : Aside0 (BR w6 gb 5 (lowBL l 0)) := ⟨by rw [show lowBL l 0 = l by simp [lowBL]]; exact BK⟩
  clear BK
  go_loopw [9] (fun s9 wr => ∃ k : Nat, s9 = .int .i64 (k : Int) ∧ Aside0 (k ≤ l.length) ∧ Aside0 (BR wr gb 5 (lowBL l k)) ∧ Aside0 (Below w.heap.size w wr)) (fun s9 _ => (l.length - (intOf s9)).toNat)
  case atStart => exact ⟨0, rfl, ⟨Nat.zero_le _⟩, BK0, HB⟩
  case round =>
    clear HB BK0
    obtain ⟨k, rfl, HK, BK, HB⟩ := hrel
    obtain ⟨x9, hx9⟩ : ∃ x : Int, x = (k : Int) := ⟨_, rfl⟩
    rw [← hx9]
    have HX := Aside0.mk hx9
    have hsl : (s.size : Int) = (l.length : Int) := by rw [HS.out]
    by_cases hlt : k < l.length
    · have c1 : decide (x9 < (s.size : Int)) = true := decide_eq_true (by omega)
      have c2 : decide (0 ≤ x9) = true := decide_eq_true (by omega)
      have p1 : (0 ≤ x9) = True := eq_true (by omega)
      have q1 : (x9 < (s.size : Int)) = True := eq_true (by omega)
      have hxt : x9.toNat = k := by omega
      obtain ⟨b, hb⟩ : ∃ b : UInt8, b = l[k] := ⟨_, rfl⟩
      obtain ⟨y, hy⟩ : ∃ y : Int, y = (b.toNat : Int) := ⟨_, rfl⟩
      have hlen := lowBL_len l k HK.out
      have hat : (lowBL l k)[k]'(by omega) = l[k] := by have := lowBL_at l k hlt; rw [List.getElem?_eq_getElem (by omega)] at this; exact Option.some.inj this
      have hcell : wr.cell? ⟨gb, x9.toNat, none⟩ = some (.int .u8 y) := by rw [hxt, hy, hb, ← hat]; exact BK.out.cell k (by omega)
      have hfz : wr.frozen? ⟨gb, x9.toNat, none⟩ = false := by rw [hxt]; exact BK.out.frozen k (by omega)
      have HY := Aside0.mk hy
      have HXT := Aside0.mk hxt
      have HLT := Aside0.mk hlt
      have HLEN := Aside0.mk hlen
      have HW : Aside0 (wrap64 (x9 + 1) = ((k + 1 : Nat) : Int)) := ⟨by have h1 := HL.out; have h2 := HS.out; rw [hx9]; unfold wrap64; omega⟩
      by_cases d1 : 65 ≤ y
      · have e1 : decide (65 ≤ y) = true := decide_eq_true d1
        by_cases d2 : y ≤ 90
        · have e2 : decide (y ≤ 90) = true := decide_eq_true d2
          have HD := Aside0.mk (And.intro d1 d2)
          have hset : (lowBL l k).set k (lowB b) = lowBL l (k + 1) := by rw [hb]; exact lowBL_set l k hlt
          have HSET := Aside0.mk hset
          clear hx9 hsl hxt hy hlen hat d1 d2 hset hb hlt
          go_wp2
          go_roundw
          case measure => show ((l.length : Int) - wrap64 (x9 + 1)).toNat < ((l.length : Int) - x9).toNat; rw [HW.out]; have := HX.out; have := HLT.out; omega
          case rel =>
            refine ⟨k + 1, congrArg (Value.int .i64) HW.out, ⟨by have := HLT.out; omega⟩, ⟨?_⟩, ⟨?_⟩⟩
            · have hd := HD.out
              have hy := HY.out
              have hb2 : ((y + 32) % 256 : Int) = ((lowB b).toNat : Int) := by
                have hc : lowB b = b + 32 := if_pos (by omega)
                rw [hc]
                have : (b + 32).toNat = (b.toNat + 32) % 256 := UInt8.toNat_add ..
                rw [this]
                omega
              have hp := BK.out.put k (by have := HLEN.out; have := HLT.out; omega) (lowB b)
              rw [HSET.out] at hp
              rw [HXT.out, hb2]
              exact hp
            · repeat (first | (with_reducible first | exact HB.out | apply below_alloc | apply pw_below_drewN | apply below_drew1 | refine below_set ?_ GE.out) | exact HB.out)
        · have e2 : decide (y ≤ 90) = false := decide_eq_false d2
          have hsame : lowBL l (k + 1) = lowBL l k := lowBL_same l k hlt (by rw [← hb]; exact if_neg (by omega))
          have HSM := Aside0.mk hsame
          clear hx9 hsl hxt hy hlen hat d1 d2 hsame hb hlt
          go_wp2
          go_roundw
          case measure => show ((l.length : Int) - wrap64 (x9 + 1)).toNat < ((l.length : Int) - x9).toNat; rw [HW.out]; have := HX.out; have := HLT.out; omega
          case rel => exact ⟨k + 1, congrArg (Value.int .i64) HW.out, ⟨by have := HLT.out; omega⟩, ⟨by rw [HSM.out]; exact BK.out.heap rfl⟩, ⟨by repeat (first | (with_reducible first | exact HB.out | apply below_alloc | apply pw_below_drewN | apply below_drew1) | exact HB.out)⟩⟩
      · have e1 : decide (65 ≤ y) = false := decide_eq_false d1
        have hsame : lowBL l (k + 1) = lowBL l k := lowBL_same l k hlt (by rw [← hb]; exact if_neg (by omega))
        have HSM := Aside0.mk hsame
        clear hx9 hsl hxt hy hlen hat d1 hsame hb hlt
        go_wp2
        go_roundw
        case measure => show ((l.length : Int) - wrap64 (x9 + 1)).toNat < ((l.length : Int) - x9).toNat; rw [HW.out]; have := HX.out; have := HLT.out; omega
        case rel => exact ⟨k + 1, congrArg (Value.int .i64) HW.out, ⟨by have := HLT.out; omega⟩, ⟨by rw [HSM.out]; exact BK.out.heap rfl⟩, ⟨by repeat (first | (with_reducible first | exact HB.out | apply below_alloc | apply pw_below_drewN | apply below_drew1) | exact HB.out)⟩⟩
    · have c1 : decide (x9 < (s.size : Int)) = false := decide_eq_false (by omega)
      have hke : k = l.length := by have := HK.out; omega
      have hcv := And.intro (BR.back BK.out 49 9 c6 Try.underlying49 Try.underlying5 Try.underlying9) (fun m => BR.back (BK.out.drewN m) 49 9 c6 Try.underlying49 Try.underlying5 Try.underlying9)
      rw [lowBL_len l k HK.out, ← HS.out] at hcv
      have HKE := Aside0.mk hke
      clear hx9 hsl hke hlt
      go_wp2
      go_ret
      refine ⟨?_, by repeat (first | (with_reducible first | exact HB.out | apply below_alloc | apply pw_below_drewN | apply below_drew1) | exact HB.out)⟩
      rw [HKE.out, ← HLL.out]
      simp [lowBL]
end Go.Proofs.Ytbkeakeldegkeaa.Q
end
section
namespace Go.Proofs.Ytbkeakeldegkeaa.Q
open Go.RowKit Go.Proofs.YtbkeakeldegkeaaW.PrintWords Go.Proofs.YtbkeakeldegkeaaW.PrintLast Go.Proofs.YtbkeakeldegkeaaW.PrintMore
attribute [local go_sem] max2_int min2_int max_two min_two max_three min_three max_four min_four
set_option linter.unusedVariables false
set_option linter.unusedSimpArgs false
def laws_zzFits1.l0 : Nat → List ByteArray → Int → Int → Option (Bool)
  | 0, _, _, _ => none
  | k + 1, x8, x9, x10 => if x10 < x9 then (if 0 ≤ x10 then (if x10 < (x8.length : Int) then (if ((rdOf ByteArray.empty x8 x10).size : Int) > 2147483647 then (some false) else (laws_zzFits1.l0 k x8 x9 (wrap64 (x10 + 1)))) else (none)) else (none)) else (some true)
def laws_zzFits1.f (k : Nat) (l0 : List ByteArray) : Option (Bool) := if (l0.length : Int) > 2147483647 then (some false) else (laws_zzFits1.l0 k l0 (l0.length : Int) 0)
set_option maxHeartbeats 8000000 in
set_option maxRecDepth 100000 in
theorem laws_zzFits1.calls (k : Nat) (A0 : Option Addr) (c0 : Nat) (l0 : List ByteArray) (r : Bool) (w : World) (hr0 : Kd.C Kd.string w A0 l0.length l0) (hc0 : l0.length ≤ c0) (h : laws_zzFits1.f k l0 = some r) :
    Calls Try.prog 19 #[.slice A0 l0.length c0] w fun e w' => e = .returned (.bool r) ∧ Drawn0 w w' := by
  have HR0 := Aside0.mk hr0
  have HC0 := Aside0.mk hc0
  clear hr0 hc0
  have H : (if (l0.length : Int) > 2147483647 then (some false) else (laws_zzFits1.l0 k l0 (l0.length : Int) 0)) = some r := h
  clear h
  by_cases c2 : (l0.length : Int) > 2147483647
  · rw [if_pos c2] at H
    have c2b0 : decide (2147483647 < (l0.length : Int)) = true := decide_eq_true c2
    have c2b1 : decide (2147483647 < l0.length) = true := decide_eq_true (by omega)
    clear c2
    obtain rfl := Option.some.inj H
    go_enter Try.func19, Try.ntmps19
    go_wp2
    go_ret
    exact ⟨by first | rfl | (simp; done) | (simp [*]; done) | (simp [Go.Proofs.YtbkeakeldegkeaaX.isEmpty_ne]; done), by repeat (first | exact Drawn0.refl _ | apply Drawn0.step)⟩
  · rw [if_neg c2] at H
    have c2b0 : decide (2147483647 < (l0.length : Int)) = false := decide_eq_false c2
    have c2b1 : decide (2147483647 < l0.length) = false := decide_eq_false (by omega)
    clear c2
    have H' := Aside0.mk H
    clear H
    go_enter Try.func19, Try.ntmps19
    go_wp2
    go_loopg [10] k (fun kq v10 w' => ∃ (x10_1 : Int), v10 = .int .i64 x10_1 ∧ Aside0 (laws_zzFits1.l0 kq l0 (l0.length : Int) x10_1 = some r) ∧ Aside0 (kq ≤ k) ∧ Drawn0 w w')
    case atStart => exact ⟨(0), (by first | rfl | (simp; done) | (simp [*]; done) | (simp [Go.Proofs.YtbkeakeldegkeaaX.isEmpty_ne]; done)), H', ⟨Nat.le_refl _⟩, by repeat (first | exact Drawn0.refl _ | apply Drawn0.step)⟩
    case round =>
      clear H'
      try clear c1
      try clear c2
      try clear c2b0
      try clear c2b1
      try clear p2
      obtain ⟨x10_1, rfl, HA, HK1, ⟨m1, rfl⟩⟩ := hrel
      cases gk with
      | zero => exact absurd HA.out (by simp [laws_zzFits1.l0])
      | succ k1 =>
        have H := HA.out
        clear HA
        simp only [laws_zzFits1.l0] at H
        by_cases c3 : x10_1 < (l0.length : Int)
        · rw [if_pos c3] at H
          have c3b0 : decide (x10_1 < (l0.length : Int)) = true := decide_eq_true c3
          clear c3
          by_cases c4 : 0 ≤ x10_1
          · rw [if_pos c4] at H
            have c4b0 : decide (0 ≤ x10_1) = true := decide_eq_true c4
            clear c4
            by_cases c5 : x10_1 < (l0.length : Int)
            · rw [if_pos c5] at H
              have c5b0 : decide (x10_1 < (l0.length : Int)) = true := decide_eq_true c5
              clear c5
              by_cases c6 : ((rdOf ByteArray.empty l0 x10_1).size : Int) > 2147483647
              · rw [if_pos c6] at H
                have c6b0 : decide (2147483647 < ((rdOf ByteArray.empty l0 x10_1).size : Int)) = true := decide_eq_true c6
                have c6b1 : decide (2147483647 < (rdOf ByteArray.empty l0 x10_1).size) = true := decide_eq_true (by omega)
                clear c6
                obtain rfl := Option.some.inj H
                have p498 : 0 ≤ (x10_1 : Int) := of_decide_eq_true (by first | (with_reducible assumption) | assumption)
                have q498 : x10_1 < (l0.length : Int) := of_decide_eq_true (by first | (with_reducible assumption) | assumption)
                obtain ⟨ad498, e498, hx498_0⟩ := Kd.at_string HR0.out x10_1 p498 q498
                cases e498
                replace p498 := eq_true p498
                replace q498 := eq_true q498
                go_wp2
                go_ret
                exact ⟨by first | rfl | (simp; done) | (simp [*]; done) | (simp [Go.Proofs.YtbkeakeldegkeaaX.isEmpty_ne]; done), by repeat (first | exact Drawn0.refl _ | apply Drawn0.step)⟩
              · rw [if_neg c6] at H
                have c6b0 : decide (2147483647 < ((rdOf ByteArray.empty l0 x10_1).size : Int)) = false := decide_eq_false c6
                have c6b1 : decide (2147483647 < (rdOf ByteArray.empty l0 x10_1).size) = false := decide_eq_false (by omega)
                clear c6
                have H' := Aside0.mk H
                clear H
                have p498 : 0 ≤ (x10_1 : Int) := of_decide_eq_true (by first | (with_reducible assumption) | assumption)
                have q498 : x10_1 < (l0.length : Int) := of_decide_eq_true (by first | (with_reducible assumption) | assumption)
                obtain ⟨ad498, e498, hx498_0⟩ := Kd.at_string HR0.out x10_1 p498 q498
                cases e498
                replace p498 := eq_true p498
                replace q498 := eq_true q498
                go_wp2
                go_roundg k1
                case measure => have := HK1.out; omega
                case rel => exact ⟨(wrap64 (x10_1 + 1)), (by first | rfl | (simp; done) | (simp [*]; done) | (simp [Go.Proofs.YtbkeakeldegkeaaX.isEmpty_ne]; done)), H', ⟨by have := HK1.out; omega⟩, by repeat (first | exact Drawn0.refl _ | apply Drawn0.step)⟩
            · rw [if_neg c5] at H
              exact absurd H (by simp)
          · rw [if_neg c4] at H
            exact absurd H (by simp)
        · rw [if_neg c3] at H
          have c3b0 : decide (x10_1 < (l0.length : Int)) = false := decide_eq_false c3
          clear c3
          obtain rfl := Option.some.inj H
          go_wp2
          go_ret
          exact ⟨by first | rfl | (simp; done) | (simp [*]; done) | (simp [Go.Proofs.YtbkeakeldegkeaaX.isEmpty_ne]; done), by repeat (first | exact Drawn0.refl _ | apply Drawn0.step)⟩
def laws_low.f (a0 : ByteArray) : Option (ByteArray) := if a0.size ≤ 140737488355328 then some ⟨(a0.data.toList.map lowB).toArray⟩ else none
theorem laws_low.calls (a0 : ByteArray) (r : ByteArray) (w : World) (h : laws_low.f a0 = some r) :
    Calls Try.prog 21 #[.string a0] w fun e w' => e = .returned (.string r) ∧ Below w.heap.size w w' := by
  unfold laws_low.f at h
  split at h
  · obtain rfl := Option.some.inj h
    exact low_calls a0 w (by assumption)
  · cases h
end Go.Proofs.Ytbkeakeldegkeaa.Q
end
