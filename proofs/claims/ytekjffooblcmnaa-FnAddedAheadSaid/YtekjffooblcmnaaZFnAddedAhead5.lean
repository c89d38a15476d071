/- FnAddedAhead: the law's function, called with any arguments, returns true and leaves its arguments as they were: every input, no condition. Part 6 of 8. -/
import Derived.Test.YtekjffooblcmnaaZFnAddedAhead4
import Derived.Defers
import Derived.Recover
import Derived.Laws.Pointers
import Derived.Test.YtekjffooblcmnaaZFnAddedAhead0
set_option linter.unusedVariables false
set_option linter.unusedSimpArgs false
set_option linter.unusedSectionVars false
section
namespace Go.Proofs.Ytekjffooblcmnaa.Q
open Go.RowKit Go.Proofs.YtekjffooblcmnaaW.PrintWords Go.Proofs.YtekjffooblcmnaaW.PrintLast Go.Proofs.YtekjffooblcmnaaW.PrintMore
open Go.Proofs.YtekjffooblcmnaaKit (L size_L L_extract L_append)
open Go.Proofs.Ytekjffooblcmnaa.Ob
open Go.Proofs.Ytekjffooblcmnaa.Rh (ptr NR HT Own Srt ncell Got DR Blk bT bB)
open Go.Proofs.Ytekjffooblcmnaa.Rt (Nd Dat Tb Ch Str lcp ins put rep kidL addL steps names)
set_option linter.unusedVariables false
set_option linter.unusedSimpArgs false
set_option maxHeartbeats 16000000 in
set_option maxRecDepth 1000000 in
theorem addRoute_bad (w : World) (gr : Nat) (s : ByteArray) (hsz : s.size ≤ 1000000) (hok : okT (L s) = false) (A : Option Addr) (n c : Nat) :
    Calls Try.prog 19 #[.pointer (some ⟨gr, 0, none⟩), .string s, .slice A n c] w (fun e w' => (∃ u pv, e = .panicked [{ v := .iface u pv, recovered := false }]) ∧ Below w.heap.size w w') := by
  have HSZ := Aside0.mk hsz
  have HOK := Aside0.mk hok
  clear hsz hok
  go_enter Try.func19, Try.ntmps19
  go_wp2_with (fail)
  refine (cpv_calls w s HSZ.out).mono ?_
  rintro e w1 ⟨hb1, ⟨h, _⟩ | ⟨_, u, pv, rfl⟩⟩
  · rw [HOK.out] at h; cases h
  have HB := Aside0.mk hb1
  clear hb1
  go_wp2_with (fail)
  exact ⟨rfl, ⟨u, pv, rfl⟩, HB.out⟩
theorem cell_of {w : World} {g : Nat} {C : Array Value} {e : TypeId} {f : Nat × Nat} (h : w.heap[g]? = some (.cells C e f)) (i : Nat) {v : Value} (hi : C[i]? = some v) : w.cell? ⟨g, i, none⟩ = some v := by
  unfold World.cell?
  rw [h]
  simpa using hi
set_option maxHeartbeats 16000000 in
theorem zzadd_bad (w : World) (zr gr : Nat) (mp : Int) (hz : w.heap[zr]? = some (.cells #[.pointer (some ⟨gr, 0, none⟩), .int .u16 mp] 57 (0, 0))) (s : ByteArray) (hsz : s.size ≤ 1000000) (hok : okT (L s) = false) (place : Int) :
    Calls Try.prog 18 #[.pointer (some ⟨zr, 0, none⟩), .string s, .int .i64 place] w (fun e w' => (∃ u pv, e = .panicked [{ v := .iface u pv, recovered := false }]) ∧ Below w.heap.size w w') := by
  have c0 := cell_of hz 0 rfl
  have HSZ := Aside0.mk hsz
  have HOK := Aside0.mk hok
  clear hz hsz hok
  go_enter Try.func18, Try.ntmps18
  go_wp2_with (fail)
  refine (addRoute_bad _ gr s HSZ.out HOK.out _ _ _).mono ?_
  rintro e w1 ⟨⟨u, pv, rfl⟩, hb⟩
  have HB := Aside0.mk (below_step (below_alloc (Below.refl _ _) _) hb)
  clear hb
  go_wp2_with (fail)
  exact ⟨rfl, ⟨u, pv, rfl⟩, HB.out⟩
def KeepB (w w' : World) : Prop := ∀ (k : Nat) (C : Array Value) (f : Nat × Nat), w.heap[k]? = some (Obj.cells C 4 f) → w'.heap[k]? = some (Obj.cells C 4 f)
theorem KeepB.trans {a b c : World} (h : KeepB a b) (k : KeepB b c) : KeepB a c := fun i C f e => k i C f (h i C f e)
theorem KeepB.below {a b : World} (h : Below a.heap.size a b) : KeepB a b := fun i C f e => (h.block i (Array.getElem?_eq_some_iff.1 e).1).trans e
theorem KeepB.only {a b : World} {S : Nat → Prop} (h : Only S a b) (hs : ∀ k, k < a.heap.size → S k → ∃ C e f, a.heap[k]? = some (.cells C e f) ∧ e ≠ 4) : KeepB a b := fun i C f e => (h.block i (Array.getElem?_eq_some_iff.1 e).1 fun hS => by
  obtain ⟨C', e', f', h1, h2⟩ := hs i (Array.getElem?_eq_some_iff.1 e).1 hS
  rw [e] at h1
  cases h1
  exact h2 rfl).trans e
def OkP (ok : Bool) (e : Ending) : Prop := (ok = true ∧ e = .returned (.tuple #[])) ∨ (ok = false ∧ ∃ u pv, e = .panicked [{ v := .iface u pv, recovered := false }])
set_option maxHeartbeats 16000000 in
theorem zzadd_calls (base : Nat) (w : World) {zr gr n B BM : Nat} {t : Tb} (Z : ZS base w zr gr t n B) (hB : 2 ≤ B) (hBM : BM ≤ 1000000) (s : ByteArray) (hsz : s.size ≤ 1000000) (hB2 : B + 2 * s.size + 2 ≤ BM) (hok : okT (L s) = true) (u : Str) (hs : L s = 47 :: u) (place : Int) {t' : Tb} {n' : Nat} {ok : Bool} (ha : addL ⟨place, L s, names (u.length + 1) u⟩ (steps (u.length + 1) [47] u) t n = some (t', n', ok)) :
    Calls Try.prog 18 #[.pointer (some ⟨zr, 0, none⟩), .string s, .int .i64 place] w (fun e w' => OkP ok e ∧ ZS base w' zr gr t' n' BM ∧ Below base w w' ∧ KeepB w w') := by
  obtain ⟨φ, K, mp, hR, hz, hO, hzr, hbw⟩ := Z.ex
  have c0 := cell_of hz 0 rfl
  have b0 := below_alloc (Below.refl w.heap.size w) (.cells #[.int .i64 place] 3)
  have hC := addRoute_calls (w.alloc (.cells #[.int .i64 place] 3)) (@RS.below bT w _ gr n B t φ K hR b0) hB hBM s hsz hB2 hok u hs w.heap.size 1 ⟨place, L s, names (u.length + 1) u⟩ rfl rfl ⟨rfl, .inr ⟨w.heap.size, 1, #[.int .i64 place], rfl, Nat.zero_le _, heap_alloc_new w _, Nat.le_refl _, by decide, rfl, rfl⟩⟩ ha
  have key : ∀ e w1, AddPost (w.alloc (.cells #[.int .i64 place] 3)) gr t φ K t' n' BM ok e w1 → OkP ok e ∧ (Below base w w1 ∧ KeepB w w1) ∧ ∃ φ' K', @RS bT w1 gr t' n' BM φ' K' ∧ w1.heap[zr]? = some (.cells #[.pointer (some ⟨gr, 0, none⟩), .int .u16 mp] 57 (0, 0)) ∧ (∀ k, Own t' φ' K' k → base ≤ k) ∧ base ≤ w1.heap.size := fun e w1 hP => by
    obtain ⟨⟨φ', K', B', hB', R', G'⟩, hE⟩ := hP
    have hzlt := (Array.getElem?_eq_some_iff.1 hz).1
    have on := @Go.Proofs.Ytekjffooblcmnaa.Rh.Got.on bT _ _ _ _ _ _ _ _ G'
    have hs1 : w.heap.size ≤ (w.alloc (.cells #[.int .i64 place] 3)).heap.size := b0.size
    have on2 : Only (Own t φ K) w w1 := (Only.of_below (S := Own t φ K) b0).trans on fun i _ h => h
    refine ⟨hE, ⟨on2.below hO hbw, KeepB.only on2 fun k hk hS => by
      obtain ⟨C, e', f', k1, k2⟩ := @Go.Proofs.Ytekjffooblcmnaa.Rh.Own.srt bT w t φ K (@RS.ht bT w gr t n B φ K hR) k hS
      exact ⟨C, e', f', k1, by rcases k2 with k2 | k2 <;> (rw [k2]; decide)⟩⟩, φ', K', @RS.more bT w1 gr n' B' t' φ' K' R' _ _ (Nat.le_refl _) hB', (on2.block zr hzlt fun e => ?_).trans hz, fun k hk => ?_, Nat.le_trans hbw on2.size⟩
    · obtain ⟨C, e', f', k1, k2⟩ := @Go.Proofs.Ytekjffooblcmnaa.Rh.Own.srt bT w t φ K (@RS.ht bT w gr t n B φ K hR) zr e
      rw [hz] at k1
      cases k1
      rcases k2 with k2 | k2 <;> cases k2
    · rcases @Go.Proofs.Ytekjffooblcmnaa.Rh.Got.new bT _ _ _ _ _ _ _ _ G' k hk with q | q
      · exact hO k q
      · exact Nat.le_trans hbw (Nat.le_trans hs1 q)
  have HC := Aside0.mk hC
  have KEY := Aside0.mk key
  have HSZ := Aside0.mk hsz
  have HZR := Aside0.mk hzr
  have HBW := Aside0.mk hbw
  clear hC key hz hO hR b0 Z ha hB hBM hB2 hok hs hsz hzr hbw
  go_enter Try.func18, Try.ntmps18
  go_wp2_with (fail)
  refine HC.out.mono ?_
  intro e w1 hP
  obtain ⟨hE, hb1, φ', K', R1, hz1, hO1, hs1⟩ := KEY.out e w1 hP
  clear hP
  rcases hE with ⟨h1, rfl⟩ | ⟨h1, u1, pv, rfl⟩
  rotate_left
  · have HF : Aside0 (OkP ok (.panicked [{ v := .iface u1 pv, recovered := false }]) ∧ ZS base w1 zr gr t' n' BM ∧ Below base w w1 ∧ KeepB w w1) := ⟨.inr ⟨h1, _, _, rfl⟩, ⟨φ', K', mp, R1, hz1, hO1, HZR.out, hs1⟩, hb1⟩
    clear hb1 R1 hz1 hO1 hs1 h1 c0
    go_wp2_with (fail)
    exact ⟨rfl, HF.out⟩
  · have Z1 : ZS base w1 zr gr t' n' BM := ⟨φ', K', mp, R1, hz1, hO1, HZR.out, hs1⟩
    have HZ1 := Aside0.mk Z1
    have HB1 := Aside0.mk hb1
    have HOK : Aside0 (OkP ok (.returned (.tuple #[]))) := ⟨.inl ⟨h1, rfl⟩⟩
    clear Z1 hb1 R1 hz1 hO1 hs1 h1 c0
    go_wp2_with (fail)
    refine (countParams_calls w1 s HSZ.out).mono ?_
    rintro e w2 ⟨⟨m, rfl⟩, hb2⟩
    have Z2 := HZ1.out.below hb2
    obtain ⟨φ2, K2, mp2, R2, hz2, hO2, hzr2, hs2⟩ := Z2.ex
    have c1 := cell_of hz2 1 rfl
    have z1 : w2.frozen? ⟨zr, 1, none⟩ = false := by unfold World.frozen?; rw [hz2]; simp
    have hZ3 : ZS base (w2.setCell ⟨zr, 1, none⟩ (.int .u16 m)) zr gr t' n' BM := by
      have on : Only (fun k => k = zr) w2 (w2.setCell ⟨zr, 1, none⟩ (.int .u16 m)) := (Only.refl (fun k => k = zr) w2).set (.inl rfl) _ _
      have hot : OT w2 (fun k => k = zr) := fun k hk e => by
        subst e
        exact ⟨_, _, _, hz2, by decide, by decide, by decide, by decide, by decide⟩
      refine ⟨φ2, K2, m, @RS.onlyT bT w2 _ t' φ2 K2 _ gr n' BM R2 on hot, ?_, hO2, hzr2, Nat.le_trans hs2 on.size⟩
      simp only [World.setCell, Array.getElem?_modify, if_pos]
      rw [hz2]
      rfl
    have HB2 : Aside0 (Below base w w2 ∧ KeepB w w2) := ⟨HB1.out.1.trans (hb2.mono (Nat.le_trans HBW.out (by have := HB1.out.1.size; exact this))), HB1.out.2.trans (KeepB.below hb2)⟩
    have HB3 : Aside0 (Below base w (w2.setCell ⟨zr, 1, none⟩ (.int .u16 m)) ∧ KeepB w (w2.setCell ⟨zr, 1, none⟩ (.int .u16 m))) := ⟨(HB2.out.1).setCell HZR.out _, HB2.out.2.trans (KeepB.only ((Only.refl (fun k => k = zr) w2).set (.inl rfl) _ _) fun k hk e => by
      subst e
      exact ⟨_, _, _, hz2, by decide⟩)⟩
    have HZ2 := Aside0.mk Z2
    have HZ3 := Aside0.mk hZ3
    clear hb2 Z2 R2 hz2 hO2 hzr2 hs2 hZ3
    go_wp2_with (fail)
    all_goals first
      | exact ⟨rfl, _, results_none rfl _ _ _, HOK.out, HZ3.out, HB3.out⟩
      | exact ⟨rfl, _, results_none rfl _ _ _, HOK.out, HZ2.out, HB2.out⟩
end Go.Proofs.Ytekjffooblcmnaa.Q
end
section
namespace Go.Proofs.Ytekjffooblcmnaa.Q
open Go.RowKit Go.Proofs.YtekjffooblcmnaaW.PrintWords Go.Proofs.YtekjffooblcmnaaW.PrintLast Go.Proofs.YtekjffooblcmnaaW.PrintMore
open Go.Proofs.YtekjffooblcmnaaKit (L size_L L_extract L_append)
open Go.Proofs.Ytekjffooblcmnaa.Ob
open Go.Proofs.Ytekjffooblcmnaa.Rh (ptr NR HT Own Srt ncell Got DR Blk bT bB)
open Go.Proofs.Ytekjffooblcmnaa.Rt (Nd Dat Tb Ch Str lcp ins put rep kidL addL steps names)
set_option linter.unusedVariables false
set_option linter.unusedSimpArgs false
set_option maxHeartbeats 8000000 in
theorem catch17 (g : Nat) (b : Bool) (u : TypeId) (pv : Value) (older : List PanicEntry) (w : World) (hp : w.cell? ⟨g, 0, none⟩ = some (.bool b)) (zp : w.frozen? ⟨g, 0, none⟩ = false) :
    CallsD Try.prog 17 #[.pointer (some ⟨g, 0, none⟩)] (.panicking ({ v := .iface u pv, recovered := false } :: older)) w fun e u' w' =>
      e = .returned (.tuple #[]) ∧ u' = .panicking ({ v := .iface u pv, recovered := true } :: older) ∧ w' = w.setCell ⟨g, 0, none⟩ (.bool false) := by
  refine callsD_of_wpS Try.func17 rfl fun c₀ cs hu => ?_
  apply wpS_seq
  apply wpS_region
  simp [wpOpsS, go_sem, recoverD, hu, Try.ntmps17, Exit.thenS]
  refine wpS_cond (t := true) (by simp [Act.eval, Array.replicate]) ?_
  simp only [if_true]
  apply wpS_region
  simp [wpOpsS, go_sem, hp, zp, bodyPostS, results, Try.results17]
theorem catch17_idle (g : Nat) (w : World) :
    CallsD Try.prog 17 #[.pointer (some ⟨g, 0, none⟩)] .returning w fun e u' w' => e = .returned (.tuple #[]) ∧ u' = .returning ∧ w' = w := by
  refine callsD_of_wpS Try.func17 rfl fun c₀ cs hu => ?_
  apply wpS_seq
  apply wpS_region
  simp [wpOpsS, go_sem, recoverD, hu, Try.ntmps17, Exit.thenS]
  refine wpS_cond (t := false) (by simp [Act.eval, Array.replicate]) ?_
  simp only [Bool.false_eq_true, if_false]
  refine wpS_of_wp (wp_skip ?_)
  cases c₀
  simp_all [bodyPostS, results, Try.results17]
theorem OT_one {w : World} {g : Nat} {C : Array Value} {f : Nat × Nat} (h : w.heap[g]? = some (.cells C 4 f)) : OT w (fun k => k = g) := fun k hk e => by
  subst e
  exact ⟨_, _, _, h, by decide, by decide, by decide, by decide, by decide⟩
set_option maxHeartbeats 16000000 in
set_option maxRecDepth 1000000 in
theorem add_any (base : Nat) (w : World) (zr gr : Nat) (hbw : base ≤ w.heap.size) (hzr : base ≤ zr) (hzl : zr < w.heap.size) (s : ByteArray) (place : Int) (t' : Tb) (n' BM : Nat) (ok : Bool)
    (hC : Calls Try.prog 18 #[.pointer (some ⟨zr, 0, none⟩), .string s, .int .i64 place] (w.alloc (.cells #[.bool false] 4)) (fun e w' => OkP ok e ∧ ZS base w' zr gr t' n' BM ∧ Below base (w.alloc (.cells #[.bool false] 4)) w' ∧ KeepB (w.alloc (.cells #[.bool false] 4)) w')) :
    Calls Try.prog 16 #[.pointer (some ⟨zr, 0, none⟩), .string s, .int .i64 place] w (fun e w' => e = .returned (.bool ok) ∧ ZS base w' zr gr t' n' BM ∧ Below base w w' ∧ KeepB w w') := by
  have hmf : ∀ (fn : Fn) (first cap : Array Value) (w : World), (Instr.makeFunc fn first cap).run Try.prog w = .ok (.func fn first cap) w := fun _ _ _ _ => rfl
  have b0 := below_alloc (Below.refl w.heap.size w) (.cells #[.bool false] 4)
  have HB0 := Aside0.mk b0
  have HNEW : Aside0 ((w.alloc (.cells #[.bool false] 4)).heap[w.heap.size]? = some (.cells #[.bool false] 4 (0, 0))) := ⟨heap_alloc_new w _⟩
  clear b0
  go_enter_defers Try.func16, Try.ntmps16
  go_wp2_with (fail)
  refine hC.mono ?_
  rintro e w1 ⟨hE, hZ, hb, hk⟩
  have hz0 := hk _ _ _ HNEW.out
  have c0 : w1.cell? ⟨w.heap.size, 0, none⟩ = some (.bool false) := cell_of hz0 0 rfl
  have f0 : w1.frozen? ⟨w.heap.size, 0, none⟩ = false := by unfold World.frozen?; rw [hz0]; simp
  have hb2 : Below base w w1 := (HB0.out.mono hbw).trans hb
  have hk2 : KeepB w w1 := (KeepB.below HB0.out).trans hk
  have upd : ∀ v : Bool, ZS base (w1.setCell ⟨w.heap.size, 0, none⟩ (.bool v)) zr gr t' n' BM ∧ Below base w (w1.setCell ⟨w.heap.size, 0, none⟩ (.bool v)) ∧ KeepB w (w1.setCell ⟨w.heap.size, 0, none⟩ (.bool v)) ∧ (w1.setCell ⟨w.heap.size, 0, none⟩ (.bool v)).cell? ⟨w.heap.size, 0, none⟩ = some (.bool v) := fun v => by
    refine ⟨hZ.onlyT ((Only.refl (fun k => k = w.heap.size) w1).set (.inl rfl) _ _) (OT_one hz0) (fun e => by omega), hb2.setCell hbw _, fun k C f e => ?_, ?_⟩
    · rw [Below.heap_setCell _ _ _ _ (by show k ≠ w.heap.size; have := (Array.getElem?_eq_some_iff.1 e).1; omega)]
      exact hk2 k C f e
    · unfold World.cell?
      simp only [World.setCell, Array.getElem?_modify, if_pos]
      rw [hz0]
      rfl
  have UPD := Aside0.mk upd
  rcases hE with ⟨rfl, rfl⟩ | ⟨rfl, u, pv, rfl⟩
  · clear upd hC hk hk2 hb hb2 hZ hz0
    go_wp2
    refine leaves_cons (f := 17) (args := #[.pointer (some ⟨w.heap.size, 0, none⟩)]) (by simp) (by simp [go_sem]) ?_
    refine (catch17_idle w.heap.size _).mono ?_
    rintro e u' w'' ⟨rfl, rfl, rfl⟩
    obtain ⟨h1, h2, h3, h4⟩ := UPD.out true
    generalize w1.setCell ⟨w.heap.size, 0, none⟩ (.bool true) = W at h1 h2 h3 h4 ⊢
    simp [Leaves, settle, results, Try.results16, go_sem, h4]
    exact ⟨h1, h2, h3⟩
  · refine leaves_cons (f := 17) (args := #[.pointer (some ⟨w.heap.size, 0, none⟩)]) (by simp) (by simp [go_sem]) ?_
    refine (catch17 w.heap.size false u pv [] w1 c0 f0).mono ?_
    rintro e u' w'' ⟨rfl, rfl, rfl⟩
    obtain ⟨h1, h2, h3, h4⟩ := UPD.out false
    generalize w1.setCell ⟨w.heap.size, 0, none⟩ (.bool false) = W at h1 h2 h3 h4 ⊢
    simp [Leaves, settle, results, Try.results16, go_sem, h4]
    exact ⟨h1, h2, h3⟩
theorem add_calls (base : Nat) (w : World) {zr gr n B BM : Nat} {t : Tb} (Z : ZS base w zr gr t n B) (hB : 2 ≤ B) (hBM : BM ≤ 1000000) (s : ByteArray) (hsz : s.size ≤ 1000000) (hB2 : B + 2 * s.size + 2 ≤ BM) (hok : okT (L s) = true) (u : Str) (hs : L s = 47 :: u) (place : Int) {t' : Tb} {n' : Nat} {ok : Bool} (ha : addL ⟨place, L s, names (u.length + 1) u⟩ (steps (u.length + 1) [47] u) t n = some (t', n', ok)) :
    Calls Try.prog 16 #[.pointer (some ⟨zr, 0, none⟩), .string s, .int .i64 place] w (fun e w' => e = .returned (.bool ok) ∧ ZS base w' zr gr t' n' BM ∧ Below base w w' ∧ KeepB w w') := by
  obtain ⟨φ, K, mp, hR, hz, hO, hzr, hbw⟩ := Z.ex
  exact add_any base w zr gr hbw hzr (Array.getElem?_eq_some_iff.1 hz).1 s place t' n' BM ok (zzadd_calls base _ (Z.below (below_alloc (Below.refl _ _) _)) hB hBM s hsz hB2 hok u hs place ha)
theorem add_none (base : Nat) (w : World) {zr gr n B : Nat} {t : Tb} (Z : ZS base w zr gr t n B) (s : ByteArray) (hsz : s.size ≤ 1000000) (hok : okT (L s) = false) (place : Int) :
    Calls Try.prog 16 #[.pointer (some ⟨zr, 0, none⟩), .string s, .int .i64 place] w (fun e w' => e = .returned (.bool false) ∧ ZS base w' zr gr t n B ∧ Below base w w' ∧ KeepB w w') := by
  obtain ⟨φ, K, mp, hR, hz, hO, hzr, hbw⟩ := Z.ex
  have Z1 := Z.below (below_alloc (Below.refl w.heap.size w) (.cells #[.bool false] 4))
  obtain ⟨φ1, K1, mp1, hR1, hz1, hO1, hzr1, hbw1⟩ := Z1.ex
  refine add_any base w zr gr hbw hzr (Array.getElem?_eq_some_iff.1 hz).1 s place t n B false ((zzadd_bad _ zr gr mp1 hz1 s hsz hok place).mono ?_)
  rintro e w1 ⟨he, hb⟩
  exact ⟨.inr ⟨rfl, he⟩, Z1.below hb, hb.mono hbw1, KeepB.below hb⟩
end Go.Proofs.Ytekjffooblcmnaa.Q
end
section
namespace Go.Proofs.Ytekjffooblcmnaa.Q
open Go.RowKit Go.Proofs.YtekjffooblcmnaaW.PrintWords Go.Proofs.YtekjffooblcmnaaW.PrintLast Go.Proofs.YtekjffooblcmnaaW.PrintMore
open Go.Proofs.YtekjffooblcmnaaKit (L size_L L_extract L_append)
open Go.Proofs.Ytekjffooblcmnaa.Ob
open Go.Proofs.Ytekjffooblcmnaa.Rh (ptr NR HT Own Srt ncell Got DR Blk bT bB)
open Go.Proofs.Ytekjffooblcmnaa.Rt (Nd Dat Tb Ch Str lcp ins put rep kidL addL steps names RInv Added add_ok)
set_option linter.unusedVariables false
set_option linter.unusedSimpArgs false
def shp : Str → Str
  | [] => []
  | c :: u => c :: Go.Proofs.Ytekjffooblcmnaa.Rt.shape (u.length + 1) u
def okA (S : List Str) (s : Str) : Bool := okT s && !decide (shp s ∈ S)
def addedB : List Str → List Str → List Bool
  | _, [] => []
  | S, s :: r => okA S s :: addedB (if okA S s then shp s :: S else S) r
theorem okT_head {s : Str} (h : okT s = true) : ∃ u, s = 47 :: u := by
  unfold okT at h
  have h1 := (Bool.and_eq_true_iff.1 h).1
  cases s with
  | nil => cases h1
  | cons c u =>
    have : c = 47 := by simpa using h1
    exact ⟨u, by rw [this]⟩
structure RT (base : Nat) (w : World) (zr gr B : Nat) (S : List Str) : Prop where
  ex : ∃ (t : Tb) (n : Nat) (R : Str → Dat → Prop), ZS base w zr gr t n B ∧ RInv (fun _ => True) t n R ∧ ∀ K, (∃ d, R K d) ↔ K ∈ S
theorem RT.onlyT {base : Nat} {w w' : World} {zr gr B : Nat} {T : List Str} (h : RT base w zr gr B T) {S : Nat → Prop} (ho : Only S w w') (hs : OT w S) (hz : ¬ S zr) : RT base w' zr gr B T := by
  obtain ⟨t, n, R, h1, h2⟩ := h.ex
  exact ⟨t, n, R, h1.onlyT ho hs hz, h2⟩
theorem RT.below {base : Nat} {w w' : World} {zr gr B : Nat} {T : List Str} (h : RT base w zr gr B T) (hb : Below w.heap.size w w') : RT base w' zr gr B T := by
  obtain ⟨t, n, R, h1, h2⟩ := h.ex
  exact ⟨t, n, R, h1.below hb, h2⟩
theorem add_step (base : Nat) (w : World) {zr gr B BM : Nat} {S : List Str} (Z : RT base w zr gr B S) (hB : 2 ≤ B) (hBM : BM ≤ 1000000) (s : ByteArray) (hsz : s.size ≤ 1000000) (hB2 : B + 2 * s.size + 2 ≤ BM) (place : Int) :
    Calls Try.prog 16 #[.pointer (some ⟨zr, 0, none⟩), .string s, .int .i64 place] w (fun e w' => e = .returned (.bool (okA S (L s))) ∧ RT base w' zr gr BM (if okA S (L s) then shp (L s) :: S else S) ∧ Below base w w' ∧ KeepB w w') := by
  obtain ⟨t, n, R, hZ, hI, hR⟩ := Z.ex
  cases hok : okT (L s) with
  | false =>
    have e : okA S (L s) = false := by unfold okA; rw [hok]; rfl
    rw [e]
    refine (add_none base w hZ s hsz hok place).mono ?_
    rintro e w' ⟨h1, h2, h3⟩
    exact ⟨h1, ⟨t, n, R, h2.mono (by omega), hI, hR⟩, h3⟩
  | true =>
    obtain ⟨u, hs⟩ := okT_head hok
    have hn : 1 ≤ n := by
      obtain ⟨φ, K, mp, h1, _⟩ := hZ.ex
      rcases Nat.eq_zero_or_pos n with e | e
      · exact absurd ((@RS.wf bT w gr t n B φ K h1).dom 0 (by omega)) (@RS.root bT w gr t n B φ K h1)
      · exact e
    have hsh : shp (L s) = 47 :: Go.Proofs.Ytekjffooblcmnaa.Rt.shape (u.length + 1) u := by rw [hs]; rfl
    obtain ⟨t', n', ok, ha, hc⟩ := add_ok hI hn ⟨place, L s, names (u.length + 1) u⟩ u (fun _ _ => trivial)
    refine (add_calls base w hZ hB hBM s hsz hB2 hok u hs place ha).mono ?_
    rintro e w' ⟨h1, h2, h3⟩
    rcases hc with ⟨rfl, k1, k2⟩ | ⟨rfl, k1, k2⟩
    · have e : okA S (L s) = false := by
        unfold okA
        rw [hok, hsh, decide_eq_true ((hR _).1 k1)]
        rfl
      rw [e]
      exact ⟨h1, ⟨t', n', R, h2, k2, hR⟩, h3⟩
    · have e : okA S (L s) = true := by
        unfold okA
        rw [hok, hsh, decide_eq_false (fun q => k1 ((hR _).2 q))]
        rfl
      rw [e, if_pos rfl]
      refine ⟨h1, ⟨t', n', _, h2, k2, fun K => ?_⟩, h3⟩
      rw [hsh]
      constructor
      · rintro ⟨d, hd | ⟨rfl, _⟩⟩
        · exact List.mem_cons_of_mem _ ((hR K).1 ⟨d, hd⟩)
        · exact List.mem_cons_self
      · intro hK
        rcases List.mem_cons.1 hK with rfl | hK
        · exact ⟨_, .inr ⟨rfl, rfl⟩⟩
        · obtain ⟨d, hd⟩ := (hR K).2 hK
          exact ⟨d, .inl hd⟩
theorem infoBool : (Try.prog.info? 4).map (fun i => (i.zero, i.size, i.bytes)) = some (some (.bool false), 1, 1) := by kernel_rfl
section
variable {ops : Array Oper} {rest : List Oper} {o : Oper} {a : Act} {Q : Exit → Act → World → Prop} {W : World}
theorem app_BV (base : Nat) (hbase : base ≤ W.heap.size) (hgd : o.guard = none) (s x : Operand) (ho : o.op = .call { callee := .builtin .append, args := #[s, x], argTypes := #[24, 24] })
    (v : Value) (l : List Bool) (b : Bool) (A : Option Addr) (c : Nat) (hs : a.eval s = v) (hx : a.eval x = .slice A 1 c) (hv : W.ownsRow base 4 1 v l.length (encs Value.bool l)) (hm : Kd.C Kd.bool W A 1 [b]) (hl : l.length ≤ 1000000)
    (h : ∀ v1 W1, W1.ownsRow base 4 1 v1 (l ++ [b]).length (encs Value.bool (l ++ [b])) → Only (fun j => v.ownBlock = some j) W W1 → (v1.ownBlock = v.ownBlock ∨ ∃ b, v1.ownBlock = some b ∧ W.heap.size ≤ b) → wpList Try.prog ops Q rest (a.put o.dst v1) W1) : wpList Try.prog ops Q (o :: rest) a W := by
  refine Kd.R_append_rows Kd.bool (w0 := W) base hgd s x 24 4 (.bool false) 1 ho Try.underlying24 infoBool rfl (by decide) (by omega) v l [b] A 1 c (fun _ => True) (fun _ => False) hs hx (Kd.R_of_own hv (fun _ _ => trivial)) hm (fun _ _ h => h) (fun _ h => h.elim) (fun _ _ => trivial) (Below.refl _ _) hbase (by omega) ?_
  intro v1 w1 hr _ hg hat
  exact h v1 w1 (Kd.own_of_R hr) (Only.of_grown hg) hat
end
theorem one_B {w : World} {g : Nat} {b : Bool} (h : w.cell? ⟨g, 0, none⟩ = some (.bool b)) : Kd.C Kd.bool w (some ⟨g, 0, none⟩) 1 [b] := by
  refine Kd.C_of_reads (enc := Value.bool) (d := b) (h1 := fun _ => rfl) ⟨rfl, by omega, fun _ => ⟨_, rfl, fun j hj => ?_⟩⟩
  obtain rfl : j = 0 := by omega
  exact h
theorem bools_some {w : World} {base : Nat} {kv : Value} {l : List Bool} {b : Bool} (h : w.ownsRow base 4 1 kv (l ++ [b]).length (encs Value.bool (l ++ [b]))) : ∃ g c, kv = .slice (some ⟨g, 0, none⟩) (l ++ [b]).length c := by
  rcases id h.2 with ⟨e, hn⟩ | ⟨g, cap, cur, e, _⟩
  · simp at hn
  · exact ⟨g, cap, e⟩
end Go.Proofs.Ytekjffooblcmnaa.Q
end
section
namespace Go.Proofs.Ytekjffooblcmnaa.Q
open Go.RowKit Go.Proofs.YtekjffooblcmnaaW.PrintWords Go.Proofs.YtekjffooblcmnaaW.PrintLast Go.Proofs.YtekjffooblcmnaaW.PrintMore
open Go.Proofs.YtekjffooblcmnaaKit (L size_L L_extract L_append)
open Go.Proofs.Ytekjffooblcmnaa.Ob
open Go.Proofs.Ytekjffooblcmnaa.Rh (ptr NR HT Own Srt ncell Got DR Blk bT bB)
open Go.Proofs.Ytekjffooblcmnaa.Rt (Nd Dat Tb Ch Str lcp ins put rep kidL addL steps names RInv Added add_ok)
set_option linter.unusedVariables false
set_option linter.unusedSimpArgs false
def t0 : Tb := fun x => if x = 0 then some ⟨0, [], none, [], none, none, none⟩ else none
def newN : Array Value := #[.int .u8 0, .int .u8 0, .string ⟨#[]⟩, .pointer none, .slice none 0 0, .string ⟨#[]⟩, .slice none 0 0, .slice none 0 0, .pointer none, .pointer none, .bool false]
theorem new_three (w : World) (a b c : Obj) : (((w.alloc a).alloc b).alloc c).heap[w.heap.size]? = some a ∧ (((w.alloc a).alloc b).alloc c).heap[w.heap.size + 1]? = some b ∧ (((w.alloc a).alloc b).alloc c).heap[w.heap.size + 1 + 1]? = some c := by
  have s1 : (w.alloc a).heap.size = w.heap.size + 1 := by simp
  have s2 : ((w.alloc a).alloc b).heap.size = w.heap.size + 1 + 1 := by simp
  refine ⟨?_, ?_, ?_⟩
  · rw [Below.heap_alloc _ _ _ (by rw [s2]; omega), Below.heap_alloc _ _ _ (by rw [s1]; omega)]
    exact heap_alloc_new w a
  · rw [Below.heap_alloc _ _ _ (by rw [s2]; omega)]
    have := heap_alloc_new (w.alloc a) b
    rwa [s1] at this
  · have := heap_alloc_new ((w.alloc a).alloc b) c
    rwa [s2] at this
set_option maxHeartbeats 16000000 in
theorem zzNew_calls (w : World) : Calls Try.prog 15 #[] w (fun e w' => ∃ zr gr, e = .returned (.pointer (some ⟨zr, 0, none⟩)) ∧ RT w.heap.size w' zr gr 2 [] ∧ Below w.heap.size w w') := by
  go_enter Try.func15, Try.ntmps15
  go_wp2
  go_ret
  have hb0 := below_alloc (Below.refl w.heap.size w) (.cells newN 52)
  have hb1 := below_alloc hb0 (.cells #[.string ⟨#[]⟩, .pointer (some ⟨w.heap.size, 0, none⟩)] 54)
  have hb2 := below_alloc hb1 (.cells #[.pointer (some ⟨w.heap.size + 1, 0, none⟩), .int .u16 0] 57)
  refine ⟨w.heap.size + 1 + 1, w.heap.size + 1, rfl, ?_, hb2⟩
  have h0 := new_three w (.cells newN 52) (.cells #[.string ⟨#[]⟩, .pointer (some ⟨w.heap.size, 0, none⟩)] 54) (.cells #[.pointer (some ⟨w.heap.size + 1, 0, none⟩), .int .u16 0] 57)
  change RT w.heap.size (((w.alloc (.cells newN 52)).alloc (.cells #[.string ⟨#[]⟩, .pointer (some ⟨w.heap.size, 0, none⟩)] 54)).alloc (.cells #[.pointer (some ⟨w.heap.size + 1, 0, none⟩), .int .u16 0] 57)) _ _ _ _
  have hsz := hb2.size
  generalize (((w.alloc (.cells newN 52)).alloc (.cells #[.string ⟨#[]⟩, .pointer (some ⟨w.heap.size, 0, none⟩)] 54)).alloc (.cells #[.pointer (some ⟨w.heap.size + 1, 0, none⟩), .int .u16 0] 57)) = W at h0 hsz ⊢
  obtain ⟨k0, k1, k2⟩ := h0
  have tz : ∀ {b : Nat} {nd : Nd}, t0 b = some nd → b = 0 ∧ nd = ⟨0, [], none, [], none, none, none⟩ := fun {b nd} h => by
    unfold t0 at h
    by_cases e : b = 0
    · rw [if_pos e] at h; cases h; exact ⟨e, rfl⟩
    · rw [if_neg e] at h; cases h
  have tn : ∀ {b : Nat}, t0 b ≠ none → b = 0 := fun {b} h => by
    cases hq : t0 b with
    | none => exact absurd hq h
    | some nd => exact (tz hq).1
  have ht : @HT bT W t0 (fun _ => w.heap.size) (fun _ => .slice none 0 0) := @HT.mk bT _ _ _ _ (fun a b ha hb _ => by rw [tn ha, tn hb]) (fun b nd hb => by
      obtain ⟨rfl, rfl⟩ := tz hb
      exact ⟨0, ByteArray.empty, ByteArray.empty, .slice none 0 0, .slice none 0 0, false, k0, rfl, fun c r e => (by cases e), ⟨rfl, _, _, _, rfl⟩, World.ownsRow_nil _ _ _ _⟩) (fun a b k ha hb hne => absurd ((tn ha).trans (tn hb).symm) hne)
  have nc : ∀ {b : Nat} {nd : Nd} {x : Nat}, t0 b = some nd → ¬ Ch nd x := fun {b nd x} hb hx => by
    obtain ⟨_, rfl⟩ := tz hb
    rcases hx with hx | hx | hx <;> cases hx
  have wf : Wf t0 1 := ⟨fun x hx => if_neg (by omega), fun b m x hb hx => by
      rcases hx with hx | hx
      · obtain ⟨_, rfl⟩ := tz hb
        cases hx
      · exact absurd hx (nc hb), fun b m x hb hx => absurd hx (nc hb), fun b m x hb hx => absurd (.inl hx) (nc hb)⟩
  have sb : SB t0 2 := fun b m hb => by
    obtain ⟨_, rfl⟩ := tz hb
    exact ⟨Nat.zero_le _, Nat.zero_le _⟩
  refine ⟨t0, 1, fun _ _ => False, ⟨fun _ => w.heap.size, fun _ => .slice none 0 0, 0, @RS.mk bT _ _ _ _ _ _ _ ht wf sb (by simp [t0]) ⟨_, _, k1, rfl⟩, k2, ?_, by omega, by omega⟩, ⟨.inl ⟨rfl, fun _ _ h => h, fun x hx => if_neg hx⟩, fun x hx => if_neg (by omega)⟩, fun K => ⟨fun ⟨_, h⟩ => h.elim, fun h => by cases h⟩⟩
  rintro k ⟨b, hb, e | e⟩
  · exact Nat.le_of_eq e
  · cases e
end Go.Proofs.Ytekjffooblcmnaa.Q
end
section
namespace Go.Proofs.Ytekjffooblcmnaa.Q
open Go.RowKit Go.Proofs.YtekjffooblcmnaaW.PrintWords Go.Proofs.YtekjffooblcmnaaW.PrintLast Go.Proofs.YtekjffooblcmnaaW.PrintMore
open Go.Proofs.YtekjffooblcmnaaKit (L size_L L_extract L_append)
open Go.Proofs.Ytekjffooblcmnaa.Ob
open Go.Proofs.Ytekjffooblcmnaa.Rh (ptr NR HT Own Srt ncell Got DR Blk bT bB)
open Go.Proofs.Ytekjffooblcmnaa.Rt (Nd Dat Tb Ch Str)
set_option linter.unusedVariables false
set_option linter.unusedSimpArgs false
theorem own_ge {W : World} {base n : Nat} {e : TypeId} {v : Value} {xs : List Value} (h : W.ownsRow base e 1 v n xs) {k : Nat} (hk : v.ownBlock = some k) : base ≤ k := by
  rcases h.2 with ⟨e, _⟩ | ⟨g, cap, cur, e, hb, _⟩
  · rw [e] at hk; cases hk
  · rw [e] at hk; cases hk; exact hb
theorem RT.zr {base : Nat} {w : World} {zr gr B : Nat} {S : List Str} (h : RT base w zr gr B S) : ∃ C f, w.heap[zr]? = some (.cells C 57 f) := by
  obtain ⟨t, n, R, h1, _⟩ := h.ex
  obtain ⟨φ, K, mp, _, h2, _⟩ := h1.ex
  exact ⟨_, _, h2⟩
theorem RT.size {base : Nat} {w : World} {zr gr B : Nat} {S : List Str} (h : RT base w zr gr B S) : base ≤ w.heap.size := by
  obtain ⟨t, n, R, h1, _⟩ := h.ex
  obtain ⟨φ, K, mp, _, _, _, _, h2⟩ := h1.ex
  exact h2
theorem added_at {S : List Str} {l : List Str} {i : Nat} {s : Str} (h : l[i]? = some s) : addedB S (l.drop i) = okA S s :: addedB (if okA S s then shp s :: S else S) (l.drop (i + 1)) := by
  obtain ⟨h1, e1⟩ := List.getElem?_eq_some_iff.1 h
  rw [List.drop_eq_getElem_cons h1, e1]
  rfl
set_option maxHeartbeats 16000000 in
theorem routes_calls (A0 : Option Addr) (c0 : Nat) (l0 : List ByteArray) (w : World) (hr0 : Kd.C Kd.string w A0 l0.length l0) (hl : l0.length ≤ 20) (hsz : ∀ s ∈ l0, s.size ≤ 2000) :
    Calls Try.prog 11 #[.slice A0 l0.length c0] w (fun e w' => ∃ zr gr A n c S, e = .returned (.tuple #[.pointer (some ⟨zr, 0, none⟩), .slice A n c]) ∧ w'.ownsRow w.heap.size 4 1 (.slice A n c) (addedB [] (l0.map L)).length (encs Value.bool (addedB [] (l0.map L))) ∧ RT w.heap.size w' zr gr 1000000 S ∧ Below w.heap.size w w') := by
  have HR0 := Aside0.mk hr0
  have HL := Aside0.mk hl
  have HSZ := Aside0.mk hsz
  obtain ⟨n, hn⟩ : ∃ n, n = l0.length := ⟨_, rfl⟩
  rw [← hn]
  rw [← hn] at HR0
  have HN := Aside0.mk hn
  obtain ⟨res, hres⟩ : ∃ r, r = addedB [] (l0.map L) := ⟨_, rfl⟩
  rw [← hres]
  have HRES := Aside0.mk hres
  clear hr0 hl hsz hn hres
  go_enter Try.func11, Try.ntmps11
  go_wp2_with (fail)
  refine (zzNew_calls w).mono ?_
  rintro e w1 ⟨zr, gr, rfl, hZ, hb1⟩
  have HZ1 := Aside0.mk hZ
  have HB1 := Aside0.mk hb1
  clear hZ hb1
  go_wp2_with (fail)
  go_loopw [5, 11] (fun v5 v11 wr => ∃ (i : Nat) (A5 : Option Addr) (n5 c5 : Nat) (bs : List Bool) (S : List Str), v5 = .slice A5 n5 c5 ∧ v11 = .int .i64 (i : Int) ∧ Aside0 (i ≤ n) ∧ Aside0 (RT w.heap.size wr zr gr (2 + 4002 * i) S) ∧ Aside0 (Below w.heap.size w wr) ∧ Aside0 (wr.ownsRow w.heap.size 4 1 (.slice A5 n5 c5) bs.length (encs Value.bool bs)) ∧ Aside0 (bs ++ addedB S ((l0.map L).drop i) = res) ∧ Aside0 (bs.length = i)) (fun _ v11 _ => n - natV v11)
  case atStart => exact ⟨0, none, 0, 0, [], [], rfl, rfl, ⟨Nat.zero_le _⟩, HZ1, HB1, ⟨World.ownsRow_nil _ _ _ _⟩, ⟨HRES.out.symm⟩, ⟨rfl⟩⟩
  case round =>
    obtain ⟨i, A5, n5, c5, bs, S, rfl, rfl, HI, HZ, HB, HO, HE, HBL⟩ := hrel
    by_cases hi : i < n
    rotate_left
    · have b2 : decide ((i : Int) < (n : Int)) = false := decide_eq_false (by omega)
      have hfin : bs = res := by
        have h1 := HE.out
        rw [List.drop_eq_nil_of_le (by rw [List.length_map]; have := HN.out; omega)] at h1
        exact (List.append_nil bs).symm.trans h1
      have HO2 : Aside0 (wr.ownsRow w.heap.size 4 1 (.slice A5 n5 c5) res.length (encs Value.bool res)) := ⟨by rw [← hfin]; exact HO.out⟩
      have HZ2 : Aside0 (RT w.heap.size wr zr gr 1000000 S) := ⟨by
        obtain ⟨t, m, R, h1, h2⟩ := HZ.out.ex
        exact ⟨t, m, R, h1.mono (by have := HL.out; have := HN.out; have := HI.out; omega), h2⟩⟩
      clear hfin
      go_wp2_with (fail)
      exact ⟨rfl, _, results_tmp2 rfl _ _ _, zr, gr, _, _, _, S, rfl, HO2.out, HZ2.out, HB.out⟩
    have b2 : decide ((i : Int) < (n : Int)) = true := decide_eq_true (by omega)
    have p1 : (0 ≤ (i : Int)) = True := eq_true (by omega)
    have q1 : ((i : Int) < (n : Int)) = True := eq_true (by omega)
    have wx := wrap_succ hi (by have := HL.out; have := HN.out; omega)
    have hi2 : i < l0.length := by rw [← HN.out]; exact hi
    obtain ⟨ad, rfl, hx⟩ := Kd.at_string HR0.out (i : Int) (by omega) (by omega)
    have hrd : rdOf ByteArray.empty l0 (i : Int) = l0[i] := by
      unfold rdOf
      simp [hi2]
    rw [hrd, Int.toNat_natCast] at hx
    have hx2 := pw_cell_below HB.out hx
    obtain ⟨s, hs⟩ : ∃ s, s = l0[i] := ⟨_, rfl⟩
    rw [← hs] at hx hx2
    have hss : s.size ≤ 2000 := HSZ.out s (by rw [hs]; exact List.getElem_mem hi2)
    have hst := add_step w.heap.size wr HZ.out (by omega) (BM := 2 + 4002 * (i + 1)) (by have := HL.out; have := HN.out; omega) s (by omega) (by omega) (i : Int)
    have HST := Aside0.mk hst
    have hat := added_at (S := S) (l := l0.map L) (i := i) (s := L s) (by rw [List.getElem?_map, List.getElem?_eq_getElem hi2, ← hs]; rfl)
    have HAT := Aside0.mk hat
    clear hst hss hs hrd hat hi2 hx
    go_wp2_with (fail)
    refine HST.out.mono ?_
    rintro e w2 ⟨rfl, hZ2, hb2, hk2⟩
    have own2 : w2.ownsRow w.heap.size 4 1 (.slice A5 n5 c5) bs.length (encs Value.bool bs) := own_move HO.out fun k hk => by
      obtain ⟨C, hC⟩ := own_typed HO.out k hk
      rw [hC]
      exact hk2 k C _ hC
    obtain ⟨b, hb⟩ : ∃ b, b = okA S (L s) := ⟨_, rfl⟩
    have HZ2 := Aside0.mk hZ2
    have HO2 := Aside0.mk own2
    have HB2 : Aside0 (Below w.heap.size w w2) := ⟨HB.out.trans hb2⟩
    rw [← hb] at HZ2 HAT ⊢
    clear hZ2 hb2 hk2 own2 hb
    have wxs := hx2
    clear hx2 wxs
    go_wp2_with ((with_reducible refine gate_builtin (b := .append) (xs := #[.tmp 16, .tmp 21]) rfl ?_); at_builtin; refine app_BV w.heap.size (Nat.le_trans (RT.size HZ2.out) (below_alloc (Below.refl _ _) _).size) rfl (.tmp 16) (.tmp 21) rfl (.slice A5 n5 c5) bs b _ _ rfl rfl (own_move HO2.out fun k hk => (below_alloc (Below.refl _ _) _).block k (by obtain ⟨C, hC⟩ := own_typed HO2.out k hk; exact (Array.getElem?_eq_some_iff.1 hC).1)) (one_B (by unfold World.cell?; rw [heap_alloc_new]; rfl)) (by have := HBL.out; have := HL.out; have := HN.out; omega) ?_; intro v1 W3 hr hon hat; obtain ⟨g3, c3, rfl⟩ := bools_some hr; rw [show (bs ++ [b]).length = bs.length + 1 by simp] at hr hat; have HR := Aside0.mk hr; have HON := Aside0.mk (((Only.of_below (S := fun j => (Value.slice A5 n5 c5).ownBlock = some j) (below_alloc (Below.refl _ _) _)).trans hon (fun i _ hs => hs))); clear hr hon hat)
    go_roundw
    case measure => simp only [natV]; try rw [wx]
                    omega
    case rel =>
      have hot : OT w2 (fun j => (Value.slice A5 n5 c5).ownBlock = some j) := fun k hk e => by
        obtain ⟨C, hC⟩ := own_typed HO2.out k e
        exact ⟨_, _, _, hC, by decide, by decide, by decide, by decide, by decide⟩
      refine ⟨i + 1, _, _, _, bs ++ [b], _, rfl, by first | rfl | rw [← wx], ⟨by omega⟩, ⟨HZ2.out.onlyT HON.out hot (fun e => ?_)⟩, ⟨HB2.out.trans (HON.out.below (fun k hk => own_ge HO2.out hk) (RT.size HZ2.out))⟩, ⟨by have := HR.out; simpa using this⟩, ⟨?_⟩, ⟨by have := HBL.out; simp; omega⟩⟩
      · obtain ⟨C, f, hz⟩ := HZ2.out.zr
        obtain ⟨C', hC'⟩ := own_typed HO2.out _ e
        rw [hz] at hC'
        cases hC'
      · rw [List.append_assoc, List.singleton_append, ← HAT.out]
        exact HE.out
set_option maxHeartbeats 16000000 in
theorem added_calls (A0 : Option Addr) (c0 : Nat) (l0 : List ByteArray) (w : World) (hr0 : Kd.C Kd.string w A0 l0.length l0) (hl : l0.length ≤ 20) (hsz : ∀ s ∈ l0, s.size ≤ 2000) :
    Calls Try.prog 6 #[.slice A0 l0.length c0] w (fun e w' => ∃ v0_ : Value, e = .returned v0_ ∧ Kd.R Kd.bool 4 w' w.heap.size (fun _ => True) v0_ (addedB [] (l0.map L)) ∧ Below w.heap.size w w') := by
  have HC := Aside0.mk (routes_calls A0 c0 l0 w hr0 hl hsz)
  clear hr0 hl hsz
  generalize l0.length = n at HC ⊢
  generalize addedB [] (l0.map L) = res at HC ⊢
  go_enter Try.func6, Try.ntmps6
  go_wp2_with (fail)
  refine HC.out.mono ?_
  rintro e w1 ⟨zr, gr, A, m, c, S, rfl, ho, hz, hb⟩
  have HO : Aside0 (Kd.R Kd.bool 4 w1 w.heap.size (fun _ => True) (.slice A m c) res) := ⟨Kd.R_of_own ho (fun _ _ => trivial)⟩
  have HB := Aside0.mk hb
  clear ho hz hb
  go_wp2_with (fail)
  go_ret
  exact ⟨_, rfl, HO.out, HB.out⟩
end Go.Proofs.Ytekjffooblcmnaa.Q
end
section
namespace Go.Proofs.Ytekjffooblcmnaa.Q
open Go.RowKit Go.Proofs.YtekjffooblcmnaaW.PrintWords Go.Proofs.YtekjffooblcmnaaW.PrintLast Go.Proofs.YtekjffooblcmnaaW.PrintMore
attribute [local go_sem] max2_int min2_int max_two min_two max_three min_three max_four min_four
set_option linter.unusedVariables false
set_option linter.unusedSimpArgs false
def impl_Added.f (l0 : List ByteArray) : Option (List Bool) := if l0.length ≤ 20 ∧ (∀ s ∈ l0, s.size ≤ 2000) then some (addedB [] (l0.map Go.Proofs.YtekjffooblcmnaaKit.L)) else none
theorem impl_Added.calls (A0 : Option Addr) (c0 : Nat) (l0 : List ByteArray) (r : List Bool) (w : World) (hr0 : Kd.C Kd.string w A0 l0.length l0) (hc0 : l0.length ≤ c0) (h : impl_Added.f l0 = some r) :
    Calls Try.prog 6 #[.slice A0 l0.length c0] w fun e w' => ∃ v0_ : Value, e = .returned (v0_) ∧ Kd.R Kd.bool 4 w' w.heap.size (fun _ => True) v0_ r ∧ Below w.heap.size w w' := by
  unfold impl_Added.f at h
  split at h
  · next hq =>
    obtain rfl := Option.some.inj h
    exact added_calls A0 c0 l0 w hr0 hq.1 hq.2
  · cases h
end Go.Proofs.Ytekjffooblcmnaa.Q
end
section
namespace Go.Proofs.Ytekjffooblcmnaa.Q
open Go.RowKit Go.Proofs.YtekjffooblcmnaaW.PrintWords Go.Proofs.YtekjffooblcmnaaW.PrintLast Go.Proofs.YtekjffooblcmnaaW.PrintMore
attribute [local go_sem] max2_int min2_int max_two min_two max_three min_three max_four min_four
set_option linter.unusedVariables false
set_option linter.unusedSimpArgs false
def laws_short.l0 : Nat → List ByteArray → List ByteArray → Int → Int → Option (Bool)
  | 0, _, _, _, _ => none
  | k + 1, x0, x5, x6, x7 => if x7 < x6 then (if 0 ≤ x7 then (if x7 < (x5.length : Int) then (if ((rdOf ByteArray.empty x5 x7).size : Int) > 2000 then (some false) else (laws_short.l0 k x0 x5 x6 (wrap64 (x7 + 1)))) else (none)) else (none)) else (some (decide ((x0.length : Int) ≤ 60)))
def laws_short.f (k : Nat) (l0 : List ByteArray) : Option (Bool) := laws_short.l0 k l0 l0 (l0.length : Int) 0
set_option maxHeartbeats 8000000 in
set_option maxRecDepth 100000 in
theorem laws_short.calls (k : Nat) (A0 : Option Addr) (c0 : Nat) (l0 : List ByteArray) (r : Bool) (w : World) (hr0 : Kd.C Kd.string w A0 l0.length l0) (hc0 : l0.length ≤ c0) (h : laws_short.f k l0 = some r) :
    Calls Try.prog 7 #[.slice A0 l0.length c0] w fun e w' => e = .returned (.bool r) ∧ Drawn0 w w' := by
  have HR0 := Aside0.mk hr0
  have HC0 := Aside0.mk hc0
  clear hr0 hc0
  have H : (laws_short.l0 k l0 l0 (l0.length : Int) 0) = some r := h
  clear h
  have H' := Aside0.mk H
  clear H
  go_enter Try.func7, Try.ntmps7
  go_wp2
  go_loopg [7] k (fun kq v7 w' => ∃ (x7_1 : Int), v7 = .int .i64 x7_1 ∧ Aside0 (laws_short.l0 kq l0 l0 (l0.length : Int) x7_1 = some r) ∧ Aside0 (kq ≤ k) ∧ Drawn0 w w')
  case atStart => exact ⟨(0), (by first | rfl | (simp; done) | (simp [*]; done) | (simp [Go.Proofs.YtekjffooblcmnaaX.isEmpty_ne]; done)), H', ⟨Nat.le_refl _⟩, by repeat (first | exact Drawn0.refl _ | apply Drawn0.step)⟩
  case round =>
    clear H'
    obtain ⟨x7_1, rfl, HA, HK1, ⟨m1, rfl⟩⟩ := hrel
    cases gk with
    | zero => exact absurd HA.out (by simp [laws_short.l0])
    | succ k1 =>
      have H := HA.out
      clear HA
      simp only [laws_short.l0] at H
      by_cases c2 : x7_1 < (l0.length : Int)
      · rw [if_pos c2] at H
        have c2b0 : decide (x7_1 < (l0.length : Int)) = true := decide_eq_true c2
        clear c2
        by_cases c3 : 0 ≤ x7_1
        · rw [if_pos c3] at H
          have c3b0 : decide (0 ≤ x7_1) = true := decide_eq_true c3
          clear c3
          by_cases c4 : x7_1 < (l0.length : Int)
          · rw [if_pos c4] at H
            have c4b0 : decide (x7_1 < (l0.length : Int)) = true := decide_eq_true c4
            clear c4
            by_cases c5 : ((rdOf ByteArray.empty l0 x7_1).size : Int) > 2000
            · rw [if_pos c5] at H
              have c5b0 : decide (2000 < ((rdOf ByteArray.empty l0 x7_1).size : Int)) = true := decide_eq_true c5
              have c5b1 : decide (2000 < (rdOf ByteArray.empty l0 x7_1).size) = true := decide_eq_true (by omega)
              clear c5
              obtain rfl := Option.some.inj H
              have p104 : 0 ≤ (x7_1 : Int) := of_decide_eq_true (by first | (with_reducible assumption) | assumption)
              have q104 : x7_1 < (l0.length : Int) := of_decide_eq_true (by first | (with_reducible assumption) | assumption)
              obtain ⟨ad104, e104, hx104_0⟩ := Kd.at_string HR0.out x7_1 p104 q104
              cases e104
              replace p104 := eq_true p104
              replace q104 := eq_true q104
              go_wp2
              go_ret
              exact ⟨by first | rfl | (simp; done) | (simp [*]; done) | (simp [Go.Proofs.YtekjffooblcmnaaX.isEmpty_ne]; done), by repeat (first | exact Drawn0.refl _ | apply Drawn0.step)⟩
            · rw [if_neg c5] at H
              have c5b0 : decide (2000 < ((rdOf ByteArray.empty l0 x7_1).size : Int)) = false := decide_eq_false c5
              have c5b1 : decide (2000 < (rdOf ByteArray.empty l0 x7_1).size) = false := decide_eq_false (by omega)
              clear c5
              have H' := Aside0.mk H
              clear H
              have p104 : 0 ≤ (x7_1 : Int) := of_decide_eq_true (by first | (with_reducible assumption) | assumption)
              have q104 : x7_1 < (l0.length : Int) := of_decide_eq_true (by first | (with_reducible assumption) | assumption)
              obtain ⟨ad104, e104, hx104_0⟩ := Kd.at_string HR0.out x7_1 p104 q104
              cases e104
              replace p104 := eq_true p104
              replace q104 := eq_true q104
              go_wp2
              go_roundg k1
              case measure => have := HK1.out; omega
              case rel => exact ⟨(wrap64 (x7_1 + 1)), (by first | rfl | (simp; done) | (simp [*]; done) | (simp [Go.Proofs.YtekjffooblcmnaaX.isEmpty_ne]; done)), H', ⟨by have := HK1.out; omega⟩, by repeat (first | exact Drawn0.refl _ | apply Drawn0.step)⟩
          · rw [if_neg c4] at H
            exact absurd H (by simp)
        · rw [if_neg c3] at H
          exact absurd H (by simp)
      · rw [if_neg c2] at H
        have c2b0 : decide (x7_1 < (l0.length : Int)) = false := decide_eq_false c2
        clear c2
        obtain rfl := Option.some.inj H
        go_wp2
        go_ret
        exact ⟨by first | rfl | (simp; done) | (simp [*]; done) | (simp [Go.Proofs.YtekjffooblcmnaaX.isEmpty_ne]; done), by repeat (first | exact Drawn0.refl _ | apply Drawn0.step)⟩
end Go.Proofs.Ytekjffooblcmnaa.Q
end
section
namespace Go.Proofs.Ytekjffooblcmnaa.Q
open Go.RowKit Go.Proofs.YtekjffooblcmnaaW.PrintWords Go.Proofs.YtekjffooblcmnaaW.PrintLast Go.Proofs.YtekjffooblcmnaaW.PrintMore
attribute [local go_sem] max2_int min2_int max_two min_two max_three min_three max_four min_four
set_option linter.unusedVariables false
set_option linter.unusedSimpArgs false
def laws_holds.l0 : Nat → ByteArray → Int → Int → Int → Option (Bool)
  | 0, _, _, _, _ => none
  | k + 1, x0, x1, x7, x8 => if x8 < x7 then (if 0 ≤ x8 then (if x8 < (x0.size : Int) then (if (bt x0 x8) = x1 then (some true) else (laws_holds.l0 k x0 x1 x7 (wrap64 (x8 + 1)))) else (none)) else (none)) else (some false)
def laws_holds.f (k : Nat) (a0 : ByteArray) (a1 : Int) : Option (Bool) := laws_holds.l0 k a0 a1 (a0.size : Int) 0
set_option maxHeartbeats 8000000 in
set_option maxRecDepth 100000 in
theorem laws_holds.calls (k : Nat) (a0 : ByteArray) (a1 : Int) (r : Bool) (w : World) (h : laws_holds.f k a0 a1 = some r) :
    Calls Try.prog 12 #[.string a0, .int .u8 a1] w fun e w' => e = .returned (.bool r) ∧ Drawn0 w w' := by
  have H : (laws_holds.l0 k a0 a1 (a0.size : Int) 0) = some r := h
  clear h
  have H' := Aside0.mk H
  clear H
  go_enter Try.func12, Try.ntmps12
  go_wp2
  go_loopg [8] k (fun kq v8 w' => ∃ (x8_1 : Int), v8 = .int .i64 x8_1 ∧ Aside0 (laws_holds.l0 kq a0 a1 (a0.size : Int) x8_1 = some r) ∧ Aside0 (kq ≤ k) ∧ Drawn0 w w')
  case atStart => exact ⟨(0), (by first | rfl | (simp; done) | (simp [*]; done) | (simp [Go.Proofs.YtekjffooblcmnaaX.isEmpty_ne]; done)), H', ⟨Nat.le_refl _⟩, by repeat (first | exact Drawn0.refl _ | apply Drawn0.step)⟩
  case round =>
    clear H'
    try clear c1
    try clear p2
    obtain ⟨x8_1, rfl, HA, HK1, ⟨m1, rfl⟩⟩ := hrel
    cases gk with
    | zero => exact absurd HA.out (by simp [laws_holds.l0])
    | succ k1 =>
      have H := HA.out
      clear HA
      simp only [laws_holds.l0] at H
      by_cases c3 : x8_1 < (a0.size : Int)
      · rw [if_pos c3] at H
        have c3b0 : decide (x8_1 < (a0.size : Int)) = true := decide_eq_true c3
        clear c3
        by_cases c4 : 0 ≤ x8_1
        · rw [if_pos c4] at H
          have c4b0 : decide (0 ≤ x8_1) = true := decide_eq_true c4
          clear c4
          by_cases c5 : x8_1 < (a0.size : Int)
          · rw [if_pos c5] at H
            have c5b0 : decide (x8_1 < (a0.size : Int)) = true := decide_eq_true c5
            clear c5
            by_cases c7 : (bt a0 x8_1) = a1
            · rw [if_pos c7] at H
              have c7b0 : ((bt a0 x8_1) == a1) = true := beq_iff_eq.mpr c7
              have c7b1 : ((bt a0 x8_1) != a1) = false := bne_eq_false_iff_eq.mpr c7
              clear c7
              obtain rfl := Option.some.inj H
              have p6 : 0 ≤ (x8_1 : Int) := of_decide_eq_true (by first | (with_reducible assumption) | assumption)
              have q6 : x8_1 < (a0.size : Int) := of_decide_eq_true (by first | (with_reducible assumption) | assumption)
              have hx6 := bt_at a0 x8_1
              replace p6 := eq_true p6
              replace q6 := eq_true q6
              go_wp2
              go_ret
              exact ⟨by first | rfl | (simp; done) | (simp [*]; done) | (simp [Go.Proofs.YtekjffooblcmnaaX.isEmpty_ne]; done), by repeat (first | exact Drawn0.refl _ | apply Drawn0.step)⟩
            · rw [if_neg c7] at H
              have c7b0 : ((bt a0 x8_1) == a1) = false := beq_eq_false_iff_ne.mpr c7
              have c7b1 : ((bt a0 x8_1) != a1) = true := bne_iff_ne.mpr c7
              have H' := Aside0.mk H
              clear H
              have p6 : 0 ≤ (x8_1 : Int) := of_decide_eq_true (by first | (with_reducible assumption) | assumption)
              have q6 : x8_1 < (a0.size : Int) := of_decide_eq_true (by first | (with_reducible assumption) | assumption)
              have hx6 := bt_at a0 x8_1
              replace p6 := eq_true p6
              replace q6 := eq_true q6
              go_wp2
              go_roundg k1
              case measure => have := HK1.out; omega
              case rel => exact ⟨(wrap64 (x8_1 + 1)), (by first | rfl | (simp; done) | (simp [*]; done) | (simp [Go.Proofs.YtekjffooblcmnaaX.isEmpty_ne]; done)), H', ⟨by have := HK1.out; omega⟩, by repeat (first | exact Drawn0.refl _ | apply Drawn0.step)⟩
          · rw [if_neg c5] at H
            exact absurd H (by simp)
        · rw [if_neg c4] at H
          exact absurd H (by simp)
      · rw [if_neg c3] at H
        have c3b0 : decide (x8_1 < (a0.size : Int)) = false := decide_eq_false c3
        clear c3
        obtain rfl := Option.some.inj H
        go_wp2
        go_ret
        exact ⟨by first | rfl | (simp; done) | (simp [*]; done) | (simp [Go.Proofs.YtekjffooblcmnaaX.isEmpty_ne]; done), by repeat (first | exact Drawn0.refl _ | apply Drawn0.step)⟩
end Go.Proofs.Ytekjffooblcmnaa.Q
end
section
namespace Go.Proofs.Ytekjffooblcmnaa.Q
open Go.RowKit Go.Proofs.YtekjffooblcmnaaW.PrintWords Go.Proofs.YtekjffooblcmnaaW.PrintLast Go.Proofs.YtekjffooblcmnaaW.PrintMore
attribute [local go_sem] max2_int min2_int max_two min_two max_three min_three max_four min_four
set_option linter.unusedVariables false
set_option linter.unusedSimpArgs false
def laws_plain.f (k : Nat) (a0 : ByteArray) : Option (Bool) := (laws_holds.f k a0 58).bind fun t105 => (if t105 = true then (some false) else ((laws_holds.f k a0 42).bind fun t106 => (some (!t106))))
set_option maxHeartbeats 8000000 in
set_option maxRecDepth 100000 in
theorem laws_plain.calls (k : Nat) (a0 : ByteArray) (r : Bool) (w : World) (h : laws_plain.f k a0 = some r) :
    Calls Try.prog 8 #[.string a0] w fun e w' => e = .returned (.bool r) ∧ Drawn0 w w' := by
  have H : ((laws_holds.f k a0 58).bind fun t105 => (if t105 = true then (some false) else ((laws_holds.f k a0 42).bind fun t106 => (some (!t106))))) = some r := h
  clear h
  replace H := Option.bind_eq_some_iff.mp H
  obtain ⟨t105, A20, H⟩ := H
  replace H : (if t105 = true then (some false) else ((laws_holds.f k a0 42).bind fun t106 => (some (!t106)))) = some r := H
  have A2 := Aside0.mk A20
  clear A20
  by_cases c3 : t105 = true
  · subst c3
    have H1 : (some false) = some r := by rw [if_pos rfl] at H; exact H
    clear H
    have H := H1
    clear H1
    obtain rfl := Option.some.inj H
    go_enter Try.func8, Try.ntmps8
    go_wp2_with (first | ((with_reducible refine gate_callee (f := 12) rfl ?_); refine goesL_ (some 4) rfl rfl Try.func12 (by kernel_rfl) rfl #[.string a0, .int .u8 58] rfl (by (try simp only [List.map_toArray, List.map_cons, List.map_nil]); first | done | rfl | (simp only [List.length_drop, List.length_take]; rfl)) ?_; (with_reducible refine (laws_holds.calls k a0 58 true _ A2.out).mono ?_); rintro e w' ⟨rfl, ⟨nd, rfl⟩⟩; refine ⟨_, rfl, ?_⟩))
    go_ret
    exact ⟨by first | rfl | (simp; done) | (simp [*]; done) | (simp [Go.Proofs.YtekjffooblcmnaaX.isEmpty_ne]; done), by repeat (first | exact Drawn0.refl _ | apply Drawn0.step)⟩
  · replace c3 := Bool.eq_false_iff.mpr c3
    subst c3
    have H1 : ((laws_holds.f k a0 42).bind fun t106 => (some (!t106))) = some r := by rw [if_neg (show ¬ (false = true) by decide)] at H; exact H
    clear H
    have H := H1
    clear H1
    replace H := Option.bind_eq_some_iff.mp H
    obtain ⟨t106, A40, H⟩ := H
    replace H : (some (!t106)) = some r := H
    have A4 := Aside0.mk A40
    clear A40
    obtain rfl := Option.some.inj H
    go_enter Try.func8, Try.ntmps8
    go_wp2_with (first | ((with_reducible refine gate_callee (f := 12) rfl ?_); refine goesL_ (some 4) rfl rfl Try.func12 (by kernel_rfl) rfl #[.string a0, .int .u8 58] rfl (by (try simp only [List.map_toArray, List.map_cons, List.map_nil]); first | done | rfl | (simp only [List.length_drop, List.length_take]; rfl)) ?_; (with_reducible refine (laws_holds.calls k a0 58 false _ A2.out).mono ?_); rintro e w' ⟨rfl, ⟨nd, rfl⟩⟩; refine ⟨_, rfl, ?_⟩) | (go_at_call 12; (with_reducible refine (laws_holds.calls k a0 42 t106 _ A4.out).mono ?_); rintro e w' ⟨rfl, ⟨nd, rfl⟩⟩))
    go_ret
    exact ⟨by first | rfl | (simp; done) | (simp [*]; done) | (simp [Go.Proofs.YtekjffooblcmnaaX.isEmpty_ne]; done), by repeat (first | exact Drawn0.refl _ | apply Drawn0.step)⟩
end Go.Proofs.Ytekjffooblcmnaa.Q
end
