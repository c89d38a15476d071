/- FnAddedSays: the law's function, called with any arguments, returns true and leaves its arguments as they were: every input, no condition. Part 6 of 8. -/
import Derived.Test.YtekjffooblcmnaaZFnAddedSays4
import Derived.Defers
import Derived.Recover
import Derived.Laws.Pointers
import Derived.Test.YtekjffooblcmnaaZFnAddedSays0
set_option linter.unusedVariables false
set_option linter.unusedSimpArgs false
set_option linter.unusedSectionVars false
section
namespace Go.Proofs.Ytekjffooblcmnaa.Q
open Go.RowKit Go.Proofs.YtekjffooblcmnaaW.PrintWords Go.Proofs.YtekjffooblcmnaaW.PrintLast Go.Proofs.YtekjffooblcmnaaW.PrintMore
open Go.Proofs.YtekjffooblcmnaaKit (L size_L L_extract L_append)
open Go.Proofs.Ytekjffooblcmnaa.Ob
open Go.Proofs.Ytekjffooblcmnaa.Rh (ptr NR HT Own Srt ncell Got DR Blk bT bB)
open Go.Proofs.Ytekjffooblcmnaa.Rt (Nd Dat Tb Ch Str lcp ins put rep kidL addL steps names)
set_option linter.unusedVariables false
set_option linter.unusedSimpArgs false
set_option maxHeartbeats 16000000 in
set_option maxRecDepth 1000000 in
theorem addRoute_bad (w : World) (gr : Nat) (s : ByteArray) (hsz : s.size ≤ 1000000) (hok : okT (L s) = false) (A : Option Addr) (n c : Nat) :
    Calls Try.prog 19 #[.pointer (some ⟨gr, 0, none⟩), .string s, .slice A n c] w (fun e w' => (∃ u pv, e = .panicked [{ v := .iface u pv, recovered := false }]) ∧ Below w.heap.size w w') := by
  have HSZ := Aside0.mk hsz
  have HOK := Aside0.mk hok
  clear hsz hok
  go_enter Try.func19, Try.ntmps19
  go_wp2_with (fail)
  refine (cpv_calls w s HSZ.out).mono ?_
  rintro e w1 ⟨hb1, ⟨h, _⟩ | ⟨_, u, pv, rfl⟩⟩
  · rw [HOK.out] at h; cases h
  have HB := Aside0.mk hb1
  clear hb1
  go_wp2_with (fail)
  exact ⟨rfl, ⟨u, pv, rfl⟩, HB.out⟩
theorem cell_of {w : World} {g : Nat} {C : Array Value} {e : TypeId} {f : Nat × Nat} (h : w.heap[g]? = some (.cells C e f)) (i : Nat) {v : Value} (hi : C[i]? = some v) : w.cell? ⟨g, i, none⟩ = some v := by
  unfold World.cell?
  rw [h]
  simpa using hi
set_option maxHeartbeats 16000000 in
theorem zzadd_bad (w : World) (zr gr : Nat) (mp : Int) (hz : w.heap[zr]? = some (.cells #[.pointer (some ⟨gr, 0, none⟩), .int .u16 mp] 57 (0, 0))) (s : ByteArray) (hsz : s.size ≤ 1000000) (hok : okT (L s) = false) (place : Int) :
    Calls Try.prog 18 #[.pointer (some ⟨zr, 0, none⟩), .string s, .int .i64 place] w (fun e w' => (∃ u pv, e = .panicked [{ v := .iface u pv, recovered := false }]) ∧ Below w.heap.size w w') := by
  have c0 := cell_of hz 0 rfl
  have HSZ := Aside0.mk hsz
  have HOK := Aside0.mk hok
  clear hz hsz hok
  go_enter Try.func18, Try.ntmps18
  go_wp2_with (fail)
  refine (addRoute_bad _ gr s HSZ.out HOK.out _ _ _).mono ?_
  rintro e w1 ⟨⟨u, pv, rfl⟩, hb⟩
  have HB := Aside0.mk (below_step (below_alloc (Below.refl _ _) _) hb)
  clear hb
  go_wp2_with (fail)
  exact ⟨rfl, ⟨u, pv, rfl⟩, HB.out⟩
def KeepB (w w' : World) : Prop := ∀ (k : Nat) (C : Array Value) (f : Nat × Nat), w.heap[k]? = some (Obj.cells C 4 f) → w'.heap[k]? = some (Obj.cells C 4 f)
theorem KeepB.trans {a b c : World} (h : KeepB a b) (k : KeepB b c) : KeepB a c := fun i C f e => k i C f (h i C f e)
theorem KeepB.below {a b : World} (h : Below a.heap.size a b) : KeepB a b := fun i C f e => (h.block i (Array.getElem?_eq_some_iff.1 e).1).trans e
theorem KeepB.only {a b : World} {S : Nat → Prop} (h : Only S a b) (hs : ∀ k, k < a.heap.size → S k → ∃ C e f, a.heap[k]? = some (.cells C e f) ∧ e ≠ 4) : KeepB a b := fun i C f e => (h.block i (Array.getElem?_eq_some_iff.1 e).1 fun hS => by
  obtain ⟨C', e', f', h1, h2⟩ := hs i (Array.getElem?_eq_some_iff.1 e).1 hS
  rw [e] at h1
  cases h1
  exact h2 rfl).trans e
def OkP (ok : Bool) (e : Ending) : Prop := (ok = true ∧ e = .returned (.tuple #[])) ∨ (ok = false ∧ ∃ u pv, e = .panicked [{ v := .iface u pv, recovered := false }])
set_option maxHeartbeats 16000000 in
theorem zzadd_calls (base : Nat) (w : World) {zr gr n B BM : Nat} {t : Tb} (Z : ZS base w zr gr t n B) (hB : 2 ≤ B) (hBM : BM ≤ 1000000) (s : ByteArray) (hsz : s.size ≤ 1000000) (hB2 : B + 2 * s.size + 2 ≤ BM) (hok : okT (L s) = true) (u : Str) (hs : L s = 47 :: u) (place : Int) {t' : Tb} {n' : Nat} {ok : Bool} (ha : addL ⟨place, L s, names (u.length + 1) u⟩ (steps (u.length + 1) [47] u) t n = some (t', n', ok)) :
    Calls Try.prog 18 #[.pointer (some ⟨zr, 0, none⟩), .string s, .int .i64 place] w (fun e w' => OkP ok e ∧ ZS base w' zr gr t' n' BM ∧ Below base w w' ∧ KeepB w w') := by
  obtain ⟨φ, K, mp, hR, hz, hO, hzr, hbw⟩ := Z.ex
  have c0 := cell_of hz 0 rfl
  have b0 := below_alloc (Below.refl w.heap.size w) (.cells #[.int .i64 place] 3)
  have hC := addRoute_calls (w.alloc (.cells #[.int .i64 place] 3)) (@RS.below bT w _ gr n B t φ K hR b0) hB hBM s hsz hB2 hok u hs w.heap.size 1 ⟨place, L s, names (u.length + 1) u⟩ rfl rfl ⟨rfl, .inr ⟨w.heap.size, 1, #[.int .i64 place], rfl, Nat.zero_le _, heap_alloc_new w _, Nat.le_refl _, by decide, rfl, rfl⟩⟩ ha
  have key : ∀ e w1, AddPost (w.alloc (.cells #[.int .i64 place] 3)) gr t φ K t' n' BM ok e w1 → OkP ok e ∧ (Below base w w1 ∧ KeepB w w1) ∧ ∃ φ' K', @RS bT w1 gr t' n' BM φ' K' ∧ w1.heap[zr]? = some (.cells #[.pointer (some ⟨gr, 0, none⟩), .int .u16 mp] 57 (0, 0)) ∧ (∀ k, Own t' φ' K' k → base ≤ k) ∧ base ≤ w1.heap.size := fun e w1 hP => by
    obtain ⟨⟨φ', K', B', hB', R', G'⟩, hE⟩ := hP
    have hzlt := (Array.getElem?_eq_some_iff.1 hz).1
    have on := @Go.Proofs.Ytekjffooblcmnaa.Rh.Got.on bT _ _ _ _ _ _ _ _ G'
    have hs1 : w.heap.size ≤ (w.alloc (.cells #[.int .i64 place] 3)).heap.size := b0.size
    have on2 : Only (Own t φ K) w w1 := (Only.of_below (S := Own t φ K) b0).trans on fun i _ h => h
    refine ⟨hE, ⟨on2.below hO hbw, KeepB.only on2 fun k hk hS => by
      obtain ⟨C, e', f', k1, k2⟩ := @Go.Proofs.Ytekjffooblcmnaa.Rh.Own.srt bT w t φ K (@RS.ht bT w gr t n B φ K hR) k hS
      exact ⟨C, e', f', k1, by rcases k2 with k2 | k2 <;> (rw [k2]; decide)⟩⟩, φ', K', @RS.more bT w1 gr n' B' t' φ' K' R' _ _ (Nat.le_refl _) hB', (on2.block zr hzlt fun e => ?_).trans hz, fun k hk => ?_, Nat.le_trans hbw on2.size⟩
    · obtain ⟨C, e', f', k1, k2⟩ := @Go.Proofs.Ytekjffooblcmnaa.Rh.Own.srt bT w t φ K (@RS.ht bT w gr t n B φ K hR) zr e
      rw [hz] at k1
      cases k1
      rcases k2 with k2 | k2 <;> cases k2
    · rcases @Go.Proofs.Ytekjffooblcmnaa.Rh.Got.new bT _ _ _ _ _ _ _ _ G' k hk with q | q
      · exact hO k q
      · exact Nat.le_trans hbw (Nat.le_trans hs1 q)
  have HC := Aside0.mk hC
  have KEY := Aside0.mk key
  have HSZ := Aside0.mk hsz
  have HZR := Aside0.mk hzr
  have HBW := Aside0.mk hbw
  clear hC key hz hO hR b0 Z ha hB hBM hB2 hok hs hsz hzr hbw
  go_enter Try.func18, Try.ntmps18
  go_wp2_with (fail)
  refine HC.out.mono ?_
  intro e w1 hP
  obtain ⟨hE, hb1, φ', K', R1, hz1, hO1, hs1⟩ := KEY.out e w1 hP
  clear hP
  rcases hE with ⟨h1, rfl⟩ | ⟨h1, u1, pv, rfl⟩
  rotate_left
  · have HF : Aside0 (OkP ok (.panicked [{ v := .iface u1 pv, recovered := false }]) ∧ ZS base w1 zr gr t' n' BM ∧ Below base w w1 ∧ KeepB w w1) := ⟨.inr ⟨h1, _, _, rfl⟩, ⟨φ', K', mp, R1, hz1, hO1, HZR.out, hs1⟩, hb1⟩
    clear hb1 R1 hz1 hO1 hs1 h1 c0
    go_wp2_with (fail)
    exact ⟨rfl, HF.out⟩
  · have Z1 : ZS base w1 zr gr t' n' BM := ⟨φ', K', mp, R1, hz1, hO1, HZR.out, hs1⟩
    have HZ1 := Aside0.mk Z1
    have HB1 := Aside0.mk hb1
    have HOK : Aside0 (OkP ok (.returned (.tuple #[]))) := ⟨.inl ⟨h1, rfl⟩⟩
    clear Z1 hb1 R1 hz1 hO1 hs1 h1 c0
    go_wp2_with (fail)
    refine (countParams_calls w1 s HSZ.out).mono ?_
    rintro e w2 ⟨⟨m, rfl⟩, hb2⟩
    have Z2 := HZ1.out.below hb2
    obtain ⟨φ2, K2, mp2, R2, hz2, hO2, hzr2, hs2⟩ := Z2.ex
    have c1 := cell_of hz2 1 rfl
    have z1 : w2.frozen? ⟨zr, 1, none⟩ = false := by unfold World.frozen?; rw [hz2]; simp
    have hZ3 : ZS base (w2.setCell ⟨zr, 1, none⟩ (.int .u16 m)) zr gr t' n' BM := by
      have on : Only (fun k => k = zr) w2 (w2.setCell ⟨zr, 1, none⟩ (.int .u16 m)) := (Only.refl (fun k => k = zr) w2).set (.inl rfl) _ _
      have hot : OT w2 (fun k => k = zr) := fun k hk e => by
        subst e
        exact ⟨_, _, _, hz2, by decide, by decide, by decide, by decide, by decide⟩
      refine ⟨φ2, K2, m, @RS.onlyT bT w2 _ t' φ2 K2 _ gr n' BM R2 on hot, ?_, hO2, hzr2, Nat.le_trans hs2 on.size⟩
      simp only [World.setCell, Array.getElem?_modify, if_pos]
      rw [hz2]
      rfl
    have HB2 : Aside0 (Below base w w2 ∧ KeepB w w2) := ⟨HB1.out.1.trans (hb2.mono (Nat.le_trans HBW.out (by have := HB1.out.1.size; exact this))), HB1.out.2.trans (KeepB.below hb2)⟩
    have HB3 : Aside0 (Below base w (w2.setCell ⟨zr, 1, none⟩ (.int .u16 m)) ∧ KeepB w (w2.setCell ⟨zr, 1, none⟩ (.int .u16 m))) := ⟨(HB2.out.1).setCell HZR.out _, HB2.out.2.trans (KeepB.only ((Only.refl (fun k => k = zr) w2).set (.inl rfl) _ _) fun k hk e => by
      subst e
      exact ⟨_, _, _, hz2, by decide⟩)⟩
    have HZ2 := Aside0.mk Z2
    have HZ3 := Aside0.mk hZ3
    clear hb2 Z2 R2 hz2 hO2 hzr2 hs2 hZ3
    go_wp2_with (fail)
    all_goals first
      | exact ⟨rfl, _, results_none rfl _ _ _, HOK.out, HZ3.out, HB3.out⟩
      | exact ⟨rfl, _, results_none rfl _ _ _, HOK.out, HZ2.out, HB2.out⟩
end Go.Proofs.Ytekjffooblcmnaa.Q
end
section
namespace Go.Proofs.Ytekjffooblcmnaa.Q
open Go.RowKit Go.Proofs.YtekjffooblcmnaaW.PrintWords Go.Proofs.YtekjffooblcmnaaW.PrintLast Go.Proofs.YtekjffooblcmnaaW.PrintMore
open Go.Proofs.YtekjffooblcmnaaKit (L size_L L_extract L_append)
open Go.Proofs.Ytekjffooblcmnaa.Ob
open Go.Proofs.Ytekjffooblcmnaa.Rh (ptr NR HT Own Srt ncell Got DR Blk bT bB)
open Go.Proofs.Ytekjffooblcmnaa.Rt (Nd Dat Tb Ch Str lcp ins put rep kidL addL steps names)
set_option linter.unusedVariables false
set_option linter.unusedSimpArgs false
set_option maxHeartbeats 8000000 in
theorem catch17 (g : Nat) (b : Bool) (u : TypeId) (pv : Value) (older : List PanicEntry) (w : World) (hp : w.cell? ⟨g, 0, none⟩ = some (.bool b)) (zp : w.frozen? ⟨g, 0, none⟩ = false) :
    CallsD Try.prog 17 #[.pointer (some ⟨g, 0, none⟩)] (.panicking ({ v := .iface u pv, recovered := false } :: older)) w fun e u' w' =>
      e = .returned (.tuple #[]) ∧ u' = .panicking ({ v := .iface u pv, recovered := true } :: older) ∧ w' = w.setCell ⟨g, 0, none⟩ (.bool false) := by
  refine callsD_of_wpS Try.func17 rfl fun c₀ cs hu => ?_
  apply wpS_seq
  apply wpS_region
  simp [wpOpsS, go_sem, recoverD, hu, Try.ntmps17, Exit.thenS]
  refine wpS_cond (t := true) (by simp [Act.eval, Array.replicate]) ?_
  simp only [if_true]
  apply wpS_region
  simp [wpOpsS, go_sem, hp, zp, bodyPostS, results, Try.results17]
theorem catch17_idle (g : Nat) (w : World) :
    CallsD Try.prog 17 #[.pointer (some ⟨g, 0, none⟩)] .returning w fun e u' w' => e = .returned (.tuple #[]) ∧ u' = .returning ∧ w' = w := by
  refine callsD_of_wpS Try.func17 rfl fun c₀ cs hu => ?_
  apply wpS_seq
  apply wpS_region
  simp [wpOpsS, go_sem, recoverD, hu, Try.ntmps17, Exit.thenS]
  refine wpS_cond (t := false) (by simp [Act.eval, Array.replicate]) ?_
  simp only [Bool.false_eq_true, if_false]
  refine wpS_of_wp (wp_skip ?_)
  cases c₀
  simp_all [bodyPostS, results, Try.results17]
theorem OT_one {w : World} {g : Nat} {C : Array Value} {f : Nat × Nat} (h : w.heap[g]? = some (.cells C 4 f)) : OT w (fun k => k = g) := fun k hk e => by
  subst e
  exact ⟨_, _, _, h, by decide, by decide, by decide, by decide, by decide⟩
set_option maxHeartbeats 16000000 in
set_option maxRecDepth 1000000 in
theorem add_any (base : Nat) (w : World) (zr gr : Nat) (hbw : base ≤ w.heap.size) (hzr : base ≤ zr) (hzl : zr < w.heap.size) (s : ByteArray) (place : Int) (t' : Tb) (n' BM : Nat) (ok : Bool)
    (hC : Calls Try.prog 18 #[.pointer (some ⟨zr, 0, none⟩), .string s, .int .i64 place] (w.alloc (.cells #[.bool false] 4)) (fun e w' => OkP ok e ∧ ZS base w' zr gr t' n' BM ∧ Below base (w.alloc (.cells #[.bool false] 4)) w' ∧ KeepB (w.alloc (.cells #[.bool false] 4)) w')) :
    Calls Try.prog 16 #[.pointer (some ⟨zr, 0, none⟩), .string s, .int .i64 place] w (fun e w' => e = .returned (.bool ok) ∧ ZS base w' zr gr t' n' BM ∧ Below base w w' ∧ KeepB w w') := by
  have hmf : ∀ (fn : Fn) (first cap : Array Value) (w : World), (Instr.makeFunc fn first cap).run Try.prog w = .ok (.func fn first cap) w := fun _ _ _ _ => rfl
  have b0 := below_alloc (Below.refl w.heap.size w) (.cells #[.bool false] 4)
  have HB0 := Aside0.mk b0
  have HNEW : Aside0 ((w.alloc (.cells #[.bool false] 4)).heap[w.heap.size]? = some (.cells #[.bool false] 4 (0, 0))) := ⟨heap_alloc_new w _⟩
  clear b0
  go_enter_defers Try.func16, Try.ntmps16
  go_wp2_with (fail)
  refine hC.mono ?_
  rintro e w1 ⟨hE, hZ, hb, hk⟩
  have hz0 := hk _ _ _ HNEW.out
  have c0 : w1.cell? ⟨w.heap.size, 0, none⟩ = some (.bool false) := cell_of hz0 0 rfl
  have f0 : w1.frozen? ⟨w.heap.size, 0, none⟩ = false := by unfold World.frozen?; rw [hz0]; simp
  have hb2 : Below base w w1 := (HB0.out.mono hbw).trans hb
  have hk2 : KeepB w w1 := (KeepB.below HB0.out).trans hk
  have upd : ∀ v : Bool, ZS base (w1.setCell ⟨w.heap.size, 0, none⟩ (.bool v)) zr gr t' n' BM ∧ Below base w (w1.setCell ⟨w.heap.size, 0, none⟩ (.bool v)) ∧ KeepB w (w1.setCell ⟨w.heap.size, 0, none⟩ (.bool v)) ∧ (w1.setCell ⟨w.heap.size, 0, none⟩ (.bool v)).cell? ⟨w.heap.size, 0, none⟩ = some (.bool v) := fun v => by
    refine ⟨hZ.onlyT ((Only.refl (fun k => k = w.heap.size) w1).set (.inl rfl) _ _) (OT_one hz0) (fun e => by omega), hb2.setCell hbw _, fun k C f e => ?_, ?_⟩
    · rw [Below.heap_setCell _ _ _ _ (by show k ≠ w.heap.size; have := (Array.getElem?_eq_some_iff.1 e).1; omega)]
      exact hk2 k C f e
    · unfold World.cell?
      simp only [World.setCell, Array.getElem?_modify, if_pos]
      rw [hz0]
      rfl
  have UPD := Aside0.mk upd
  rcases hE with ⟨rfl, rfl⟩ | ⟨rfl, u, pv, rfl⟩
  · clear upd hC hk hk2 hb hb2 hZ hz0
    go_wp2
    refine leaves_cons (f := 17) (args := #[.pointer (some ⟨w.heap.size, 0, none⟩)]) (by simp) (by simp [go_sem]) ?_
    refine (catch17_idle w.heap.size _).mono ?_
    rintro e u' w'' ⟨rfl, rfl, rfl⟩
    obtain ⟨h1, h2, h3, h4⟩ := UPD.out true
    generalize w1.setCell ⟨w.heap.size, 0, none⟩ (.bool true) = W at h1 h2 h3 h4 ⊢
    simp [Leaves, settle, results, Try.results16, go_sem, h4]
    exact ⟨h1, h2, h3⟩
  · refine leaves_cons (f := 17) (args := #[.pointer (some ⟨w.heap.size, 0, none⟩)]) (by simp) (by simp [go_sem]) ?_
    refine (catch17 w.heap.size false u pv [] w1 c0 f0).mono ?_
    rintro e u' w'' ⟨rfl, rfl, rfl⟩
    obtain ⟨h1, h2, h3, h4⟩ := UPD.out false
    generalize w1.setCell ⟨w.heap.size, 0, none⟩ (.bool false) = W at h1 h2 h3 h4 ⊢
    simp [Leaves, settle, results, Try.results16, go_sem, h4]
    exact ⟨h1, h2, h3⟩
theorem add_calls (base : Nat) (w : World) {zr gr n B BM : Nat} {t : Tb} (Z : ZS base w zr gr t n B) (hB : 2 ≤ B) (hBM : BM ≤ 1000000) (s : ByteArray) (hsz : s.size ≤ 1000000) (hB2 : B + 2 * s.size + 2 ≤ BM) (hok : okT (L s) = true) (u : Str) (hs : L s = 47 :: u) (place : Int) {t' : Tb} {n' : Nat} {ok : Bool} (ha : addL ⟨place, L s, names (u.length + 1) u⟩ (steps (u.length + 1) [47] u) t n = some (t', n', ok)) :
    Calls Try.prog 16 #[.pointer (some ⟨zr, 0, none⟩), .string s, .int .i64 place] w (fun e w' => e = .returned (.bool ok) ∧ ZS base w' zr gr t' n' BM ∧ Below base w w' ∧ KeepB w w') := by
  obtain ⟨φ, K, mp, hR, hz, hO, hzr, hbw⟩ := Z.ex
  exact add_any base w zr gr hbw hzr (Array.getElem?_eq_some_iff.1 hz).1 s place t' n' BM ok (zzadd_calls base _ (Z.below (below_alloc (Below.refl _ _) _)) hB hBM s hsz hB2 hok u hs place ha)
theorem add_none (base : Nat) (w : World) {zr gr n B : Nat} {t : Tb} (Z : ZS base w zr gr t n B) (s : ByteArray) (hsz : s.size ≤ 1000000) (hok : okT (L s) = false) (place : Int) :
    Calls Try.prog 16 #[.pointer (some ⟨zr, 0, none⟩), .string s, .int .i64 place] w (fun e w' => e = .returned (.bool false) ∧ ZS base w' zr gr t n B ∧ Below base w w' ∧ KeepB w w') := by
  obtain ⟨φ, K, mp, hR, hz, hO, hzr, hbw⟩ := Z.ex
  have Z1 := Z.below (below_alloc (Below.refl w.heap.size w) (.cells #[.bool false] 4))
  obtain ⟨φ1, K1, mp1, hR1, hz1, hO1, hzr1, hbw1⟩ := Z1.ex
  refine add_any base w zr gr hbw hzr (Array.getElem?_eq_some_iff.1 hz).1 s place t n B false ((zzadd_bad _ zr gr mp1 hz1 s hsz hok place).mono ?_)
  rintro e w1 ⟨he, hb⟩
  exact ⟨.inr ⟨rfl, he⟩, Z1.below hb, hb.mono hbw1, KeepB.below hb⟩
end Go.Proofs.Ytekjffooblcmnaa.Q
end
section
namespace Go.Proofs.Ytekjffooblcmnaa.Q
open Go.RowKit Go.Proofs.YtekjffooblcmnaaW.PrintWords Go.Proofs.YtekjffooblcmnaaW.PrintLast Go.Proofs.YtekjffooblcmnaaW.PrintMore
open Go.Proofs.YtekjffooblcmnaaKit (L size_L L_extract L_append)
open Go.Proofs.Ytekjffooblcmnaa.Ob
open Go.Proofs.Ytekjffooblcmnaa.Rh (ptr NR HT Own Srt ncell Got DR Blk bT bB)
open Go.Proofs.Ytekjffooblcmnaa.Rt (Nd Dat Tb Ch Str lcp ins put rep kidL addL steps names RInv Added add_ok)
set_option linter.unusedVariables false
set_option linter.unusedSimpArgs false
def shp : Str → Str
  | [] => []
  | c :: u => c :: Go.Proofs.Ytekjffooblcmnaa.Rt.shape (u.length + 1) u
def okA (S : List Str) (s : Str) : Bool := okT s && !decide (shp s ∈ S)
def addedB : List Str → List Str → List Bool
  | _, [] => []
  | S, s :: r => okA S s :: addedB (if okA S s then shp s :: S else S) r
theorem okT_head {s : Str} (h : okT s = true) : ∃ u, s = 47 :: u := by
  unfold okT at h
  have h1 := (Bool.and_eq_true_iff.1 h).1
  cases s with
  | nil => cases h1
  | cons c u =>
    have : c = 47 := by simpa using h1
    exact ⟨u, by rw [this]⟩
structure RT (base : Nat) (w : World) (zr gr B : Nat) (S : List Str) : Prop where
  ex : ∃ (t : Tb) (n : Nat) (R : Str → Dat → Prop), ZS base w zr gr t n B ∧ RInv (fun _ => True) t n R ∧ ∀ K, (∃ d, R K d) ↔ K ∈ S
theorem RT.onlyT {base : Nat} {w w' : World} {zr gr B : Nat} {T : List Str} (h : RT base w zr gr B T) {S : Nat → Prop} (ho : Only S w w') (hs : OT w S) (hz : ¬ S zr) : RT base w' zr gr B T := by
  obtain ⟨t, n, R, h1, h2⟩ := h.ex
  exact ⟨t, n, R, h1.onlyT ho hs hz, h2⟩
theorem RT.below {base : Nat} {w w' : World} {zr gr B : Nat} {T : List Str} (h : RT base w zr gr B T) (hb : Below w.heap.size w w') : RT base w' zr gr B T := by
  obtain ⟨t, n, R, h1, h2⟩ := h.ex
  exact ⟨t, n, R, h1.below hb, h2⟩
theorem add_step (base : Nat) (w : World) {zr gr B BM : Nat} {S : List Str} (Z : RT base w zr gr B S) (hB : 2 ≤ B) (hBM : BM ≤ 1000000) (s : ByteArray) (hsz : s.size ≤ 1000000) (hB2 : B + 2 * s.size + 2 ≤ BM) (place : Int) :
    Calls Try.prog 16 #[.pointer (some ⟨zr, 0, none⟩), .string s, .int .i64 place] w (fun e w' => e = .returned (.bool (okA S (L s))) ∧ RT base w' zr gr BM (if okA S (L s) then shp (L s) :: S else S) ∧ Below base w w' ∧ KeepB w w') := by
  obtain ⟨t, n, R, hZ, hI, hR⟩ := Z.ex
  cases hok : okT (L s) with
  | false =>
    have e : okA S (L s) = false := by unfold okA; rw [hok]; rfl
    rw [e]
    refine (add_none base w hZ s hsz hok place).mono ?_
    rintro e w' ⟨h1, h2, h3⟩
    exact ⟨h1, ⟨t, n, R, h2.mono (by omega), hI, hR⟩, h3⟩
  | true =>
    obtain ⟨u, hs⟩ := okT_head hok
    have hn : 1 ≤ n := by
      obtain ⟨φ, K, mp, h1, _⟩ := hZ.ex
      rcases Nat.eq_zero_or_pos n with e | e
      · exact absurd ((@RS.wf bT w gr t n B φ K h1).dom 0 (by omega)) (@RS.root bT w gr t n B φ K h1)
      · exact e
    have hsh : shp (L s) = 47 :: Go.Proofs.Ytekjffooblcmnaa.Rt.shape (u.length + 1) u := by rw [hs]; rfl
    obtain ⟨t', n', ok, ha, hc⟩ := add_ok hI hn ⟨place, L s, names (u.length + 1) u⟩ u (fun _ _ => trivial)
    refine (add_calls base w hZ hB hBM s hsz hB2 hok u hs place ha).mono ?_
    rintro e w' ⟨h1, h2, h3⟩
    rcases hc with ⟨rfl, k1, k2⟩ | ⟨rfl, k1, k2⟩
    · have e : okA S (L s) = false := by
        unfold okA
        rw [hok, hsh, decide_eq_true ((hR _).1 k1)]
        rfl
      rw [e]
      exact ⟨h1, ⟨t', n', R, h2, k2, hR⟩, h3⟩
    · have e : okA S (L s) = true := by
        unfold okA
        rw [hok, hsh, decide_eq_false (fun q => k1 ((hR _).2 q))]
        rfl
      rw [e, if_pos rfl]
      refine ⟨h1, ⟨t', n', _, h2, k2, fun K => ?_⟩, h3⟩
      rw [hsh]
      constructor
      · rintro ⟨d, hd | ⟨rfl, _⟩⟩
        · exact List.mem_cons_of_mem _ ((hR K).1 ⟨d, hd⟩)
        · exact List.mem_cons_self
      · intro hK
        rcases List.mem_cons.1 hK with rfl | hK
        · exact ⟨_, .inr ⟨rfl, rfl⟩⟩
        · obtain ⟨d, hd⟩ := (hR K).2 hK
          exact ⟨d, .inl hd⟩
theorem infoBool : (Try.prog.info? 4).map (fun i => (i.zero, i.size, i.bytes)) = some (some (.bool false), 1, 1) := by kernel_rfl
section
variable {ops : Array Oper} {rest : List Oper} {o : Oper} {a : Act} {Q : Exit → Act → World → Prop} {W : World}
theorem app_BV (base : Nat) (hbase : base ≤ W.heap.size) (hgd : o.guard = none) (s x : Operand) (ho : o.op = .call { callee := .builtin .append, args := #[s, x], argTypes := #[24, 24] })
    (v : Value) (l : List Bool) (b : Bool) (A : Option Addr) (c : Nat) (hs : a.eval s = v) (hx : a.eval x = .slice A 1 c) (hv : W.ownsRow base 4 1 v l.length (encs Value.bool l)) (hm : Kd.C Kd.bool W A 1 [b]) (hl : l.length ≤ 1000000)
    (h : ∀ v1 W1, W1.ownsRow base 4 1 v1 (l ++ [b]).length (encs Value.bool (l ++ [b])) → Only (fun j => v.ownBlock = some j) W W1 → (v1.ownBlock = v.ownBlock ∨ ∃ b, v1.ownBlock = some b ∧ W.heap.size ≤ b) → wpList Try.prog ops Q rest (a.put o.dst v1) W1) : wpList Try.prog ops Q (o :: rest) a W := by
  refine Kd.R_append_rows Kd.bool (w0 := W) base hgd s x 24 4 (.bool false) 1 ho Try.underlying24 infoBool rfl (by decide) (by omega) v l [b] A 1 c (fun _ => True) (fun _ => False) hs hx (Kd.R_of_own hv (fun _ _ => trivial)) hm (fun _ _ h => h) (fun _ h => h.elim) (fun _ _ => trivial) (Below.refl _ _) hbase (by omega) ?_
  intro v1 w1 hr _ hg hat
  exact h v1 w1 (Kd.own_of_R hr) (Only.of_grown hg) hat
end
theorem one_B {w : World} {g : Nat} {b : Bool} (h : w.cell? ⟨g, 0, none⟩ = some (.bool b)) : Kd.C Kd.bool w (some ⟨g, 0, none⟩) 1 [b] := by
  refine Kd.C_of_reads (enc := Value.bool) (d := b) (h1 := fun _ => rfl) ⟨rfl, by omega, fun _ => ⟨_, rfl, fun j hj => ?_⟩⟩
  obtain rfl : j = 0 := by omega
  exact h
theorem bools_some {w : World} {base : Nat} {kv : Value} {l : List Bool} {b : Bool} (h : w.ownsRow base 4 1 kv (l ++ [b]).length (encs Value.bool (l ++ [b]))) : ∃ g c, kv = .slice (some ⟨g, 0, none⟩) (l ++ [b]).length c := by
  rcases id h.2 with ⟨e, hn⟩ | ⟨g, cap, cur, e, _⟩
  · simp at hn
  · exact ⟨g, cap, e⟩
end Go.Proofs.Ytekjffooblcmnaa.Q
end
section
namespace Go.Proofs.Ytekjffooblcmnaa.Q
open Go.RowKit Go.Proofs.YtekjffooblcmnaaW.PrintWords Go.Proofs.YtekjffooblcmnaaW.PrintLast Go.Proofs.YtekjffooblcmnaaW.PrintMore
open Go.Proofs.YtekjffooblcmnaaKit (L size_L L_extract L_append)
open Go.Proofs.Ytekjffooblcmnaa.Ob
open Go.Proofs.Ytekjffooblcmnaa.Rh (ptr NR HT Own Srt ncell Got DR Blk bT bB)
open Go.Proofs.Ytekjffooblcmnaa.Rt (Nd Dat Tb Ch Str lcp ins put rep kidL addL steps names RInv Added add_ok)
set_option linter.unusedVariables false
set_option linter.unusedSimpArgs false
def t0 : Tb := fun x => if x = 0 then some ⟨0, [], none, [], none, none, none⟩ else none
def newN : Array Value := #[.int .u8 0, .int .u8 0, .string ⟨#[]⟩, .pointer none, .slice none 0 0, .string ⟨#[]⟩, .slice none 0 0, .slice none 0 0, .pointer none, .pointer none, .bool false]
theorem new_three (w : World) (a b c : Obj) : (((w.alloc a).alloc b).alloc c).heap[w.heap.size]? = some a ∧ (((w.alloc a).alloc b).alloc c).heap[w.heap.size + 1]? = some b ∧ (((w.alloc a).alloc b).alloc c).heap[w.heap.size + 1 + 1]? = some c := by
  have s1 : (w.alloc a).heap.size = w.heap.size + 1 := by simp
  have s2 : ((w.alloc a).alloc b).heap.size = w.heap.size + 1 + 1 := by simp
  refine ⟨?_, ?_, ?_⟩
  · rw [Below.heap_alloc _ _ _ (by rw [s2]; omega), Below.heap_alloc _ _ _ (by rw [s1]; omega)]
    exact heap_alloc_new w a
  · rw [Below.heap_alloc _ _ _ (by rw [s2]; omega)]
    have := heap_alloc_new (w.alloc a) b
    rwa [s1] at this
  · have := heap_alloc_new ((w.alloc a).alloc b) c
    rwa [s2] at this
set_option maxHeartbeats 16000000 in
theorem zzNew_calls (w : World) : Calls Try.prog 15 #[] w (fun e w' => ∃ zr gr, e = .returned (.pointer (some ⟨zr, 0, none⟩)) ∧ RT w.heap.size w' zr gr 2 [] ∧ Below w.heap.size w w') := by
  go_enter Try.func15, Try.ntmps15
  go_wp2
  go_ret
  have hb0 := below_alloc (Below.refl w.heap.size w) (.cells newN 52)
  have hb1 := below_alloc hb0 (.cells #[.string ⟨#[]⟩, .pointer (some ⟨w.heap.size, 0, none⟩)] 54)
  have hb2 := below_alloc hb1 (.cells #[.pointer (some ⟨w.heap.size + 1, 0, none⟩), .int .u16 0] 57)
  refine ⟨w.heap.size + 1 + 1, w.heap.size + 1, rfl, ?_, hb2⟩
  have h0 := new_three w (.cells newN 52) (.cells #[.string ⟨#[]⟩, .pointer (some ⟨w.heap.size, 0, none⟩)] 54) (.cells #[.pointer (some ⟨w.heap.size + 1, 0, none⟩), .int .u16 0] 57)
  change RT w.heap.size (((w.alloc (.cells newN 52)).alloc (.cells #[.string ⟨#[]⟩, .pointer (some ⟨w.heap.size, 0, none⟩)] 54)).alloc (.cells #[.pointer (some ⟨w.heap.size + 1, 0, none⟩), .int .u16 0] 57)) _ _ _ _
  have hsz := hb2.size
  generalize (((w.alloc (.cells newN 52)).alloc (.cells #[.string ⟨#[]⟩, .pointer (some ⟨w.heap.size, 0, none⟩)] 54)).alloc (.cells #[.pointer (some ⟨w.heap.size + 1, 0, none⟩), .int .u16 0] 57)) = W at h0 hsz ⊢
  obtain ⟨k0, k1, k2⟩ := h0
  have tz : ∀ {b : Nat} {nd : Nd}, t0 b = some nd → b = 0 ∧ nd = ⟨0, [], none, [], none, none, none⟩ := fun {b nd} h => by
    unfold t0 at h
    by_cases e : b = 0
    · rw [if_pos e] at h; cases h; exact ⟨e, rfl⟩
    · rw [if_neg e] at h; cases h
  have tn : ∀ {b : Nat}, t0 b ≠ none → b = 0 := fun {b} h => by
    cases hq : t0 b with
    | none => exact absurd hq h
    | some nd => exact (tz hq).1
  have ht : @HT bT W t0 (fun _ => w.heap.size) (fun _ => .slice none 0 0) := @HT.mk bT _ _ _ _ (fun a b ha hb _ => by rw [tn ha, tn hb]) (fun b nd hb => by
      obtain ⟨rfl, rfl⟩ := tz hb
      exact ⟨0, ByteArray.empty, ByteArray.empty, .slice none 0 0, .slice none 0 0, false, k0, rfl, fun c r e => (by cases e), ⟨rfl, _, _, _, rfl⟩, World.ownsRow_nil _ _ _ _⟩) (fun a b k ha hb hne => absurd ((tn ha).trans (tn hb).symm) hne)
  have nc : ∀ {b : Nat} {nd : Nd} {x : Nat}, t0 b = some nd → ¬ Ch nd x := fun {b nd x} hb hx => by
    obtain ⟨_, rfl⟩ := tz hb
    rcases hx with hx | hx | hx <;> cases hx
  have wf : Wf t0 1 := ⟨fun x hx => if_neg (by omega), fun b m x hb hx => by
      rcases hx with hx | hx
      · obtain ⟨_, rfl⟩ := tz hb
        cases hx
      · exact absurd hx (nc hb), fun b m x hb hx => absurd hx (nc hb), fun b m x hb hx => absurd (.inl hx) (nc hb)⟩
  have sb : SB t0 2 := fun b m hb => by
    obtain ⟨_, rfl⟩ := tz hb
    exact ⟨Nat.zero_le _, Nat.zero_le _⟩
  refine ⟨t0, 1, fun _ _ => False, ⟨fun _ => w.heap.size, fun _ => .slice none 0 0, 0, @RS.mk bT _ _ _ _ _ _ _ ht wf sb (by simp [t0]) ⟨_, _, k1, rfl⟩, k2, ?_, by omega, by omega⟩, ⟨.inl ⟨rfl, fun _ _ h => h, fun x hx => if_neg hx⟩, fun x hx => if_neg (by omega)⟩, fun K => ⟨fun ⟨_, h⟩ => h.elim, fun h => by cases h⟩⟩
  rintro k ⟨b, hb, e | e⟩
  · exact Nat.le_of_eq e
  · cases e
end Go.Proofs.Ytekjffooblcmnaa.Q
end
section
namespace Go.Proofs.Ytekjffooblcmnaa.Q
open Go.RowKit Go.Proofs.YtekjffooblcmnaaW.PrintWords Go.Proofs.YtekjffooblcmnaaW.PrintLast Go.Proofs.YtekjffooblcmnaaW.PrintMore
open Go.Proofs.YtekjffooblcmnaaKit (L size_L L_extract L_append)
open Go.Proofs.Ytekjffooblcmnaa.Ob
open Go.Proofs.Ytekjffooblcmnaa.Rh (ptr NR HT Own Srt ncell Got DR Blk bT bB)
open Go.Proofs.Ytekjffooblcmnaa.Rt (Nd Dat Tb Ch Str)
set_option linter.unusedVariables false
set_option linter.unusedSimpArgs false
theorem own_ge {W : World} {base n : Nat} {e : TypeId} {v : Value} {xs : List Value} (h : W.ownsRow base e 1 v n xs) {k : Nat} (hk : v.ownBlock = some k) : base ≤ k := by
  rcases h.2 with ⟨e, _⟩ | ⟨g, cap, cur, e, hb, _⟩
  · rw [e] at hk; cases hk
  · rw [e] at hk; cases hk; exact hb
theorem RT.zr {base : Nat} {w : World} {zr gr B : Nat} {S : List Str} (h : RT base w zr gr B S) : ∃ C f, w.heap[zr]? = some (.cells C 57 f) := by
  obtain ⟨t, n, R, h1, _⟩ := h.ex
  obtain ⟨φ, K, mp, _, h2, _⟩ := h1.ex
  exact ⟨_, _, h2⟩
theorem RT.size {base : Nat} {w : World} {zr gr B : Nat} {S : List Str} (h : RT base w zr gr B S) : base ≤ w.heap.size := by
  obtain ⟨t, n, R, h1, _⟩ := h.ex
  obtain ⟨φ, K, mp, _, _, _, _, h2⟩ := h1.ex
  exact h2
theorem added_at {S : List Str} {l : List Str} {i : Nat} {s : Str} (h : l[i]? = some s) : addedB S (l.drop i) = okA S s :: addedB (if okA S s then shp s :: S else S) (l.drop (i + 1)) := by
  obtain ⟨h1, e1⟩ := List.getElem?_eq_some_iff.1 h
  rw [List.drop_eq_getElem_cons h1, e1]
  rfl
set_option maxHeartbeats 16000000 in
theorem routes_calls (A0 : Option Addr) (c0 : Nat) (l0 : List ByteArray) (w : World) (hr0 : Kd.C Kd.string w A0 l0.length l0) (hl : l0.length ≤ 20) (hsz : ∀ s ∈ l0, s.size ≤ 2000) :
    Calls Try.prog 11 #[.slice A0 l0.length c0] w (fun e w' => ∃ zr gr A n c S, e = .returned (.tuple #[.pointer (some ⟨zr, 0, none⟩), .slice A n c]) ∧ w'.ownsRow w.heap.size 4 1 (.slice A n c) (addedB [] (l0.map L)).length (encs Value.bool (addedB [] (l0.map L))) ∧ RT w.heap.size w' zr gr 1000000 S ∧ Below w.heap.size w w') := by
  have HR0 := Aside0.mk hr0
  have HL := Aside0.mk hl
  have HSZ := Aside0.mk hsz
  obtain ⟨n, hn⟩ : ∃ n, n = l0.length := ⟨_, rfl⟩
  rw [← hn]
  rw [← hn] at HR0
  have HN := Aside0.mk hn
  obtain ⟨res, hres⟩ : ∃ r, r = addedB [] (l0.map L) := ⟨_, rfl⟩
  rw [← hres]
  have HRES := Aside0.mk hres
  clear hr0 hl hsz hn hres
  go_enter Try.func11, Try.ntmps11
  go_wp2_with (fail)
  refine (zzNew_calls w).mono ?_
  rintro e w1 ⟨zr, gr, rfl, hZ, hb1⟩
  have HZ1 := Aside0.mk hZ
  have HB1 := Aside0.mk hb1
  clear hZ hb1
  go_wp2_with (fail)
  go_loopw [5, 11] (fun v5 v11 wr => ∃ (i : Nat) (A5 : Option Addr) (n5 c5 : Nat) (bs : List Bool) (S : List Str), v5 = .slice A5 n5 c5 ∧ v11 = .int .i64 (i : Int) ∧ Aside0 (i ≤ n) ∧ Aside0 (RT w.heap.size wr zr gr (2 + 4002 * i) S) ∧ Aside0 (Below w.heap.size w wr) ∧ Aside0 (wr.ownsRow w.heap.size 4 1 (.slice A5 n5 c5) bs.length (encs Value.bool bs)) ∧ Aside0 (bs ++ addedB S ((l0.map L).drop i) = res) ∧ Aside0 (bs.length = i)) (fun _ v11 _ => n - natV v11)
  case atStart => exact ⟨0, none, 0, 0, [], [], rfl, rfl, ⟨Nat.zero_le _⟩, HZ1, HB1, ⟨World.ownsRow_nil _ _ _ _⟩, ⟨HRES.out.symm⟩, ⟨rfl⟩⟩
  case round =>
    obtain ⟨i, A5, n5, c5, bs, S, rfl, rfl, HI, HZ, HB, HO, HE, HBL⟩ := hrel
    by_cases hi : i < n
    rotate_left
    · have b2 : decide ((i : Int) < (n : Int)) = false := decide_eq_false (by omega)
      have hfin : bs = res := by
        have h1 := HE.out
        rw [List.drop_eq_nil_of_le (by rw [List.length_map]; have := HN.out; omega)] at h1
        exact (List.append_nil bs).symm.trans h1
      have HO2 : Aside0 (wr.ownsRow w.heap.size 4 1 (.slice A5 n5 c5) res.length (encs Value.bool res)) := ⟨by rw [← hfin]; exact HO.out⟩
      have HZ2 : Aside0 (RT w.heap.size wr zr gr 1000000 S) := ⟨by
        obtain ⟨t, m, R, h1, h2⟩ := HZ.out.ex
        exact ⟨t, m, R, h1.mono (by have := HL.out; have := HN.out; have := HI.out; omega), h2⟩⟩
      clear hfin
      go_wp2_with (fail)
      exact ⟨rfl, _, results_tmp2 rfl _ _ _, zr, gr, _, _, _, S, rfl, HO2.out, HZ2.out, HB.out⟩
    have b2 : decide ((i : Int) < (n : Int)) = true := decide_eq_true (by omega)
    have p1 : (0 ≤ (i : Int)) = True := eq_true (by omega)
    have q1 : ((i : Int) < (n : Int)) = True := eq_true (by omega)
    have wx := wrap_succ hi (by have := HL.out; have := HN.out; omega)
    have hi2 : i < l0.length := by rw [← HN.out]; exact hi
    obtain ⟨ad, rfl, hx⟩ := Kd.at_string HR0.out (i : Int) (by omega) (by omega)
    have hrd : rdOf ByteArray.empty l0 (i : Int) = l0[i] := by
      unfold rdOf
      simp [hi2]
    rw [hrd, Int.toNat_natCast] at hx
    have hx2 := pw_cell_below HB.out hx
    obtain ⟨s, hs⟩ : ∃ s, s = l0[i] := ⟨_, rfl⟩
    rw [← hs] at hx hx2
    have hss : s.size ≤ 2000 := HSZ.out s (by rw [hs]; exact List.getElem_mem hi2)
    have hst := add_step w.heap.size wr HZ.out (by omega) (BM := 2 + 4002 * (i + 1)) (by have := HL.out; have := HN.out; omega) s (by omega) (by omega) (i : Int)
    have HST := Aside0.mk hst
    have hat := added_at (S := S) (l := l0.map L) (i := i) (s := L s) (by rw [List.getElem?_map, List.getElem?_eq_getElem hi2, ← hs]; rfl)
    have HAT := Aside0.mk hat
    clear hst hss hs hrd hat hi2 hx
    go_wp2_with (fail)
    refine HST.out.mono ?_
    rintro e w2 ⟨rfl, hZ2, hb2, hk2⟩
    have own2 : w2.ownsRow w.heap.size 4 1 (.slice A5 n5 c5) bs.length (encs Value.bool bs) := own_move HO.out fun k hk => by
      obtain ⟨C, hC⟩ := own_typed HO.out k hk
      rw [hC]
      exact hk2 k C _ hC
    obtain ⟨b, hb⟩ : ∃ b, b = okA S (L s) := ⟨_, rfl⟩
    have HZ2 := Aside0.mk hZ2
    have HO2 := Aside0.mk own2
    have HB2 : Aside0 (Below w.heap.size w w2) := ⟨HB.out.trans hb2⟩
    rw [← hb] at HZ2 HAT ⊢
    clear hZ2 hb2 hk2 own2 hb
    have wxs := hx2
    clear hx2 wxs
    go_wp2_with ((with_reducible refine gate_builtin (b := .append) (xs := #[.tmp 16, .tmp 21]) rfl ?_); at_builtin; refine app_BV w.heap.size (Nat.le_trans (RT.size HZ2.out) (below_alloc (Below.refl _ _) _).size) rfl (.tmp 16) (.tmp 21) rfl (.slice A5 n5 c5) bs b _ _ rfl rfl (own_move HO2.out fun k hk => (below_alloc (Below.refl _ _) _).block k (by obtain ⟨C, hC⟩ := own_typed HO2.out k hk; exact (Array.getElem?_eq_some_iff.1 hC).1)) (one_B (by unfold World.cell?; rw [heap_alloc_new]; rfl)) (by have := HBL.out; have := HL.out; have := HN.out; omega) ?_; intro v1 W3 hr hon hat; obtain ⟨g3, c3, rfl⟩ := bools_some hr; rw [show (bs ++ [b]).length = bs.length + 1 by simp] at hr hat; have HR := Aside0.mk hr; have HON := Aside0.mk (((Only.of_below (S := fun j => (Value.slice A5 n5 c5).ownBlock = some j) (below_alloc (Below.refl _ _) _)).trans hon (fun i _ hs => hs))); clear hr hon hat)
    go_roundw
    case measure => simp only [natV]; try rw [wx]
                    omega
    case rel =>
      have hot : OT w2 (fun j => (Value.slice A5 n5 c5).ownBlock = some j) := fun k hk e => by
        obtain ⟨C, hC⟩ := own_typed HO2.out k e
        exact ⟨_, _, _, hC, by decide, by decide, by decide, by decide, by decide⟩
      refine ⟨i + 1, _, _, _, bs ++ [b], _, rfl, by first | rfl | rw [← wx], ⟨by omega⟩, ⟨HZ2.out.onlyT HON.out hot (fun e => ?_)⟩, ⟨HB2.out.trans (HON.out.below (fun k hk => own_ge HO2.out hk) (RT.size HZ2.out))⟩, ⟨by have := HR.out; simpa using this⟩, ⟨?_⟩, ⟨by have := HBL.out; simp; omega⟩⟩
      · obtain ⟨C, f, hz⟩ := HZ2.out.zr
        obtain ⟨C', hC'⟩ := own_typed HO2.out _ e
        rw [hz] at hC'
        cases hC'
      · rw [List.append_assoc, List.singleton_append, ← HAT.out]
        exact HE.out
set_option maxHeartbeats 16000000 in
theorem added_calls (A0 : Option Addr) (c0 : Nat) (l0 : List ByteArray) (w : World) (hr0 : Kd.C Kd.string w A0 l0.length l0) (hl : l0.length ≤ 20) (hsz : ∀ s ∈ l0, s.size ≤ 2000) :
    Calls Try.prog 6 #[.slice A0 l0.length c0] w (fun e w' => ∃ v0_ : Value, e = .returned v0_ ∧ Kd.R Kd.bool 4 w' w.heap.size (fun _ => True) v0_ (addedB [] (l0.map L)) ∧ Below w.heap.size w w') := by
  have HC := Aside0.mk (routes_calls A0 c0 l0 w hr0 hl hsz)
  clear hr0 hl hsz
  generalize l0.length = n at HC ⊢
  generalize addedB [] (l0.map L) = res at HC ⊢
  go_enter Try.func6, Try.ntmps6
  go_wp2_with (fail)
  refine HC.out.mono ?_
  rintro e w1 ⟨zr, gr, A, m, c, S, rfl, ho, hz, hb⟩
  have HO : Aside0 (Kd.R Kd.bool 4 w1 w.heap.size (fun _ => True) (.slice A m c) res) := ⟨Kd.R_of_own ho (fun _ _ => trivial)⟩
  have HB := Aside0.mk hb
  clear ho hz hb
  go_wp2_with (fail)
  go_ret
  exact ⟨_, rfl, HO.out, HB.out⟩
end Go.Proofs.Ytekjffooblcmnaa.Q
end
section
namespace Go.Proofs.Ytekjffooblcmnaa.Q
open Go.RowKit Go.Proofs.YtekjffooblcmnaaW.PrintWords Go.Proofs.YtekjffooblcmnaaW.PrintLast Go.Proofs.YtekjffooblcmnaaW.PrintMore
attribute [local go_sem] max2_int min2_int max_two min_two max_three min_three max_four min_four
set_option linter.unusedVariables false
set_option linter.unusedSimpArgs false
def impl_Added.f (l0 : List ByteArray) : Option (List Bool) := if l0.length ≤ 20 ∧ (∀ s ∈ l0, s.size ≤ 2000) then some (addedB [] (l0.map Go.Proofs.YtekjffooblcmnaaKit.L)) else none
theorem impl_Added.calls (A0 : Option Addr) (c0 : Nat) (l0 : List ByteArray) (r : List Bool) (w : World) (hr0 : Kd.C Kd.string w A0 l0.length l0) (hc0 : l0.length ≤ c0) (h : impl_Added.f l0 = some r) :
    Calls Try.prog 6 #[.slice A0 l0.length c0] w fun e w' => ∃ v0_ : Value, e = .returned (v0_) ∧ Kd.R Kd.bool 4 w' w.heap.size (fun _ => True) v0_ r ∧ Below w.heap.size w w' := by
  unfold impl_Added.f at h
  split at h
  · next hq =>
    obtain rfl := Option.some.inj h
    exact added_calls A0 c0 l0 w hr0 hq.1 hq.2
  · cases h
end Go.Proofs.Ytekjffooblcmnaa.Q
end
section
namespace Go.Proofs.Ytekjffooblcmnaa.Q
open Go.RowKit Go.Proofs.YtekjffooblcmnaaW.PrintWords Go.Proofs.YtekjffooblcmnaaW.PrintLast Go.Proofs.YtekjffooblcmnaaW.PrintMore
attribute [local go_sem] max2_int min2_int max_two min_two max_three min_three max_four min_four
set_option linter.unusedVariables false
set_option linter.unusedSimpArgs false
def laws_short.l0 : Nat → List ByteArray → List ByteArray → Int → Int → Option (Bool)
  | 0, _, _, _, _ => none
  | k + 1, x0, x5, x6, x7 => if x7 < x6 then (if 0 ≤ x7 then (if x7 < (x5.length : Int) then (if ((rdOf ByteArray.empty x5 x7).size : Int) > 2000 then (some false) else (laws_short.l0 k x0 x5 x6 (wrap64 (x7 + 1)))) else (none)) else (none)) else (some (decide ((x0.length : Int) ≤ 60)))
def laws_short.f (k : Nat) (l0 : List ByteArray) : Option (Bool) := laws_short.l0 k l0 l0 (l0.length : Int) 0
set_option maxHeartbeats 8000000 in
set_option maxRecDepth 100000 in
theorem laws_short.calls (k : Nat) (A0 : Option Addr) (c0 : Nat) (l0 : List ByteArray) (r : Bool) (w : World) (hr0 : Kd.C Kd.string w A0 l0.length l0) (hc0 : l0.length ≤ c0) (h : laws_short.f k l0 = some r) :
    Calls Try.prog 7 #[.slice A0 l0.length c0] w fun e w' => e = .returned (.bool r) ∧ Drawn0 w w' := by
  have HR0 := Aside0.mk hr0
  have HC0 := Aside0.mk hc0
  clear hr0 hc0
  have H : (laws_short.l0 k l0 l0 (l0.length : Int) 0) = some r := h
  clear h
  have H' := Aside0.mk H
  clear H
  go_enter Try.func7, Try.ntmps7
  go_wp2
  go_loopg [7] k (fun kq v7 w' => ∃ (x7_1 : Int), v7 = .int .i64 x7_1 ∧ Aside0 (laws_short.l0 kq l0 l0 (l0.length : Int) x7_1 = some r) ∧ Aside0 (kq ≤ k) ∧ Drawn0 w w')
  case atStart => exact ⟨(0), (by first | rfl | (simp; done) | (simp [*]; done) | (simp [Go.Proofs.YtekjffooblcmnaaX.isEmpty_ne]; done)), H', ⟨Nat.le_refl _⟩, by repeat (first | exact Drawn0.refl _ | apply Drawn0.step)⟩
  case round =>
    clear H'
    obtain ⟨x7_1, rfl, HA, HK1, ⟨m1, rfl⟩⟩ := hrel
    cases gk with
    | zero => exact absurd HA.out (by simp [laws_short.l0])
    | succ k1 =>
      have H := HA.out
      clear HA
      simp only [laws_short.l0] at H
      by_cases c2 : x7_1 < (l0.length : Int)
      · rw [if_pos c2] at H
        have c2b0 : decide (x7_1 < (l0.length : Int)) = true := decide_eq_true c2
        clear c2
        by_cases c3 : 0 ≤ x7_1
        · rw [if_pos c3] at H
          have c3b0 : decide (0 ≤ x7_1) = true := decide_eq_true c3
          clear c3
          by_cases c4 : x7_1 < (l0.length : Int)
          · rw [if_pos c4] at H
            have c4b0 : decide (x7_1 < (l0.length : Int)) = true := decide_eq_true c4
            clear c4
            by_cases c5 : ((rdOf ByteArray.empty l0 x7_1).size : Int) > 2000
            · rw [if_pos c5] at H
              have c5b0 : decide (2000 < ((rdOf ByteArray.empty l0 x7_1).size : Int)) = true := decide_eq_true c5
              have c5b1 : decide (2000 < (rdOf ByteArray.empty l0 x7_1).size) = true := decide_eq_true (by omega)
              clear c5
              obtain rfl := Option.some.inj H
              have p104 : 0 ≤ (x7_1 : Int) := of_decide_eq_true (by first | (with_reducible assumption) | assumption)
              have q104 : x7_1 < (l0.length : Int) := of_decide_eq_true (by first | (with_reducible assumption) | assumption)
              obtain ⟨ad104, e104, hx104_0⟩ := Kd.at_string HR0.out x7_1 p104 q104
              cases e104
              replace p104 := eq_true p104
              replace q104 := eq_true q104
              go_wp2
              go_ret
              exact ⟨by first | rfl | (simp; done) | (simp [*]; done) | (simp [Go.Proofs.YtekjffooblcmnaaX.isEmpty_ne]; done), by repeat (first | exact Drawn0.refl _ | apply Drawn0.step)⟩
            · rw [if_neg c5] at H
              have c5b0 : decide (2000 < ((rdOf ByteArray.empty l0 x7_1).size : Int)) = false := decide_eq_false c5
              have c5b1 : decide (2000 < (rdOf ByteArray.empty l0 x7_1).size) = false := decide_eq_false (by omega)
              clear c5
              have H' := Aside0.mk H
              clear H
              have p104 : 0 ≤ (x7_1 : Int) := of_decide_eq_true (by first | (with_reducible assumption) | assumption)
              have q104 : x7_1 < (l0.length : Int) := of_decide_eq_true (by first | (with_reducible assumption) | assumption)
              obtain ⟨ad104, e104, hx104_0⟩ := Kd.at_string HR0.out x7_1 p104 q104
              cases e104
              replace p104 := eq_true p104
              replace q104 := eq_true q104
              go_wp2
              go_roundg k1
              case measure => have := HK1.out; omega
              case rel => exact ⟨(wrap64 (x7_1 + 1)), (by first | rfl | (simp; done) | (simp [*]; done) | (simp [Go.Proofs.YtekjffooblcmnaaX.isEmpty_ne]; done)), H', ⟨by have := HK1.out; omega⟩, by repeat (first | exact Drawn0.refl _ | apply Drawn0.step)⟩
          · rw [if_neg c4] at H
            exact absurd H (by simp)
        · rw [if_neg c3] at H
          exact absurd H (by simp)
      · rw [if_neg c2] at H
        have c2b0 : decide (x7_1 < (l0.length : Int)) = false := decide_eq_false c2
        clear c2
        obtain rfl := Option.some.inj H
        go_wp2
        go_ret
        exact ⟨by first | rfl | (simp; done) | (simp [*]; done) | (simp [Go.Proofs.YtekjffooblcmnaaX.isEmpty_ne]; done), by repeat (first | exact Drawn0.refl _ | apply Drawn0.step)⟩
end Go.Proofs.Ytekjffooblcmnaa.Q
end
section
namespace Go.Proofs.Ytekjffooblcmnaa.Q
open Go.RowKit Go.Proofs.YtekjffooblcmnaaW.PrintWords Go.Proofs.YtekjffooblcmnaaW.PrintLast Go.Proofs.YtekjffooblcmnaaW.PrintMore
attribute [local go_sem] max2_int min2_int max_two min_two max_three min_three max_four min_four
set_option linter.unusedVariables false
set_option linter.unusedSimpArgs false
mutual
def spec_pieces.j0 : Nat → ByteArray → List (S44) → Bool → Option ((List (S44)) × Int)
  | 0, _, _, _ => none
  | k + 1, x0, x4, x15 => if x15 = true then (some (([] : List (S44)), 0)) else (spec_pieces.l0 k x0 x4 0)
def spec_pieces.l0 : Nat → ByteArray → List (S44) → Int → Option ((List (S44)) × Int)
  | 0, _, _, _ => none
  | k + 1, x0, x4, x5 => if x5 < (x0.size : Int) then (if 0 ≤ x5 then (if (bt x0 x5) = 58 then (spec_pieces.j2 k x0 x4 x5 (bt x0 x5) false) else (spec_pieces.j2 k x0 x4 x5 (bt x0 x5) ((bt x0 x5) != 42))) else (none)) else (some (x4, 1))
def spec_pieces.j2 : Nat → ByteArray → List (S44) → Int → Int → Bool → Option ((List (S44)) × Int)
  | 0, _, _, _, _, _ => none
  | k + 1, x0, x4, x5, x6, x28 => if x28 = true then (if x4.length < 4398046511104 then (spec_pieces.l0 k x0 (x4 ++ [(⟨0, x6, (⟨#[]⟩ : ByteArray)⟩ : S44)]) (wrap64 (x5 + 1))) else (none)) else (spec_pieces.l1 k x0 x4 x5 x6 (wrap64 (x5 + 1)))
def spec_pieces.l1 : Nat → ByteArray → List (S44) → Int → Int → Int → Option ((List (S44)) × Int)
  | 0, _, _, _, _, _ => none
  | k + 1, x0, x4, x5, x6, x7 => if x7 < (x0.size : Int) then (if 0 ≤ x7 then (spec_pieces.j4 k x0 x4 x5 x6 x7 ((bt x0 x7) != 47)) else (none)) else (spec_pieces.j4 k x0 x4 x5 x6 x7 false)
def spec_pieces.j4 : Nat → ByteArray → List (S44) → Int → Int → Int → Bool → Option ((List (S44)) × Int)
  | 0, _, _, _, _, _, _ => none
  | k + 1, x0, x4, x5, x6, x7, x47 => if x47 = true then (if x6 = 42 then (if 0 ≤ x7 then (if x7 < (x0.size : Int) then (spec_pieces.j5 k x0 x4 x5 x6 x7 ((bt x0 x7) == 58)) else (none)) else (none)) else (spec_pieces.j5 k x0 x4 x5 x6 x7 false)) else (if x7 = (wrap64 (x5 + 1)) then (some (([] : List (S44)), 0)) else (if x6 = 42 then (if x7 < (x0.size : Int) then (spec_pieces.j6 k x0 x4 x5 x6 x7 true) else (if 0 ≤ (wrap64 (x5 - 1)) then (if (wrap64 (x5 - 1)) < (x0.size : Int) then (spec_pieces.j6 k x0 x4 x5 x6 x7 ((bt x0 (wrap64 (x5 - 1))) != 47)) else (none)) else (none))) else (spec_pieces.j6 k x0 x4 x5 x6 x7 false)))
def spec_pieces.j5 : Nat → ByteArray → List (S44) → Int → Int → Int → Bool → Option ((List (S44)) × Int)
  | 0, _, _, _, _, _, _ => none
  | k + 1, x0, x4, x5, x6, x7, x55 => if x55 = true then (some (([] : List (S44)), 2)) else (if 0 ≤ x7 then (if x7 < (x0.size : Int) then (if (bt x0 x7) = 58 then (some (([] : List (S44)), 0)) else (if (bt x0 x7) = 42 then (some (([] : List (S44)), 0)) else (spec_pieces.l1 k x0 x4 x5 x6 (wrap64 (x7 + 1))))) else (none)) else (none))
def spec_pieces.j6 : Nat → ByteArray → List (S44) → Int → Int → Int → Bool → Option ((List (S44)) × Int)
  | 0, _, _, _, _, _, _ => none
  | k + 1, x0, x4, x5, x6, x7, x86 => if x86 = true then (some (([] : List (S44)), 0)) else (if x6 = 42 then (if 0 ≤ (wrap64 (x5 + 1)) then (if (wrap64 (x5 + 1)) ≤ x7 then (if x7 ≤ (x0.size : Int) then (if x4.length < 4398046511104 then (spec_pieces.l0 k x0 (x4 ++ [(⟨2, 0, x0.extract ((wrap64 (x5 + 1)) : Int).toNat (x7 : Int).toNat⟩ : S44)]) x7) else (none)) else (none)) else (none)) else (none)) else (if 0 ≤ (wrap64 (x5 + 1)) then (if (wrap64 (x5 + 1)) ≤ x7 then (if x7 ≤ (x0.size : Int) then (if x4.length < 4398046511104 then (spec_pieces.l0 k x0 (x4 ++ [(⟨1, 0, x0.extract ((wrap64 (x5 + 1)) : Int).toNat (x7 : Int).toNat⟩ : S44)]) x7) else (none)) else (none)) else (none)) else (none)))
end
def spec_pieces.f (k : Nat) (a0 : ByteArray) : Option ((List (S44)) × Int) := if a0.toList = ([] : List UInt8) then (spec_pieces.j0 k a0 ([] : List (S44)) true) else (if 0 < (a0.size : Int) then (spec_pieces.j0 k a0 ([] : List (S44)) ((bt a0 0) != 47)) else (none))
set_option maxHeartbeats 8000000 in
set_option maxRecDepth 100000 in
theorem spec_pieces.calls (k : Nat) (a0 : ByteArray) (r1 : List (S44)) (r2 : Int) (w : World) (h : spec_pieces.f k a0 = some (r1, r2)) :
    Calls Try.prog 13 #[.string a0] w fun e w' => ∃ v0_ : Value, e = .returned (.tuple #[v0_, .int .i64 r2]) ∧ Kd.R k44 44 w' w.heap.size (fun _ => True) v0_ r1 ∧ Below w.heap.size w w' := by
  have hu44 := Try.underlying44
  have HB := Aside0.mk (Below.refl w.heap.size w)
  have H : (if a0.toList = ([] : List UInt8) then (spec_pieces.j0 k a0 ([] : List (S44)) true) else (if 0 < (a0.size : Int) then (spec_pieces.j0 k a0 ([] : List (S44)) ((bt a0 0) != 47)) else (none))) = some (r1, r2) := h
  clear h
  have HC2 := Aside0.mk H
  clear H
  go_enter Try.func13, Try.ntmps13
  go_upto_region 2 with (fail)
  go_cut [15] (fun v15 wc => ∃ (kq : Nat) (x15_1 : Bool), v15 = .bool x15_1 ∧ Aside0 (spec_pieces.j0 kq a0 ([] : List (S44)) x15_1 = some (r1, r2)) ∧ Aside0 (kq ≤ k) ∧ Aside0 (Kd.R k44 44 wc w.heap.size (fun _ => True) (.slice none 0 0) ([] : List (S44))) ∧ Aside0 (Below w.heap.size w wc))
  case first =>
    have H := HC2.out
    clear HC2
    by_cases c3 : a0.toList = ([] : List UInt8)
    · rw [if_pos c3] at H
      have c3b0 : (a0.toList == ([] : List UInt8)) = true := beq_iff_eq.mpr c3
      have c3b1 : (a0.toList != ([] : List UInt8)) = false := bne_eq_false_iff_eq.mpr c3
      clear c3
      (first | rw [c3b0] | (simp only [i64_w, i32_w]; rw [c3b0]) | (rw [Go.Proofs.YtekjffooblcmnaaX.isEmpty_eq]; rw [c3b0]) | skip)
      have H' := Aside0.mk H
      clear H
      go_wp2
      go_meet
      case rel => exact ⟨_, (true), (by first | rfl | (simp; done) | (simp [*]; done) | (simp [Go.Proofs.YtekjffooblcmnaaX.isEmpty_ne]; done)), H', ⟨by first | omega | exact Nat.le_refl _⟩, ⟨by first | exact Kd.R_nil _ _ _ _ _ | exact Kd.N_nil _ _ _ _ _ | exact Kd.V_nil _ _ _ _ _ | exact Kd.Q_nil _ _ _ _ _ | exact Kd.S_nil _ _ _ _ _⟩, ⟨by repeat (first | (with_reducible first | exact HB.out | apply below_alloc | apply pw_below_drewN | apply below_drew1) | exact HB.out)⟩⟩
    · rw [if_neg c3] at H
      have c3b0 : (a0.toList == ([] : List UInt8)) = false := beq_eq_false_iff_ne.mpr c3
      have c3b1 : (a0.toList != ([] : List UInt8)) = true := bne_iff_ne.mpr c3
      (first | rw [c3b0] | (simp only [i64_w, i32_w]; rw [c3b0]) | (rw [Go.Proofs.YtekjffooblcmnaaX.isEmpty_eq]; rw [c3b0]) | skip)
      by_cases c4 : 0 < (a0.size : Int)
      · rw [if_pos c4] at H
        have c4b0 : decide (0 < (a0.size : Int)) = true := decide_eq_true c4
        have c4b1 : decide (0 < a0.size) = true := decide_eq_true (by omega)
        clear c4
        have H' := Aside0.mk H
        clear H
        have p5 : 0 ≤ (0 : Int) := (by omega)
        have q5 : 0 < a0.size := (by have : (0 : Int) < (a0.size : Int) := of_decide_eq_true (by first | (with_reducible assumption) | assumption); omega)
        have hx5 : ∀ h : 0 < a0.size, ((a0[0]'h).toNat : Int) = bt a0 0 := bt_at a0 0
        clear p5
        have qi5 : (0 < (a0.size : Int)) = True := eq_true (of_decide_eq_true (by first | (with_reducible assumption) | assumption))
        replace q5 := eq_true q5
        go_wp2
        go_meet
        case rel => exact ⟨_, (((bt a0 0) != 47)), (by first | rfl | (simp; done) | (simp [*]; done) | (simp [Go.Proofs.YtekjffooblcmnaaX.isEmpty_ne]; done)), H', ⟨by first | omega | exact Nat.le_refl _⟩, ⟨by first | exact Kd.R_nil _ _ _ _ _ | exact Kd.N_nil _ _ _ _ _ | exact Kd.V_nil _ _ _ _ _ | exact Kd.Q_nil _ _ _ _ _ | exact Kd.S_nil _ _ _ _ _⟩, ⟨by repeat (first | (with_reducible first | exact HB.out | apply below_alloc | apply pw_below_drewN | apply below_drew1) | exact HB.out)⟩⟩
      · rw [if_neg c4] at H
        exact absurd H (by simp)
  case rest =>
    clear HC2
    try clear c1
    try clear p2
    try clear c3
    try clear c3b0
    try clear c3b1
    try clear c4
    try clear c4b0
    try clear c4b1
    try clear p5
    try clear q5
    try clear hx5
    try clear qi5
    try clear p5
    try clear q5
    obtain ⟨kq, x15_1, rfl, HA, HJ1, HO_4, HB⟩ := hcut
    cases kq with
    | zero => exact absurd HA.out (by simp [spec_pieces.j0])
    | succ kj1 =>
      have H := HA.out
      clear HA
      simp only [spec_pieces.j0] at H
      by_cases c6 : x15_1 = true
      · subst c6
        have H1 : (some (([] : List (S44)), 0)) = some (r1, r2) := by rw [if_pos rfl] at H; exact H
        clear H
        have H := H1
        clear H1
        simp only [Option.some.injEq, Prod.mk.injEq] at H
        obtain ⟨rfl, rfl⟩ := H
        go_wp2
        go_ret2
        exact ⟨_, by first | rfl | (simp [errW_none, errW_some] <;> rfl) | (simp [*, errW_none, errW_some] <;> rfl), by first | exact Kd.R_nil _ _ _ _ _ | exact Kd.N_nil _ _ _ _ _ | exact Kd.V_nil _ _ _ _ _ | exact Kd.Q_nil _ _ _ _ _ | exact Kd.S_nil _ _ _ _ _, by repeat (first | (with_reducible first | exact HB.out | apply below_alloc | apply pw_below_drewN | apply below_drew1) | exact HB.out)⟩
      · replace c6 := Bool.eq_false_iff.mpr c6
        subst c6
        have H1 : (spec_pieces.l0 kj1 a0 ([] : List (S44)) 0) = some (r1, r2) := by rw [if_neg (show ¬ (false = true) by decide)] at H; exact H
        clear H
        have H := H1
        clear H1
        have H' := Aside0.mk H
        clear H
        go_wp2
        go_loopg [4, 5] kj1 (fun kq v4 v5 w' => ∃ (x4_2 : List (S44)) (x5_2 : Int), v5 = .int .i64 x5_2 ∧ Aside0 (spec_pieces.l0 kq a0 x4_2 x5_2 = some (r1, r2)) ∧ Aside0 (kq ≤ kj1) ∧ Aside0 (Kd.R k44 44 w' w.heap.size (fun _ => True) v4 x4_2) ∧ Aside0 (Below w.heap.size w w'))
        case atStart => exact ⟨(([] : List (S44))), (0), (by first | rfl | (simp; done) | (simp [*]; done) | (simp [Go.Proofs.YtekjffooblcmnaaX.isEmpty_ne]; done)), H', ⟨Nat.le_refl _⟩, ⟨by (with_reducible repeat (first | apply Kd.R_alloc | apply Kd.R_drewN | apply Kd.R_drew)); exact HO_4.out⟩, ⟨by repeat (first | (with_reducible first | exact HB.out | apply below_alloc | apply pw_below_drewN | apply below_drew1) | exact HB.out)⟩⟩
        case round =>
          clear H'
          try clear c1
          try clear p2
          try clear c3
          try clear c3b0
          try clear c3b1
          try clear c4
          try clear c4b0
          try clear c4b1
          try clear p5
          try clear q5
          try clear hx5
          try clear qi5
          try clear c6
          try clear p2
          try clear p5
          try clear q5
          obtain ⟨x4_2, x5_2, rfl, HA, HK2, HO_4, HB⟩ := hrel
          cases gk with
          | zero => exact absurd HA.out (by simp [spec_pieces.l0])
          | succ k2 =>
            have H := HA.out
            clear HA
            simp only [spec_pieces.l0] at H
            by_cases c7 : x5_2 < (a0.size : Int)
            · rw [if_pos c7] at H
              have c7b0 : decide (x5_2 < (a0.size : Int)) = true := decide_eq_true c7
              clear c7
              by_cases c8 : 0 ≤ x5_2
              · rw [if_pos c8] at H
                have c8b0 : decide (0 ≤ x5_2) = true := decide_eq_true c8
                clear c8
                have HC10 := Aside0.mk H
                clear H
                have p9 : 0 ≤ (x5_2 : Int) := of_decide_eq_true (by first | (with_reducible assumption) | assumption)
                have q9 : x5_2 < (a0.size : Int) := of_decide_eq_true (by first | (with_reducible assumption) | assumption)
                have hx9 := bt_at a0 x5_2
                replace p9 := eq_true p9
                replace q9 := eq_true q9
                go_upto_region 7 with (fail)
                go_cut [28] (fun v28 wc => ∃ (kq : Nat) (x28_9 : Bool), v28 = .bool x28_9 ∧ Aside0 (spec_pieces.j2 kq a0 x4_2 x5_2 (bt a0 x5_2) x28_9 = some (r1, r2)) ∧ Aside0 (kq ≤ k2) ∧ Aside0 (Kd.R k44 44 wc w.heap.size (fun _ => True) u4 x4_2) ∧ Aside0 (Below w.heap.size w wc))
                case first =>
                  have H := HC10.out
                  clear HC10
                  by_cases c11 : (bt a0 x5_2) = 58
                  · rw [if_pos c11] at H
                    have c11b0 : ((bt a0 x5_2) == 58) = true := beq_iff_eq.mpr c11
                    have c11b1 : ((bt a0 x5_2) != 58) = false := bne_eq_false_iff_eq.mpr c11
                    clear c11
                    (first | rw [c11b0] | (simp only [i64_w, i32_w]; rw [c11b0]) | (rw [Go.Proofs.YtekjffooblcmnaaX.isEmpty_eq]; rw [c11b0]) | skip)
                    have H' := Aside0.mk H
                    clear H
                    go_wp2
                    go_meet
                    case rel => exact ⟨_, (false), (by first | rfl | (simp; done) | (simp [*]; done) | (simp [Go.Proofs.YtekjffooblcmnaaX.isEmpty_ne]; done)), H', ⟨by have := HJ1.out; have := HK2.out; first | omega | exact Nat.le_refl _⟩, ⟨by (with_reducible repeat (first | apply Kd.R_alloc | apply Kd.R_drewN | apply Kd.R_drew)); exact HO_4.out⟩, ⟨by repeat (first | (with_reducible first | exact HB.out | apply below_alloc | apply pw_below_drewN | apply below_drew1) | exact HB.out)⟩⟩
                  · rw [if_neg c11] at H
                    have c11b0 : ((bt a0 x5_2) == 58) = false := beq_eq_false_iff_ne.mpr c11
                    have c11b1 : ((bt a0 x5_2) != 58) = true := bne_iff_ne.mpr c11
                    (first | rw [c11b0] | (simp only [i64_w, i32_w]; rw [c11b0]) | (rw [Go.Proofs.YtekjffooblcmnaaX.isEmpty_eq]; rw [c11b0]) | skip)
                    have H' := Aside0.mk H
                    clear H
                    go_wp2
                    go_meet
                    case rel => exact ⟨_, (((bt a0 x5_2) != 42)), (by first | rfl | (simp; done) | (simp [*]; done) | (simp [Go.Proofs.YtekjffooblcmnaaX.isEmpty_ne]; done)), H', ⟨by have := HJ1.out; have := HK2.out; first | omega | exact Nat.le_refl _⟩, ⟨by (with_reducible repeat (first | apply Kd.R_alloc | apply Kd.R_drewN | apply Kd.R_drew)); exact HO_4.out⟩, ⟨by repeat (first | (with_reducible first | exact HB.out | apply below_alloc | apply pw_below_drewN | apply below_drew1) | exact HB.out)⟩⟩
                case rest =>
                  clear HC10
                  try clear c1
                  try clear p2
                  try clear c3
                  try clear c3b0
                  try clear c3b1
                  try clear c4
                  try clear c4b0
                  try clear c4b1
                  try clear p5
                  try clear q5
                  try clear hx5
                  try clear qi5
                  try clear c6
                  try clear c7
                  try clear c7b0
                  try clear c8
                  try clear c8b0
                  try clear p9
                  try clear q9
                  try clear hx9
                  try clear c11
                  try clear c11b0
                  try clear c11b1
                  try clear p2
                  try clear p5
                  try clear p9
                  try clear q5
                  try clear q9
                  obtain ⟨kq, x28_9, rfl, HA, HJ9, HO_4, HB⟩ := hcut
                  cases kq with
                  | zero => exact absurd HA.out (by simp [spec_pieces.j2])
                  | succ kj9 =>
                    have H := HA.out
                    clear HA
                    simp only [spec_pieces.j2] at H
                    by_cases c12 : x28_9 = true
                    · subst c12
                      have H1 : (if x4_2.length < 4398046511104 then (spec_pieces.l0 kj9 a0 (x4_2 ++ [(⟨0, (bt a0 x5_2), (⟨#[]⟩ : ByteArray)⟩ : S44)]) (wrap64 (x5_2 + 1))) else (none)) = some (r1, r2) := by rw [if_pos rfl] at H; exact H
                      clear H
                      have H := H1
                      clear H1
                      by_cases c13 : x4_2.length < 4398046511104
                      · rw [if_pos c13] at H
                        have LMc13 := Aside0.mk c13
                        clear c13
                        obtain ⟨y132, hy132⟩ : ∃ y_ : List (S44), y_ = (x4_2 ++ [(⟨0, (bt a0 x5_2), (⟨#[]⟩ : ByteArray)⟩ : S44)]) := ⟨_, rfl⟩
                        replace H : (spec_pieces.l0 kj9 a0 y132 (wrap64 (x5_2 + 1))) = some (r1, r2) := by first | (rw [hy132]; with_reducible exact H) | (have H2_ := (Option.bind_some _ _).symm.trans H; rw [hy132]; with_reducible exact H2_) | (have H2_ := (Option.bind_some _ _).symm.trans H; with_reducible exact H2_) | with_reducible exact H | (rw [hy132]; exact H) | exact H
                        have Ny132 := Aside0.mk hy132
                        clear hy132
                        have H' := Aside0.mk H
                        clear H
                        go_wp2_with (first | ((with_reducible refine gate_builtin (b := .append) (xs := #[.tmp 29, .tmp 32]) rfl ?_); (try (refine gate_guard (by rfl) ?_; dsimp only)); at_builtin; refine Kd.R_append k44 (w0 := w) w.heap.size rfl (.tmp 29) (.tmp 32) 37 44 (.agg #[(.int .i64 0), (.int .u8 0), (.string ⟨#[]⟩)]) 32 rfl Try.underlying37 info44 rfl (by decide) (by omega) u4 x4_2 (⟨0, (bt a0 x5_2), (⟨#[]⟩ : ByteArray)⟩ : S44) [.int .i64 0, .int .u8 (bt a0 x5_2), .string (⟨#[]⟩ : ByteArray)] (fun _ => True) (fun _ => False) rfl rfl ?aP (fun _ hk => hk.elim) ?aF ?aO ?aB ?aS ?aL ?_; (case aP => exact k44_mkM _ _ _ (⟨0, (bt a0 x5_2), (⟨#[]⟩ : ByteArray)⟩ : S44)); (case aB => exact (by repeat (first | (with_reducible first | exact HB.out | apply below_alloc | apply pw_below_drewN | apply below_drew1) | exact HB.out))); (case aF => exact (fun _ _ => trivial)); (case aO => exact (by (with_reducible repeat (first | apply Kd.R_alloc | apply Kd.R_drewN | apply Kd.R_drew)); exact HO_4.out)); (case aS => exact (below_size (by repeat (first | (with_reducible first | exact HB.out | apply below_alloc | apply pw_below_drewN | apply below_drew1) | exact HB.out)))); (case aL => have := LMc13.out; omega); intro v133 w14 ho hb hg hat; rw [← Ny132.out] at ho; have n0_ := Aside0.mk (hb); have n1_ := Aside0.mk (ho); clear HB; clear HO_4; have HB := n0_; have HO134 := n1_; clear n0_ n1_; clear ho hb hg hat))
                        go_roundg kj9
                        case measure => have := HJ1.out; have := HK2.out; have := HJ9.out; omega
                        case rel => exact ⟨(y132), (wrap64 (x5_2 + 1)), (by first | rfl | (simp; done) | (simp [*]; done) | (simp [Go.Proofs.YtekjffooblcmnaaX.isEmpty_ne]; done)), H', ⟨by have := HJ1.out; have := HK2.out; have := HJ9.out; omega⟩, ⟨by (with_reducible repeat (first | apply Kd.R_alloc | apply Kd.R_drewN | apply Kd.R_drew)); exact HO134.out⟩, ⟨by repeat (first | (with_reducible first | exact HB.out | apply below_alloc | apply pw_below_drewN | apply below_drew1) | exact HB.out)⟩⟩
                      · rw [if_neg c13] at H
                        exact absurd H (by simp)
                    · replace c12 := Bool.eq_false_iff.mpr c12
                      subst c12
                      have H1 : (spec_pieces.l1 kj9 a0 x4_2 x5_2 (bt a0 x5_2) (wrap64 (x5_2 + 1))) = some (r1, r2) := by rw [if_neg (show ¬ (false = true) by decide)] at H; exact H
                      clear H
                      have H := H1
                      clear H1
                      have H' := Aside0.mk H
                      clear H
                      go_wp2
                      go_loopg [7] kj9 (fun kq v7 w' => ∃ (x7_4 : Int), v7 = .int .i64 x7_4 ∧ Aside0 (spec_pieces.l1 kq a0 x4_2 x5_2 (bt a0 x5_2) x7_4 = some (r1, r2)) ∧ Aside0 (kq ≤ kj9) ∧ Aside0 (Kd.R k44 44 w' w.heap.size (fun _ => True) u4 x4_2) ∧ Aside0 (Below w.heap.size w w'))
                      case atStart => exact ⟨(wrap64 (x5_2 + 1)), (by first | rfl | (simp; done) | (simp [*]; done) | (simp [Go.Proofs.YtekjffooblcmnaaX.isEmpty_ne]; done)), H', ⟨Nat.le_refl _⟩, ⟨by (with_reducible repeat (first | apply Kd.R_alloc | apply Kd.R_drewN | apply Kd.R_drew)); exact HO_4.out⟩, ⟨by repeat (first | (with_reducible first | exact HB.out | apply below_alloc | apply pw_below_drewN | apply below_drew1) | exact HB.out)⟩⟩
                      case round =>
                        clear H'
                        try clear c1
                        try clear p2
                        try clear c3
                        try clear c3b0
                        try clear c3b1
                        try clear c4
                        try clear c4b0
                        try clear c4b1
                        try clear p5
                        try clear q5
                        try clear hx5
                        try clear qi5
                        try clear c6
                        try clear p6
                        try clear c7
                        try clear c7b0
                        try clear c8
                        try clear c8b0
                        try clear p9
                        try clear q9
                        try clear hx9
                        try clear c11
                        try clear c11b0
                        try clear c11b1
                        try clear c12
                        try clear c13
                        try clear p2
                        try clear p5
                        try clear p9
                        try clear q5
                        try clear q9
                        obtain ⟨x7_4, rfl, HA, HK4, HO_4, HB⟩ := hrel
                        cases gk with
                        | zero => exact absurd HA.out (by simp [spec_pieces.l1])
                        | succ k4 =>
                          have H := HA.out
                          clear HA
                          simp only [spec_pieces.l1] at H
                          have HC15 := Aside0.mk H
                          clear H
                          go_upto_region 11 with (fail)
                          go_cut [47] (fun v47 wc => ∃ (kq : Nat) (x47_14 : Bool), v47 = .bool x47_14 ∧ Aside0 (spec_pieces.j4 kq a0 x4_2 x5_2 (bt a0 x5_2) x7_4 x47_14 = some (r1, r2)) ∧ Aside0 (kq ≤ k4) ∧ Aside0 (Kd.R k44 44 wc w.heap.size (fun _ => True) u4 x4_2) ∧ Aside0 (Below w.heap.size w wc))
                          case first =>
                            have H := HC15.out
                            clear HC15
                            by_cases c16 : x7_4 < (a0.size : Int)
                            · rw [if_pos c16] at H
                              have c16b0 : decide (x7_4 < (a0.size : Int)) = true := decide_eq_true c16
                              clear c16
                              (first | rw [c16b0] | (simp only [i64_w, i32_w]; rw [c16b0]) | (rw [Go.Proofs.YtekjffooblcmnaaX.isEmpty_eq]; rw [c16b0]) | skip)
                              by_cases c17 : 0 ≤ x7_4
                              · rw [if_pos c17] at H
                                have c17b0 : decide (0 ≤ x7_4) = true := decide_eq_true c17
                                clear c17
                                have H' := Aside0.mk H
                                clear H
                                have p18 : 0 ≤ (x7_4 : Int) := of_decide_eq_true (by first | (with_reducible assumption) | assumption)
                                have q18 : x7_4 < (a0.size : Int) := of_decide_eq_true (by first | (with_reducible assumption) | assumption)
                                have hx18 := bt_at a0 x7_4
                                replace p18 := eq_true p18
                                replace q18 := eq_true q18
                                go_wp2
                                go_meet
                                case rel => exact ⟨_, (((bt a0 x7_4) != 47)), (by first | rfl | (simp; done) | (simp [*]; done) | (simp [Go.Proofs.YtekjffooblcmnaaX.isEmpty_ne]; done)), H', ⟨by have := HJ1.out; have := HK2.out; have := HJ9.out; have := HK4.out; first | omega | exact Nat.le_refl _⟩, ⟨by (with_reducible repeat (first | apply Kd.R_alloc | apply Kd.R_drewN | apply Kd.R_drew)); exact HO_4.out⟩, ⟨by repeat (first | (with_reducible first | exact HB.out | apply below_alloc | apply pw_below_drewN | apply below_drew1) | exact HB.out)⟩⟩
                              · rw [if_neg c17] at H
                                exact absurd H (by simp)
                            · rw [if_neg c16] at H
                              have c16b0 : decide (x7_4 < (a0.size : Int)) = false := decide_eq_false c16
                              clear c16
                              (first | rw [c16b0] | (simp only [i64_w, i32_w]; rw [c16b0]) | (rw [Go.Proofs.YtekjffooblcmnaaX.isEmpty_eq]; rw [c16b0]) | skip)
                              have H' := Aside0.mk H
                              clear H
                              go_wp2
                              go_meet
                              case rel => exact ⟨_, (false), (by first | rfl | (simp; done) | (simp [*]; done) | (simp [Go.Proofs.YtekjffooblcmnaaX.isEmpty_ne]; done)), H', ⟨by have := HJ1.out; have := HK2.out; have := HJ9.out; have := HK4.out; first | omega | exact Nat.le_refl _⟩, ⟨by (with_reducible repeat (first | apply Kd.R_alloc | apply Kd.R_drewN | apply Kd.R_drew)); exact HO_4.out⟩, ⟨by repeat (first | (with_reducible first | exact HB.out | apply below_alloc | apply pw_below_drewN | apply below_drew1) | exact HB.out)⟩⟩
                          case rest =>
                            clear HC15
                            try clear c1
                            try clear p1
                            try clear q1
                            try clear hx1
                            try clear p2
                            try clear c3
                            try clear c3b0
                            try clear c3b1
                            try clear c4
                            try clear c4b0
                            try clear c4b1
                            try clear p5
                            try clear q5
                            try clear hx5
                            try clear qi5
                            try clear c6
                            try clear p6
                            try clear c7
                            try clear c7b0
                            try clear c8
                            try clear c8b0
                            try clear p9
                            try clear q9
                            try clear hx9
                            try clear c11
                            try clear c11b0
                            try clear c11b1
                            try clear c12
                            try clear c13
                            try clear c16
                            try clear c16b0
                            try clear c17
                            try clear c17b0
                            try clear p18
                            try clear q18
                            try clear hx18
                            try clear p18
                            try clear p2
                            try clear p5
                            try clear p6
                            try clear p9
                            try clear q18
                            try clear q5
                            try clear q9
                            obtain ⟨kq, x47_14, rfl, HA, HJ14, HO_4, HB⟩ := hcut
                            cases kq with
                            | zero => exact absurd HA.out (by simp [spec_pieces.j4])
                            | succ kj14 =>
                              have H := HA.out
                              clear HA
                              simp only [spec_pieces.j4] at H
                              by_cases c19 : x47_14 = true
                              · subst c19
                                have H1 : (if (bt a0 x5_2) = 42 then (if 0 ≤ x7_4 then (if x7_4 < (a0.size : Int) then (spec_pieces.j5 kj14 a0 x4_2 x5_2 (bt a0 x5_2) x7_4 ((bt a0 x7_4) == 58)) else (none)) else (none)) else (spec_pieces.j5 kj14 a0 x4_2 x5_2 (bt a0 x5_2) x7_4 false)) = some (r1, r2) := by rw [if_pos rfl] at H; exact H
                                clear H
                                have H := H1
                                clear H1
                                have HC20 := Aside0.mk H
                                clear H
                                go_upto_region 12 with (fail)
                                go_cut [55] (fun v55 wc => ∃ (kq : Nat) (x55_19 : Bool), v55 = .bool x55_19 ∧ Aside0 (spec_pieces.j5 kq a0 x4_2 x5_2 (bt a0 x5_2) x7_4 x55_19 = some (r1, r2)) ∧ Aside0 (kq ≤ kj14) ∧ Aside0 (Kd.R k44 44 wc w.heap.size (fun _ => True) u4 x4_2) ∧ Aside0 (Below w.heap.size w wc))
                                case first =>
                                  have H := HC20.out
                                  clear HC20
                                  by_cases c21 : (bt a0 x5_2) = 42
                                  · rw [if_pos c21] at H
                                    have c21b0 : ((bt a0 x5_2) == 42) = true := beq_iff_eq.mpr c21
                                    have c21b1 : ((bt a0 x5_2) != 42) = false := bne_eq_false_iff_eq.mpr c21
                                    clear c21
                                    (first | rw [c21b0] | (simp only [i64_w, i32_w]; rw [c21b0]) | (rw [Go.Proofs.YtekjffooblcmnaaX.isEmpty_eq]; rw [c21b0]) | skip)
                                    by_cases c22 : 0 ≤ x7_4
                                    · rw [if_pos c22] at H
                                      have c22b0 : decide (0 ≤ x7_4) = true := decide_eq_true c22
                                      clear c22
                                      by_cases c23 : x7_4 < (a0.size : Int)
                                      · rw [if_pos c23] at H
                                        have c23b0 : decide (x7_4 < (a0.size : Int)) = true := decide_eq_true c23
                                        clear c23
                                        have H' := Aside0.mk H
                                        clear H
                                        have p24 : 0 ≤ (x7_4 : Int) := of_decide_eq_true (by first | (with_reducible assumption) | assumption)
                                        have q24 : x7_4 < (a0.size : Int) := of_decide_eq_true (by first | (with_reducible assumption) | assumption)
                                        have hx24 := bt_at a0 x7_4
                                        replace p24 := eq_true p24
                                        replace q24 := eq_true q24
                                        go_wp2
                                        go_meet
                                        case rel => exact ⟨_, (((bt a0 x7_4) == 58)), (by first | rfl | (simp; done) | (simp [*]; done) | (simp [Go.Proofs.YtekjffooblcmnaaX.isEmpty_ne]; done)), H', ⟨by have := HJ1.out; have := HK2.out; have := HJ9.out; have := HK4.out; have := HJ14.out; first | omega | exact Nat.le_refl _⟩, ⟨by (with_reducible repeat (first | apply Kd.R_alloc | apply Kd.R_drewN | apply Kd.R_drew)); exact HO_4.out⟩, ⟨by repeat (first | (with_reducible first | exact HB.out | apply below_alloc | apply pw_below_drewN | apply below_drew1) | exact HB.out)⟩⟩
                                      · rw [if_neg c23] at H
                                        exact absurd H (by simp)
                                    · rw [if_neg c22] at H
                                      exact absurd H (by simp)
                                  · rw [if_neg c21] at H
                                    have c21b0 : ((bt a0 x5_2) == 42) = false := beq_eq_false_iff_ne.mpr c21
                                    have c21b1 : ((bt a0 x5_2) != 42) = true := bne_iff_ne.mpr c21
                                    (first | rw [c21b0] | (simp only [i64_w, i32_w]; rw [c21b0]) | (rw [Go.Proofs.YtekjffooblcmnaaX.isEmpty_eq]; rw [c21b0]) | skip)
                                    have H' := Aside0.mk H
                                    clear H
                                    go_wp2
                                    go_meet
                                    case rel => exact ⟨_, (false), (by first | rfl | (simp; done) | (simp [*]; done) | (simp [Go.Proofs.YtekjffooblcmnaaX.isEmpty_ne]; done)), H', ⟨by have := HJ1.out; have := HK2.out; have := HJ9.out; have := HK4.out; have := HJ14.out; first | omega | exact Nat.le_refl _⟩, ⟨by (with_reducible repeat (first | apply Kd.R_alloc | apply Kd.R_drewN | apply Kd.R_drew)); exact HO_4.out⟩, ⟨by repeat (first | (with_reducible first | exact HB.out | apply below_alloc | apply pw_below_drewN | apply below_drew1) | exact HB.out)⟩⟩
                                case rest =>
                                  clear HC20
                                  try clear c1
                                  try clear p1
                                  try clear q1
                                  try clear hx1
                                  try clear c2
                                  try clear p2
                                  try clear q2
                                  try clear hx2
                                  try clear c3
                                  try clear c3b0
                                  try clear c3b1
                                  try clear c4
                                  try clear c4b0
                                  try clear c4b1
                                  try clear p5
                                  try clear q5
                                  try clear hx5
                                  try clear qi5
                                  try clear c6
                                  try clear p6
                                  try clear c7
                                  try clear c7b0
                                  try clear c8
                                  try clear c8b0
                                  try clear p9
                                  try clear q9
                                  try clear hx9
                                  try clear c11
                                  try clear c11b0
                                  try clear c11b1
                                  try clear c12
                                  try clear c13
                                  try clear c16
                                  try clear c16b0
                                  try clear c17
                                  try clear c17b0
                                  try clear p18
                                  try clear q18
                                  try clear hx18
                                  try clear c19
                                  try clear c21
                                  try clear c21b0
                                  try clear c21b1
                                  try clear c22
                                  try clear c22b0
                                  try clear c23
                                  try clear c23b0
                                  try clear p24
                                  try clear q24
                                  try clear hx24
                                  try clear p1
                                  try clear p18
                                  try clear p2
                                  try clear p24
                                  try clear p5
                                  try clear p6
                                  try clear p9
                                  try clear q1
                                  try clear q18
                                  try clear q24
                                  try clear q5
                                  try clear q9
                                  obtain ⟨kq, x55_19, rfl, HA, HJ19, HO_4, HB⟩ := hcut
                                  cases kq with
                                  | zero => exact absurd HA.out (by simp [spec_pieces.j5])
                                  | succ kj19 =>
                                    have H := HA.out
                                    clear HA
                                    simp only [spec_pieces.j5] at H
                                    by_cases c25 : x55_19 = true
                                    · subst c25
                                      have H1 : (some (([] : List (S44)), 2)) = some (r1, r2) := by rw [if_pos rfl] at H; exact H
                                      clear H
                                      have H := H1
                                      clear H1
                                      simp only [Option.some.injEq, Prod.mk.injEq] at H
                                      obtain ⟨rfl, rfl⟩ := H
                                      go_wp2
                                      go_ret2
                                      exact ⟨_, by first | rfl | (simp [errW_none, errW_some] <;> rfl) | (simp [*, errW_none, errW_some] <;> rfl), by first | exact Kd.R_nil _ _ _ _ _ | exact Kd.N_nil _ _ _ _ _ | exact Kd.V_nil _ _ _ _ _ | exact Kd.Q_nil _ _ _ _ _ | exact Kd.S_nil _ _ _ _ _, by repeat (first | (with_reducible first | exact HB.out | apply below_alloc | apply pw_below_drewN | apply below_drew1) | exact HB.out)⟩
                                    · replace c25 := Bool.eq_false_iff.mpr c25
                                      subst c25
                                      have H1 : (if 0 ≤ x7_4 then (if x7_4 < (a0.size : Int) then (if (bt a0 x7_4) = 58 then (some (([] : List (S44)), 0)) else (if (bt a0 x7_4) = 42 then (some (([] : List (S44)), 0)) else (spec_pieces.l1 kj19 a0 x4_2 x5_2 (bt a0 x5_2) (wrap64 (x7_4 + 1))))) else (none)) else (none)) = some (r1, r2) := by rw [if_neg (show ¬ (false = true) by decide)] at H; exact H
                                      clear H
                                      have H := H1
                                      clear H1
                                      by_cases c26 : 0 ≤ x7_4
                                      · rw [if_pos c26] at H
                                        have c26b0 : decide (0 ≤ x7_4) = true := decide_eq_true c26
                                        clear c26
                                        by_cases c27 : x7_4 < (a0.size : Int)
                                        · rw [if_pos c27] at H
                                          have c27b0 : decide (x7_4 < (a0.size : Int)) = true := decide_eq_true c27
                                          clear c27
                                          by_cases c29 : (bt a0 x7_4) = 58
                                          · rw [if_pos c29] at H
                                            have c29b0 : ((bt a0 x7_4) == 58) = true := beq_iff_eq.mpr c29
                                            have c29b1 : ((bt a0 x7_4) != 58) = false := bne_eq_false_iff_eq.mpr c29
                                            clear c29
                                            simp only [Option.some.injEq, Prod.mk.injEq] at H
                                            obtain ⟨rfl, rfl⟩ := H
                                            have p28 : 0 ≤ (x7_4 : Int) := of_decide_eq_true (by first | (with_reducible assumption) | assumption)
                                            have q28 : x7_4 < (a0.size : Int) := of_decide_eq_true (by first | (with_reducible assumption) | assumption)
                                            have hx28 := bt_at a0 x7_4
                                            replace p28 := eq_true p28
                                            replace q28 := eq_true q28
                                            go_wp2
                                            go_ret2
                                            exact ⟨_, by first | rfl | (simp [errW_none, errW_some] <;> rfl) | (simp [*, errW_none, errW_some] <;> rfl), by first | exact Kd.R_nil _ _ _ _ _ | exact Kd.N_nil _ _ _ _ _ | exact Kd.V_nil _ _ _ _ _ | exact Kd.Q_nil _ _ _ _ _ | exact Kd.S_nil _ _ _ _ _, by repeat (first | (with_reducible first | exact HB.out | apply below_alloc | apply pw_below_drewN | apply below_drew1) | exact HB.out)⟩
                                          · rw [if_neg c29] at H
                                            have c29b0 : ((bt a0 x7_4) == 58) = false := beq_eq_false_iff_ne.mpr c29
                                            have c29b1 : ((bt a0 x7_4) != 58) = true := bne_iff_ne.mpr c29
                                            by_cases c31 : (bt a0 x7_4) = 42
                                            · rw [if_pos c31] at H
                                              have c31b0 : ((bt a0 x7_4) == 42) = true := beq_iff_eq.mpr c31
                                              have c31b1 : ((bt a0 x7_4) != 42) = false := bne_eq_false_iff_eq.mpr c31
                                              clear c31
                                              simp only [Option.some.injEq, Prod.mk.injEq] at H
                                              obtain ⟨rfl, rfl⟩ := H
                                              have p28 : 0 ≤ (x7_4 : Int) := of_decide_eq_true (by first | (with_reducible assumption) | assumption)
                                              have q28 : x7_4 < (a0.size : Int) := of_decide_eq_true (by first | (with_reducible assumption) | assumption)
                                              have hx28 := bt_at a0 x7_4
                                              replace p28 := eq_true p28
                                              replace q28 := eq_true q28
                                              have p30 : 0 ≤ (x7_4 : Int) := of_decide_eq_true (by first | (with_reducible assumption) | assumption)
                                              have q30 : x7_4 < (a0.size : Int) := of_decide_eq_true (by first | (with_reducible assumption) | assumption)
                                              have hx30 := bt_at a0 x7_4
                                              replace p30 := eq_true p30
                                              replace q30 := eq_true q30
                                              go_wp2
                                              go_ret2
                                              exact ⟨_, by first | rfl | (simp [errW_none, errW_some] <;> rfl) | (simp [*, errW_none, errW_some] <;> rfl), by first | exact Kd.R_nil _ _ _ _ _ | exact Kd.N_nil _ _ _ _ _ | exact Kd.V_nil _ _ _ _ _ | exact Kd.Q_nil _ _ _ _ _ | exact Kd.S_nil _ _ _ _ _, by repeat (first | (with_reducible first | exact HB.out | apply below_alloc | apply pw_below_drewN | apply below_drew1) | exact HB.out)⟩
                                            · rw [if_neg c31] at H
                                              have c31b0 : ((bt a0 x7_4) == 42) = false := beq_eq_false_iff_ne.mpr c31
                                              have c31b1 : ((bt a0 x7_4) != 42) = true := bne_iff_ne.mpr c31
                                              have H' := Aside0.mk H
                                              clear H
                                              have p28 : 0 ≤ (x7_4 : Int) := of_decide_eq_true (by first | (with_reducible assumption) | assumption)
                                              have q28 : x7_4 < (a0.size : Int) := of_decide_eq_true (by first | (with_reducible assumption) | assumption)
                                              have hx28 := bt_at a0 x7_4
                                              replace p28 := eq_true p28
                                              replace q28 := eq_true q28
                                              have p30 : 0 ≤ (x7_4 : Int) := of_decide_eq_true (by first | (with_reducible assumption) | assumption)
                                              have q30 : x7_4 < (a0.size : Int) := of_decide_eq_true (by first | (with_reducible assumption) | assumption)
                                              have hx30 := bt_at a0 x7_4
                                              replace p30 := eq_true p30
                                              replace q30 := eq_true q30
                                              go_wp2
                                              go_roundg kj19
                                              case measure => have := HJ1.out; have := HK2.out; have := HJ9.out; have := HK4.out; have := HJ14.out; have := HJ19.out; omega
                                              case rel => exact ⟨(wrap64 (x7_4 + 1)), (by first | rfl | (simp; done) | (simp [*]; done) | (simp [Go.Proofs.YtekjffooblcmnaaX.isEmpty_ne]; done)), H', ⟨by have := HJ1.out; have := HK2.out; have := HJ9.out; have := HK4.out; have := HJ14.out; have := HJ19.out; omega⟩, ⟨by (with_reducible repeat (first | apply Kd.R_alloc | apply Kd.R_drewN | apply Kd.R_drew)); exact HO_4.out⟩, ⟨by repeat (first | (with_reducible first | exact HB.out | apply below_alloc | apply pw_below_drewN | apply below_drew1) | exact HB.out)⟩⟩
                                        · rw [if_neg c27] at H
                                          exact absurd H (by simp)
                                      · rw [if_neg c26] at H
                                        exact absurd H (by simp)
                              · replace c19 := Bool.eq_false_iff.mpr c19
                                subst c19
                                have H1 : (if x7_4 = (wrap64 (x5_2 + 1)) then (some (([] : List (S44)), 0)) else (if (bt a0 x5_2) = 42 then (if x7_4 < (a0.size : Int) then (spec_pieces.j6 kj14 a0 x4_2 x5_2 (bt a0 x5_2) x7_4 true) else (if 0 ≤ (wrap64 (x5_2 - 1)) then (if (wrap64 (x5_2 - 1)) < (a0.size : Int) then (spec_pieces.j6 kj14 a0 x4_2 x5_2 (bt a0 x5_2) x7_4 ((bt a0 (wrap64 (x5_2 - 1))) != 47)) else (none)) else (none))) else (spec_pieces.j6 kj14 a0 x4_2 x5_2 (bt a0 x5_2) x7_4 false))) = some (r1, r2) := by rw [if_neg (show ¬ (false = true) by decide)] at H; exact H
                                clear H
                                have H := H1
                                clear H1
                                by_cases c32 : x7_4 = (wrap64 (x5_2 + 1))
                                · rw [if_pos c32] at H
                                  have c32b0 : (x7_4 == (wrap64 (x5_2 + 1))) = true := beq_iff_eq.mpr c32
                                  have c32b1 : (x7_4 != (wrap64 (x5_2 + 1))) = false := bne_eq_false_iff_eq.mpr c32
                                  clear c32
                                  simp only [Option.some.injEq, Prod.mk.injEq] at H
                                  obtain ⟨rfl, rfl⟩ := H
                                  go_wp2
                                  go_ret2
                                  exact ⟨_, by first | rfl | (simp [errW_none, errW_some] <;> rfl) | (simp [*, errW_none, errW_some] <;> rfl), by first | exact Kd.R_nil _ _ _ _ _ | exact Kd.N_nil _ _ _ _ _ | exact Kd.V_nil _ _ _ _ _ | exact Kd.Q_nil _ _ _ _ _ | exact Kd.S_nil _ _ _ _ _, by repeat (first | (with_reducible first | exact HB.out | apply below_alloc | apply pw_below_drewN | apply below_drew1) | exact HB.out)⟩
                                · rw [if_neg c32] at H
                                  have c32b0 : (x7_4 == (wrap64 (x5_2 + 1))) = false := beq_eq_false_iff_ne.mpr c32
                                  have c32b1 : (x7_4 != (wrap64 (x5_2 + 1))) = true := bne_iff_ne.mpr c32
                                  have HC33 := Aside0.mk H
                                  clear H
                                  go_upto_region 19 with (fail)
                                  go_cut [86] (fun v86 wc => ∃ (kq : Nat) (x86_32 : Bool), v86 = .bool x86_32 ∧ Aside0 (spec_pieces.j6 kq a0 x4_2 x5_2 (bt a0 x5_2) x7_4 x86_32 = some (r1, r2)) ∧ Aside0 (kq ≤ kj14) ∧ Aside0 (Kd.R k44 44 wc w.heap.size (fun _ => True) u4 x4_2) ∧ Aside0 (Below w.heap.size w wc))
                                  case first =>
                                    have H := HC33.out
                                    clear HC33
                                    by_cases c34 : (bt a0 x5_2) = 42
                                    · rw [if_pos c34] at H
                                      have c34b0 : ((bt a0 x5_2) == 42) = true := beq_iff_eq.mpr c34
                                      have c34b1 : ((bt a0 x5_2) != 42) = false := bne_eq_false_iff_eq.mpr c34
                                      clear c34
                                      (first | rw [c34b0] | (simp only [i64_w, i32_w]; rw [c34b0]) | (rw [Go.Proofs.YtekjffooblcmnaaX.isEmpty_eq]; rw [c34b0]) | skip)
                                      by_cases c35 : x7_4 < (a0.size : Int)
                                      · rw [if_pos c35] at H
                                        have c35b0 : decide (x7_4 < (a0.size : Int)) = true := decide_eq_true c35
                                        clear c35
                                        have H' := Aside0.mk H
                                        clear H
                                        go_wp2
                                        go_meet
                                        case rel => exact ⟨_, (true), (by first | rfl | (simp; done) | (simp [*]; done) | (simp [Go.Proofs.YtekjffooblcmnaaX.isEmpty_ne]; done)), H', ⟨by have := HJ1.out; have := HK2.out; have := HJ9.out; have := HK4.out; have := HJ14.out; first | omega | exact Nat.le_refl _⟩, ⟨by (with_reducible repeat (first | apply Kd.R_alloc | apply Kd.R_drewN | apply Kd.R_drew)); exact HO_4.out⟩, ⟨by repeat (first | (with_reducible first | exact HB.out | apply below_alloc | apply pw_below_drewN | apply below_drew1) | exact HB.out)⟩⟩
                                      · rw [if_neg c35] at H
                                        have c35b0 : decide (x7_4 < (a0.size : Int)) = false := decide_eq_false c35
                                        clear c35
                                        obtain ⟨ji36, hji36⟩ : ∃ j_ : Int, (wrap64 (x5_2 - 1)) = j_ := ⟨_, rfl⟩
                                        replace H : (if 0 ≤ (ji36) then (if (ji36) < (a0.size : Int) then (spec_pieces.j6 kj14 a0 x4_2 x5_2 (bt a0 x5_2) x7_4 ((bt a0 (ji36)) != 47)) else (none)) else (none)) = some (r1, r2) := by first | (rw [hji36] at H; exact H) | (simp only [hji36] at H ⊢; exact H)
                                        have hji36w : (IntKind.i64.wrap (x5_2 - 1)) = ji36 := (i64_w _).trans hji36
                                        by_cases c37 : 0 ≤ (ji36)
                                        · rw [if_pos c37] at H
                                          have c37b0 : decide (0 ≤ (ji36)) = true := decide_eq_true c37
                                          clear c37
                                          by_cases c38 : (ji36) < (a0.size : Int)
                                          · rw [if_pos c38] at H
                                            have c38b0 : decide ((ji36) < (a0.size : Int)) = true := decide_eq_true c38
                                            clear c38
                                            have H' := Aside0.mk H
                                            clear H
                                            have p39 : 0 ≤ ((ji36) : Int) := of_decide_eq_true (by first | (with_reducible assumption) | assumption)
                                            have q39 : (ji36) < (a0.size : Int) := of_decide_eq_true (by first | (with_reducible assumption) | assumption)
                                            have hx39 := bt_at a0 (ji36)
                                            replace p39 := eq_true p39
                                            replace q39 := eq_true q39
                                            go_wp2
                                            go_meet
                                            case rel => exact ⟨_, (((bt a0 (ji36)) != 47)), (by first | rfl | (simp; done) | (simp only [← hji36] <;> (first | rfl | simp)) | (simp [*]; done) | (simp [Go.Proofs.YtekjffooblcmnaaX.isEmpty_ne]; done)), H', ⟨by have := HJ1.out; have := HK2.out; have := HJ9.out; have := HK4.out; have := HJ14.out; first | omega | exact Nat.le_refl _⟩, ⟨by (with_reducible repeat (first | apply Kd.R_alloc | apply Kd.R_drewN | apply Kd.R_drew)); exact HO_4.out⟩, ⟨by repeat (first | (with_reducible first | exact HB.out | apply below_alloc | apply pw_below_drewN | apply below_drew1) | exact HB.out)⟩⟩
                                          · rw [if_neg c38] at H
                                            exact absurd H (by simp)
                                        · rw [if_neg c37] at H
                                          exact absurd H (by simp)
                                    · rw [if_neg c34] at H
                                      have c34b0 : ((bt a0 x5_2) == 42) = false := beq_eq_false_iff_ne.mpr c34
                                      have c34b1 : ((bt a0 x5_2) != 42) = true := bne_iff_ne.mpr c34
                                      (first | rw [c34b0] | (simp only [i64_w, i32_w]; rw [c34b0]) | (rw [Go.Proofs.YtekjffooblcmnaaX.isEmpty_eq]; rw [c34b0]) | skip)
                                      have H' := Aside0.mk H
                                      clear H
                                      go_wp2
                                      go_meet
                                      case rel => exact ⟨_, (false), (by first | rfl | (simp; done) | (simp [*]; done) | (simp [Go.Proofs.YtekjffooblcmnaaX.isEmpty_ne]; done)), H', ⟨by have := HJ1.out; have := HK2.out; have := HJ9.out; have := HK4.out; have := HJ14.out; first | omega | exact Nat.le_refl _⟩, ⟨by (with_reducible repeat (first | apply Kd.R_alloc | apply Kd.R_drewN | apply Kd.R_drew)); exact HO_4.out⟩, ⟨by repeat (first | (with_reducible first | exact HB.out | apply below_alloc | apply pw_below_drewN | apply below_drew1) | exact HB.out)⟩⟩
                                  case rest =>
                                    clear HC33
                                    try clear c1
                                    try clear p1
                                    try clear q1
                                    try clear hx1
                                    try clear c2
                                    try clear p2
                                    try clear q2
                                    try clear hx2
                                    try clear c3
                                    try clear c3b0
                                    try clear c3b1
                                    try clear p3
                                    try clear q3
                                    try clear hx3
                                    try clear c4
                                    try clear c4b0
                                    try clear c4b1
                                    try clear p5
                                    try clear q5
                                    try clear hx5
                                    try clear qi5
                                    try clear c6
                                    try clear p6
                                    try clear c7
                                    try clear c7b0
                                    try clear c8
                                    try clear c8b0
                                    try clear p9
                                    try clear q9
                                    try clear hx9
                                    try clear c11
                                    try clear c11b0
                                    try clear c11b1
                                    try clear c12
                                    try clear c13
                                    try clear c16
                                    try clear c16b0
                                    try clear c17
                                    try clear c17b0
                                    try clear p18
                                    try clear q18
                                    try clear hx18
                                    try clear c19
                                    try clear c21
                                    try clear c21b0
                                    try clear c21b1
                                    try clear c22
                                    try clear c22b0
                                    try clear c23
                                    try clear c23b0
                                    try clear p24
                                    try clear q24
                                    try clear hx24
                                    try clear c25
                                    try clear c26
                                    try clear c26b0
                                    try clear c27
                                    try clear c27b0
                                    try clear p28
                                    try clear q28
                                    try clear hx28
                                    try clear c29
                                    try clear c29b0
                                    try clear c29b1
                                    try clear p30
                                    try clear q30
                                    try clear hx30
                                    try clear c31
                                    try clear c31b0
                                    try clear c31b1
                                    try clear c32
                                    try clear c32b0
                                    try clear c32b1
                                    try clear c34
                                    try clear c34b0
                                    try clear c34b1
                                    try clear c35
                                    try clear c35b0
                                    try clear c37
                                    try clear c37b0
                                    try clear c38
                                    try clear c38b0
                                    try clear p39
                                    try clear q39
                                    try clear hx39
                                    try clear p1
                                    try clear p18
                                    try clear p2
                                    try clear p24
                                    try clear p28
                                    try clear p30
                                    try clear p39
                                    try clear p5
                                    try clear p6
                                    try clear p9
                                    try clear q1
                                    try clear q18
                                    try clear q2
                                    try clear q24
                                    try clear q28
                                    try clear q30
                                    try clear q39
                                    try clear q5
                                    try clear q9
                                    obtain ⟨kq, x86_32, rfl, HA, HJ32, HO_4, HB⟩ := hcut
                                    cases kq with
                                    | zero => exact absurd HA.out (by simp [spec_pieces.j6])
                                    | succ kj32 =>
                                      have H := HA.out
                                      clear HA
                                      simp only [spec_pieces.j6] at H
                                      by_cases c40 : x86_32 = true
                                      · subst c40
                                        have H1 : (some (([] : List (S44)), 0)) = some (r1, r2) := by rw [if_pos rfl] at H; exact H
                                        clear H
                                        have H := H1
                                        clear H1
                                        simp only [Option.some.injEq, Prod.mk.injEq] at H
                                        obtain ⟨rfl, rfl⟩ := H
                                        go_wp2
                                        go_ret2
                                        exact ⟨_, by first | rfl | (simp [errW_none, errW_some] <;> rfl) | (simp [*, errW_none, errW_some] <;> rfl), by first | exact Kd.R_nil _ _ _ _ _ | exact Kd.N_nil _ _ _ _ _ | exact Kd.V_nil _ _ _ _ _ | exact Kd.Q_nil _ _ _ _ _ | exact Kd.S_nil _ _ _ _ _, by repeat (first | (with_reducible first | exact HB.out | apply below_alloc | apply pw_below_drewN | apply below_drew1) | exact HB.out)⟩
                                      · replace c40 := Bool.eq_false_iff.mpr c40
                                        subst c40
                                        have H1 : (if (bt a0 x5_2) = 42 then (if 0 ≤ (wrap64 (x5_2 + 1)) then (if (wrap64 (x5_2 + 1)) ≤ x7_4 then (if x7_4 ≤ (a0.size : Int) then (if x4_2.length < 4398046511104 then (spec_pieces.l0 kj32 a0 (x4_2 ++ [(⟨2, 0, a0.extract ((wrap64 (x5_2 + 1)) : Int).toNat (x7_4 : Int).toNat⟩ : S44)]) x7_4) else (none)) else (none)) else (none)) else (none)) else (if 0 ≤ (wrap64 (x5_2 + 1)) then (if (wrap64 (x5_2 + 1)) ≤ x7_4 then (if x7_4 ≤ (a0.size : Int) then (if x4_2.length < 4398046511104 then (spec_pieces.l0 kj32 a0 (x4_2 ++ [(⟨1, 0, a0.extract ((wrap64 (x5_2 + 1)) : Int).toNat (x7_4 : Int).toNat⟩ : S44)]) x7_4) else (none)) else (none)) else (none)) else (none))) = some (r1, r2) := by rw [if_neg (show ¬ (false = true) by decide)] at H; exact H
                                        clear H
                                        have H := H1
                                        clear H1
                                        by_cases c41 : (bt a0 x5_2) = 42
                                        · rw [if_pos c41] at H
                                          have c41b0 : ((bt a0 x5_2) == 42) = true := beq_iff_eq.mpr c41
                                          have c41b1 : ((bt a0 x5_2) != 42) = false := bne_eq_false_iff_eq.mpr c41
                                          clear c41
                                          obtain ⟨ji42, hji42⟩ : ∃ j_ : Int, (wrap64 (x5_2 + 1)) = j_ := ⟨_, rfl⟩
                                          replace H : (if 0 ≤ (ji42) then (if (ji42) ≤ x7_4 then (if x7_4 ≤ (a0.size : Int) then (if x4_2.length < 4398046511104 then (spec_pieces.l0 kj32 a0 (x4_2 ++ [(⟨2, 0, a0.extract ((ji42) : Int).toNat (x7_4 : Int).toNat⟩ : S44)]) x7_4) else (none)) else (none)) else (none)) else (none)) = some (r1, r2) := by first | (rw [hji42] at H; exact H) | (simp only [hji42] at H ⊢; exact H)
                                          (try rw [hji42] at c32b0)
                                          (try rw [hji42] at c32b1)
                                          have hji42w : (IntKind.i64.wrap (x5_2 + 1)) = ji42 := (i64_w _).trans hji42
                                          by_cases c43 : 0 ≤ (ji42)
                                          · rw [if_pos c43] at H
                                            have c43b0 := eq_true c43
                                            have c43b1 : decide (0 ≤ (ji42)) = true := decide_eq_true c43
                                            clear c43
                                            by_cases c44 : (ji42) ≤ x7_4
                                            · rw [if_pos c44] at H
                                              have c44b0 := eq_true c44
                                              have c44b1 : decide ((ji42) ≤ x7_4) = true := decide_eq_true c44
                                              clear c44
                                              by_cases c45 : x7_4 ≤ (a0.size : Int)
                                              · rw [if_pos c45] at H
                                                have c45b0 := eq_true c45
                                                have c45b1 : decide (x7_4 ≤ (a0.size : Int)) = true := decide_eq_true c45
                                                clear c45
                                                by_cases c46 : x4_2.length < 4398046511104
                                                · rw [if_pos c46] at H
                                                  have LMc46 := Aside0.mk c46
                                                  clear c46
                                                  obtain ⟨y135, hy135⟩ : ∃ y_ : List (S44), y_ = (x4_2 ++ [(⟨2, 0, a0.extract ((ji42) : Int).toNat (x7_4 : Int).toNat⟩ : S44)]) := ⟨_, rfl⟩
                                                  replace H : (spec_pieces.l0 kj32 a0 y135 x7_4) = some (r1, r2) := by first | (rw [hy135]; with_reducible exact H) | (have H2_ := (Option.bind_some _ _).symm.trans H; rw [hy135]; with_reducible exact H2_) | (have H2_ := (Option.bind_some _ _).symm.trans H; with_reducible exact H2_) | with_reducible exact H | (rw [hy135]; exact H) | exact H
                                                  have Ny135 := Aside0.mk hy135
                                                  clear hy135
                                                  have H' := Aside0.mk H
                                                  clear H
                                                  go_wp2_with (first | ((with_reducible refine gate_builtin (b := .append) (xs := #[.tmp 89, .tmp 97]) rfl ?_); (try (refine gate_guard (by rfl) ?_; dsimp only)); at_builtin; refine Kd.R_append k44 (w0 := w) w.heap.size rfl (.tmp 89) (.tmp 97) 37 44 (.agg #[(.int .i64 0), (.int .u8 0), (.string ⟨#[]⟩)]) 32 rfl Try.underlying37 info44 rfl (by decide) (by omega) u4 x4_2 (⟨2, 0, a0.extract ((ji42) : Int).toNat (x7_4 : Int).toNat⟩ : S44) [.int .i64 2, .int .u8 0, .string (a0.extract ((ji42) : Int).toNat (x7_4 : Int).toNat)] (fun _ => True) (fun _ => False) rfl rfl ?aP (fun _ hk => hk.elim) ?aF ?aO ?aB ?aS ?aL ?_; (case aP => exact k44_mkM _ _ _ (⟨2, 0, a0.extract ((ji42) : Int).toNat (x7_4 : Int).toNat⟩ : S44)); (case aB => exact (by repeat (first | (with_reducible first | exact HB.out | apply below_alloc | apply pw_below_drewN | apply below_drew1) | exact HB.out))); (case aF => exact (fun _ _ => trivial)); (case aO => exact (by (with_reducible repeat (first | apply Kd.R_alloc | apply Kd.R_drewN | apply Kd.R_drew)); exact HO_4.out)); (case aS => exact (below_size (by repeat (first | (with_reducible first | exact HB.out | apply below_alloc | apply pw_below_drewN | apply below_drew1) | exact HB.out)))); (case aL => have := LMc46.out; omega); intro v136 w47 ho hb hg hat; rw [← Ny135.out] at ho; have n0_ := Aside0.mk (hb); have n1_ := Aside0.mk (ho); clear HB; clear HO_4; have HB := n0_; have HO137 := n1_; clear n0_ n1_; clear ho hb hg hat))
                                                  go_roundg kj32
                                                  case measure => have := HJ1.out; have := HK2.out; have := HJ9.out; have := HK4.out; have := HJ14.out; have := HJ32.out; omega
                                                  case rel => exact ⟨(y135), (x7_4), (by first | rfl | (simp; done) | (simp [*]; done) | (simp [Go.Proofs.YtekjffooblcmnaaX.isEmpty_ne]; done)), H', ⟨by have := HJ1.out; have := HK2.out; have := HJ9.out; have := HK4.out; have := HJ14.out; have := HJ32.out; omega⟩, ⟨by (with_reducible repeat (first | apply Kd.R_alloc | apply Kd.R_drewN | apply Kd.R_drew)); exact HO137.out⟩, ⟨by repeat (first | (with_reducible first | exact HB.out | apply below_alloc | apply pw_below_drewN | apply below_drew1) | exact HB.out)⟩⟩
                                                · rw [if_neg c46] at H
                                                  exact absurd H (by simp)
                                              · rw [if_neg c45] at H
                                                exact absurd H (by simp)
                                            · rw [if_neg c44] at H
                                              exact absurd H (by simp)
                                          · rw [if_neg c43] at H
                                            exact absurd H (by simp)
                                        · rw [if_neg c41] at H
                                          have c41b0 : ((bt a0 x5_2) == 42) = false := beq_eq_false_iff_ne.mpr c41
                                          have c41b1 : ((bt a0 x5_2) != 42) = true := bne_iff_ne.mpr c41
                                          obtain ⟨ji48, hji48⟩ : ∃ j_ : Int, (wrap64 (x5_2 + 1)) = j_ := ⟨_, rfl⟩
                                          replace H : (if 0 ≤ (ji48) then (if (ji48) ≤ x7_4 then (if x7_4 ≤ (a0.size : Int) then (if x4_2.length < 4398046511104 then (spec_pieces.l0 kj32 a0 (x4_2 ++ [(⟨1, 0, a0.extract ((ji48) : Int).toNat (x7_4 : Int).toNat⟩ : S44)]) x7_4) else (none)) else (none)) else (none)) else (none)) = some (r1, r2) := by first | (rw [hji48] at H; exact H) | (simp only [hji48] at H ⊢; exact H)
                                          (try rw [hji48] at c32b0)
                                          (try rw [hji48] at c32b1)
                                          have hji48w : (IntKind.i64.wrap (x5_2 + 1)) = ji48 := (i64_w _).trans hji48
                                          by_cases c49 : 0 ≤ (ji48)
                                          · rw [if_pos c49] at H
                                            have c49b0 := eq_true c49
                                            have c49b1 : decide (0 ≤ (ji48)) = true := decide_eq_true c49
                                            clear c49
                                            by_cases c50 : (ji48) ≤ x7_4
                                            · rw [if_pos c50] at H
                                              have c50b0 := eq_true c50
                                              have c50b1 : decide ((ji48) ≤ x7_4) = true := decide_eq_true c50
                                              clear c50
                                              by_cases c51 : x7_4 ≤ (a0.size : Int)
                                              · rw [if_pos c51] at H
                                                have c51b0 := eq_true c51
                                                have c51b1 : decide (x7_4 ≤ (a0.size : Int)) = true := decide_eq_true c51
                                                clear c51
                                                by_cases c52 : x4_2.length < 4398046511104
                                                · rw [if_pos c52] at H
                                                  have LMc52 := Aside0.mk c52
                                                  clear c52
                                                  obtain ⟨y138, hy138⟩ : ∃ y_ : List (S44), y_ = (x4_2 ++ [(⟨1, 0, a0.extract ((ji48) : Int).toNat (x7_4 : Int).toNat⟩ : S44)]) := ⟨_, rfl⟩
                                                  replace H : (spec_pieces.l0 kj32 a0 y138 x7_4) = some (r1, r2) := by first | (rw [hy138]; with_reducible exact H) | (have H2_ := (Option.bind_some _ _).symm.trans H; rw [hy138]; with_reducible exact H2_) | (have H2_ := (Option.bind_some _ _).symm.trans H; with_reducible exact H2_) | with_reducible exact H | (rw [hy138]; exact H) | exact H
                                                  have Ny138 := Aside0.mk hy138
                                                  clear hy138
                                                  have H' := Aside0.mk H
                                                  clear H
                                                  go_wp2_with (first | ((with_reducible refine gate_builtin (b := .append) (xs := #[.tmp 89, .tmp 97]) rfl ?_); (try (refine gate_guard (by rfl) ?_; dsimp only)); at_builtin; refine Kd.R_append k44 (w0 := w) w.heap.size rfl (.tmp 89) (.tmp 97) 37 44 (.agg #[(.int .i64 0), (.int .u8 0), (.string ⟨#[]⟩)]) 32 rfl Try.underlying37 info44 rfl (by decide) (by omega) u4 x4_2 (⟨1, 0, a0.extract ((ji48) : Int).toNat (x7_4 : Int).toNat⟩ : S44) [.int .i64 1, .int .u8 0, .string (a0.extract ((ji48) : Int).toNat (x7_4 : Int).toNat)] (fun _ => True) (fun _ => False) rfl rfl ?aP (fun _ hk => hk.elim) ?aF ?aO ?aB ?aS ?aL ?_; (case aP => exact k44_mkM _ _ _ (⟨1, 0, a0.extract ((ji48) : Int).toNat (x7_4 : Int).toNat⟩ : S44)); (case aB => exact (by repeat (first | (with_reducible first | exact HB.out | apply below_alloc | apply pw_below_drewN | apply below_drew1) | exact HB.out))); (case aF => exact (fun _ _ => trivial)); (case aO => exact (by (with_reducible repeat (first | apply Kd.R_alloc | apply Kd.R_drewN | apply Kd.R_drew)); exact HO_4.out)); (case aS => exact (below_size (by repeat (first | (with_reducible first | exact HB.out | apply below_alloc | apply pw_below_drewN | apply below_drew1) | exact HB.out)))); (case aL => have := LMc52.out; omega); intro v139 w53 ho hb hg hat; rw [← Ny138.out] at ho; have n0_ := Aside0.mk (hb); have n1_ := Aside0.mk (ho); clear HB; clear HO_4; have HB := n0_; have HO140 := n1_; clear n0_ n1_; clear ho hb hg hat))
                                                  go_roundg kj32
                                                  case measure => have := HJ1.out; have := HK2.out; have := HJ9.out; have := HK4.out; have := HJ14.out; have := HJ32.out; omega
                                                  case rel => exact ⟨(y138), (x7_4), (by first | rfl | (simp; done) | (simp [*]; done) | (simp [Go.Proofs.YtekjffooblcmnaaX.isEmpty_ne]; done)), H', ⟨by have := HJ1.out; have := HK2.out; have := HJ9.out; have := HK4.out; have := HJ14.out; have := HJ32.out; omega⟩, ⟨by (with_reducible repeat (first | apply Kd.R_alloc | apply Kd.R_drewN | apply Kd.R_drew)); exact HO140.out⟩, ⟨by repeat (first | (with_reducible first | exact HB.out | apply below_alloc | apply pw_below_drewN | apply below_drew1) | exact HB.out)⟩⟩
                                                · rw [if_neg c52] at H
                                                  exact absurd H (by simp)
                                              · rw [if_neg c51] at H
                                                exact absurd H (by simp)
                                            · rw [if_neg c50] at H
                                              exact absurd H (by simp)
                                          · rw [if_neg c49] at H
                                            exact absurd H (by simp)
              · rw [if_neg c8] at H
                exact absurd H (by simp)
            · rw [if_neg c7] at H
              have c7b0 : decide (x5_2 < (a0.size : Int)) = false := decide_eq_false c7
              clear c7
              simp only [Option.some.injEq, Prod.mk.injEq] at H
              obtain ⟨rfl, rfl⟩ := H
              go_wp2
              go_ret2
              exact ⟨_, by first | rfl | (simp [errW_none, errW_some] <;> rfl) | (simp [*, errW_none, errW_some] <;> rfl), by (with_reducible repeat (first | apply Kd.R_alloc | apply Kd.R_drewN | apply Kd.R_drew)); exact HO_4.out, by repeat (first | (with_reducible first | exact HB.out | apply below_alloc | apply pw_below_drewN | apply below_drew1) | exact HB.out)⟩
end Go.Proofs.Ytekjffooblcmnaa.Q
end
