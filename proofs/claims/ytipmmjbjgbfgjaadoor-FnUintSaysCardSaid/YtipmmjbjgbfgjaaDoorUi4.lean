/- A number's text, or none of one below 0 (the panic is recovered): impl.UintText. -/
import Derived.Test.YtipmmjbjgbfgjaaDoorUi2
import Derived.Test.YtipmmjbjgbfgjaaDoorUi3
import Derived.Defers
import Derived.Recover
import Derived.Laws.Pointers
namespace Go.Proofs.YtipmmjbjgbfgjaaDoor.Q
open Go.RowKit Go.Proofs.YtipmmjbjgbfgjaaDoorW.PrintWords Go.Proofs.YtipmmjbjgbfgjaaDoorW.PrintLast Go.Proofs.YtipmmjbjgbfgjaaDoorW.PrintMore
open Go.Proofs.YtipmmjbjgbfgjaaDoorKit (L size_L)
open Go.Proofs.YtipmmjbjgbfgjaaDoor.SpA (toI toI_length toI_append dec dec_pos dec_len isD_dig)
set_option linter.unusedVariables false
set_option linter.unusedSimpArgs false
set_option maxHeartbeats 8000000 in
theorem catch_panicking (g h : Nat) (s : ByteArray) (b : Bool) (u : TypeId) (pv : Value) (older : List PanicEntry) (w : World) (hp : w.cell? ⟨g, 0, none⟩ = some (.string s)) (hq : (w.setCell ⟨g, 0, none⟩ (.string ⟨#[]⟩)).cell? ⟨h, 0, none⟩ = some (.bool b)) (zp : w.frozen? ⟨g, 0, none⟩ = false) (zq : (w.setCell ⟨g, 0, none⟩ (.string ⟨#[]⟩)).frozen? ⟨h, 0, none⟩ = false) :
    CallsD Tryd.prog 16 #[.pointer (some ⟨g, 0, none⟩), .pointer (some ⟨h, 0, none⟩)] (.panicking ({ v := .iface u pv, recovered := false } :: older)) w fun e u' w' =>
      e = .returned (.tuple #[]) ∧ u' = .panicking ({ v := .iface u pv, recovered := true } :: older) ∧ w' = (w.setCell ⟨g, 0, none⟩ (.string ⟨#[]⟩)).setCell ⟨h, 0, none⟩ (.bool false) := by
  refine callsD_of_wpS Tryd.func16 rfl fun c₀ cs hu => ?_
  apply wpS_seq
  apply wpS_region
  simp [wpOpsS, go_sem, recoverD, hu, Tryd.ntmps16, Exit.thenS]
  refine wpS_cond (t := true) (by simp [Act.eval, Array.replicate]) ?_
  simp only [if_true]
  apply wpS_region
  simp [wpOpsS, go_sem, hp, hq, zp, zq, bodyPostS, results, Tryd.results16]
theorem catch_idle (g h : Nat) (w : World) :
    CallsD Tryd.prog 16 #[.pointer (some ⟨g, 0, none⟩), .pointer (some ⟨h, 0, none⟩)] .returning w fun e u' w' => e = .returned (.tuple #[]) ∧ u' = .returning ∧ w' = w := by
  refine callsD_of_wpS Tryd.func16 rfl fun c₀ cs hu => ?_
  apply wpS_seq
  apply wpS_region
  simp [wpOpsS, go_sem, recoverD, hu, Tryd.ntmps16, Exit.thenS]
  refine wpS_cond (t := false) (by simp [Act.eval, Array.replicate]) ?_
  simp only [Bool.false_eq_true, if_false]
  refine wpS_of_wp (wp_skip ?_)
  cases c₀
  simp_all [bodyPostS, results, Tryd.results16]
set_option maxHeartbeats 8000000 in
set_option maxRecDepth 100000 in
theorem uintText_neg (n : Int) (w : World) (h : n < 0) : Calls Tryd.prog 6 #[.int .i64 n] w fun e w' => e = .returned (.tuple #[.string ⟨#[]⟩, .bool false]) ∧ Below w.heap.size w w' := by
  have hmf : ∀ (fn : Fn) (first cap : Array Value) (w : World), (Instr.makeFunc fn first cap).run Tryd.prog w = .ok (.func fn first cap) w := fun _ _ _ _ => rfl
  go_enter_defers Tryd.func6, Tryd.ntmps6
  go_wp2_with (fail)
  refine (appU_neg n _ h).mono ?_
  rintro e w1 ⟨⟨u, pv, rfl⟩, hb⟩
  have hb0 : Below w.heap.size w w1 := below_step (below_alloc (below_alloc (Below.refl _ _) _) _) hb
  have hz0 : w1.heap[w.heap.size]? = some (.cells #[.string ⟨#[]⟩] 9 (0, 0)) := by
    rw [hb.block w.heap.size (by simp; omega), Below.heap_alloc _ _ _ (by simp)]
    exact heap_alloc_new w _
  have hz1 : w1.heap[w.heap.size + 1]? = some (.cells #[.bool false] 4 (0, 0)) := by
    rw [hb.block (w.heap.size + 1) (by simp)]
    have := heap_alloc_new (w.alloc (.cells #[.string ⟨#[]⟩] 9)) (.cells #[.bool false] 4)
    simpa using this
  refine leaves_cons (f := 16) (args := #[.pointer (some ⟨w.heap.size, 0, none⟩), .pointer (some ⟨w.heap.size + 1, 0, none⟩)]) (by simp) (by simp [go_sem]) ?_
  have hx : (w1.setCell ⟨w.heap.size, 0, none⟩ (.string ⟨#[]⟩)).heap[w.heap.size + 1]? = some (.cells #[.bool false] 4 (0, 0)) := by
    rw [Below.heap_setCell _ _ _ _ (by show w.heap.size + 1 ≠ w.heap.size; omega)]; exact hz1
  refine (catch_panicking w.heap.size (w.heap.size + 1) ⟨#[]⟩ false u pv [] w1 ?_ ?_ ?_ ?_).mono ?_
  · unfold World.cell?; rw [hz0]; rfl
  · unfold World.cell?; rw [hx]; rfl
  · unfold World.frozen?; rw [hz0]; simp
  · unfold World.frozen?; rw [hx]; simp
  rintro e u' w'' ⟨rfl, rfl, rfl⟩
  have r0 : ((w1.setCell ⟨w.heap.size, 0, none⟩ (.string ⟨#[]⟩)).setCell ⟨w.heap.size + 1, 0, none⟩ (.bool false)).cell? ⟨w.heap.size, 0, none⟩ = some (.string ⟨#[]⟩) := by
    unfold World.cell?
    rw [Below.heap_setCell _ _ _ _ (by show w.heap.size ≠ w.heap.size + 1; omega)]
    simp only [World.setCell, Array.getElem?_modify, if_pos]
    rw [hz0]
    rfl
  have r1 : ((w1.setCell ⟨w.heap.size, 0, none⟩ (.string ⟨#[]⟩)).setCell ⟨w.heap.size + 1, 0, none⟩ (.bool false)).cell? ⟨w.heap.size + 1, 0, none⟩ = some (.bool false) := by
    unfold World.cell?
    generalize hW : w1.setCell ⟨w.heap.size, 0, none⟩ (.string ⟨#[]⟩) = W2 at hx ⊢
    simp only [World.setCell, Array.getElem?_modify, if_pos]
    rw [hx]
    rfl
  have hfin : Below w.heap.size w ((w1.setCell ⟨w.heap.size, 0, none⟩ (.string ⟨#[]⟩)).setCell ⟨w.heap.size + 1, 0, none⟩ (.bool false)) := (hb0.setCell (Nat.le_refl _) _).setCell (Nat.le_succ _) _
  generalize ((w1.setCell ⟨w.heap.size, 0, none⟩ (.string ⟨#[]⟩)).setCell ⟨w.heap.size + 1, 0, none⟩ (.bool false)) = W at r0 r1 hfin ⊢
  simp [Leaves, settle, results, Tryd.results6, go_sem, r0, r1]
  exact hfin
theorem strOf_toI (l : List UInt8) : strOfNums (toI l) = ⟨l.toArray⟩ := Go.Proofs.YtipmmjbjgbfgjaaDoorKit.ext (by rw [SpA.L_strOf])
theorem conv_RU {w : World} {base : Nat} {ok : Nat → Prop} {A : Option Addr} {n c : Nat} {l : List UInt8} (h : Kd.R (Kd.int .u8) 5 w base ok (.slice A n c) (toI l)) : (convert 43 9 (.slice A n c)).run Tryd.prog w = .ok (.string ⟨l.toArray⟩) w := by
  obtain ⟨hn, _, hc⟩ := Kd.R_reads' h
  have := Kd.C_string (P := Tryd.prog) (c := c) Tryd.underlying43 Tryd.underlying5 Tryd.underlying9 hc
  rw [← hn, strOf_toI] at this
  exact this
set_option maxHeartbeats 8000000 in
set_option maxRecDepth 100000 in
theorem uintText_pos (n : Nat) (w : World) (h : n ≤ 9223372036854775807) : Calls Tryd.prog 6 #[.int .i64 (n : Int)] w fun e w' => e = .returned (.tuple #[.string ⟨(dec n).toArray⟩, .bool true]) ∧ Below w.heap.size w w' := by
  have hmf : ∀ (fn : Fn) (first cap : Array Value) (w : World), (Instr.makeFunc fn first cap).run Tryd.prog w = .ok (.func fn first cap) w := fun _ _ _ _ => rfl
  go_enter_defers Tryd.func6, Tryd.ntmps6
  go_wp2_with (fail)
  refine (appU_calls (fun _ => True) (.slice none 0 0) [] n _ _ (Below.refl _ _) (Kd.R_nil _ _ _ _ _) h (by decide)).mono ?_
  rintro e w1 ⟨v, rfl, hr, hb, _⟩
  rw [List.nil_append] at hr
  obtain ⟨A, c, rfl⟩ := Kd.R_slice hr
  obtain ⟨m, hm⟩ : ∃ m, m = (toI (dec n)).length := ⟨_, rfl⟩
  rw [← hm] at hr ⊢
  have hcv := conv_RU hr
  have hb0 : Below w.heap.size w w1 := below_step (below_alloc (below_alloc (Below.refl _ _) _) _) hb
  have hz0 : w1.heap[w.heap.size]? = some (.cells #[.string ⟨#[]⟩] 9 (0, 0)) := by
    rw [hb.block w.heap.size (by simp; omega), Below.heap_alloc _ _ _ (by simp)]
    exact heap_alloc_new w _
  have hz1 : w1.heap[w.heap.size + 1]? = some (.cells #[.bool false] 4 (0, 0)) := by
    rw [hb.block (w.heap.size + 1) (by simp)]
    have := heap_alloc_new (w.alloc (.cells #[.string ⟨#[]⟩] 9)) (.cells #[.bool false] 4)
    simpa using this
  have c0 : w1.cell? ⟨w.heap.size, 0, none⟩ = some (.string ⟨#[]⟩) := by unfold World.cell?; rw [hz0]; rfl
  have c1 : w1.cell? ⟨w.heap.size + 1, 0, none⟩ = some (.bool false) := by unfold World.cell?; rw [hz1]; rfl
  have f0 : w1.frozen? ⟨w.heap.size, 0, none⟩ = false := by unfold World.frozen?; rw [hz0]; simp
  have f1 : w1.frozen? ⟨w.heap.size + 1, 0, none⟩ = false := by unfold World.frozen?; rw [hz1]; simp
  have HB0 := Aside0.mk hb0
  have HZ0 := Aside0.mk hz0
  have HZ1 := Aside0.mk hz1
  clear hr hb hm hb0 hz0 hz1 h
  go_wp2
  refine leaves_cons (f := 16) (args := #[.pointer (some ⟨w.heap.size, 0, none⟩), .pointer (some ⟨w.heap.size + 1, 0, none⟩)]) (by simp) (by simp [go_sem]) ?_
  refine (catch_idle w.heap.size (w.heap.size + 1) _).mono ?_
  rintro e u' w'' ⟨rfl, rfl, rfl⟩
  have hx : (w1.setCell ⟨w.heap.size, 0, none⟩ (.string ⟨(dec n).toArray⟩)).heap[w.heap.size + 1]? = some (.cells #[.bool false] 4 (0, 0)) := by
    rw [Below.heap_setCell _ _ _ _ (by show w.heap.size + 1 ≠ w.heap.size; omega)]; exact HZ1.out
  have r0 : ((w1.setCell ⟨w.heap.size, 0, none⟩ (.string ⟨(dec n).toArray⟩)).setCell ⟨w.heap.size + 1, 0, none⟩ (.bool true)).cell? ⟨w.heap.size, 0, none⟩ = some (.string ⟨(dec n).toArray⟩) := by
    unfold World.cell?
    rw [Below.heap_setCell _ _ _ _ (by show w.heap.size ≠ w.heap.size + 1; omega)]
    simp only [World.setCell, Array.getElem?_modify, if_pos]
    rw [HZ0.out]
    rfl
  have r1 : ((w1.setCell ⟨w.heap.size, 0, none⟩ (.string ⟨(dec n).toArray⟩)).setCell ⟨w.heap.size + 1, 0, none⟩ (.bool true)).cell? ⟨w.heap.size + 1, 0, none⟩ = some (.bool true) := by
    unfold World.cell?
    generalize hW : w1.setCell ⟨w.heap.size, 0, none⟩ (.string ⟨(dec n).toArray⟩) = W2 at hx ⊢
    simp only [World.setCell, Array.getElem?_modify, if_pos]
    rw [hx]
    rfl
  have hfin : Below w.heap.size w ((w1.setCell ⟨w.heap.size, 0, none⟩ (.string ⟨(dec n).toArray⟩)).setCell ⟨w.heap.size + 1, 0, none⟩ (.bool true)) := (HB0.out.setCell (Nat.le_refl _) _).setCell (Nat.le_succ _) _
  clear c0 c1 f0 f1 hcv
  generalize ((w1.setCell ⟨w.heap.size, 0, none⟩ (.string ⟨(dec n).toArray⟩)).setCell ⟨w.heap.size + 1, 0, none⟩ (.bool true)) = W at r0 r1 hfin ⊢
  simp [Leaves, settle, results, Tryd.results6, go_sem, r0, r1]
  exact hfin
end Go.Proofs.YtipmmjbjgbfgjaaDoor.Q
