/- What the row's condition tells of the four errors; the door's own heap meets it. -/
import Derived.Test.YtipmmjbjgbfgjaaDoorRows
import Derived.Test.YtipmmjbjgbfgjaaDoorUi2
import Derived.LaidLaws
import Derived.LaidMore
import Derived.OpenShut
import Derived.Stop.Joined
import Derived.Stop.ErrReads
namespace Go.Proofs.YtipmmjbjgbfgjaaDoor.Laid
open Go.ChangeShapes Go.WideShapes Go.RowKit
def laid4 : List (String × DataW Unit) := [("pub-bridlepath/pub/hertzconv.errEmptyInt", Rows.laid_pub_bridlepath_pub_hertzconv_errEmptyInt), ("pub-bridlepath/pub/hertzconv.errUnexpectedFirstChar", Rows.laid_pub_bridlepath_pub_hertzconv_errUnexpectedFirstChar), ("pub-bridlepath/pub/hertzconv.errUnexpectedTrailingChar", Rows.laid_pub_bridlepath_pub_hertzconv_errUnexpectedTrailingChar), ("pub-bridlepath/pub/hertzconv.errTooLongInt", Rows.laid_pub_bridlepath_pub_hertzconv_errTooLongInt)]
theorem g1 : Tryd.prog.globalNamed "pub-bridlepath/pub/hertzconv.errEmptyInt" = some 1 := by kernel_rfl
theorem g2 : Tryd.prog.globalNamed "pub-bridlepath/pub/hertzconv.errUnexpectedFirstChar" = some 2 := by kernel_rfl
theorem g0 : Tryd.prog.globalNamed "pub-bridlepath/pub/hertzconv.errUnexpectedTrailingChar" = some 0 := by kernel_rfl
theorem g3 : Tryd.prog.globalNamed "pub-bridlepath/pub/hertzconv.errTooLongInt" = some 3 := by kernel_rfl
theorem ty (k : Nat) (h : k < 4) : (Tryd.prog.globals[k]?).map (·.type) = some 40 := by
  rcases (by omega : k = 0 ∨ k = 1 ∨ k = 2 ∨ k = 3) with rfl | rfl | rfl | rfl <;> kernel_rfl
theorem star : "*" ++ "errors.errorString" = "*errors.errorString" := by decide
theorem cells_e : Tryd.prog.cellsOf 74 = 1 := by kernel_rfl
theorem cells_s : Tryd.prog.cellsOf 9 = 1 := by kernel_rfl
theorem row (u : TypeId) (h : Tryd.prog.typeName? 3 u = some "*errors.errorString") : u = 54 :=
  typeName_ptr_named (nm := "errors.errorString") (by rw [star]; kernel_rfl) (by kernel_rfl) (by decide) u (by rw [star]; exact h)
/-- The door's own heap meets the condition. -/
theorem door_met (os : Os) (args : Array Value) : laidMetH Tryd.prog laid4 ((World.doorLaid Tryd.prog 400 os).forCall (fun _ _ => 0) ⟨#[], args, []⟩).memory :=
  laidMetH_of_parts3 (fuel := 8) (laidMet_of_run' 8 (by kernel_rfl) (by kernel_rfl)) (by kernel_rfl) (by kernel_rfl)
theorem of_laid {W : World} (h : laidMetH Tryd.prog laid4 W) : Q.LaidD W := by
  rw [MakeChecks.laidMetH_plain _ _ _ (by kernel_rfl)] at h
  obtain ⟨ps, ⟨n1, t1, cs1, f1, p1, q1, hg1, ht1, hv1, hd1, ⟨n2, t2, cs2, f2, p2, q2, hg2, ht2, hv2, hd2, ⟨n0, t0, cs0, f0, p0, q0, hg0, ht0, hv0, hd0, ⟨n3, t3, cs3, f3, p3, q3, hg3, ht3, hv3, hd3, hq3, e3⟩, e0⟩, e2⟩, e1⟩, hnd, hrows⟩ := h
  obtain rfl := Option.some.inj (g1.symm.trans hg1)
  obtain rfl := Option.some.inj (g2.symm.trans hg2)
  obtain rfl := Option.some.inj (g0.symm.trans hg0)
  obtain rfl := Option.some.inj (g3.symm.trans hg3)
  obtain rfl := Option.some.inj ((ty _ (by decide)).symm.trans ht1)
  obtain rfl := Option.some.inj ((ty _ (by decide)).symm.trans ht2)
  obtain rfl := Option.some.inj ((ty _ (by decide)).symm.trans ht0)
  obtain rfl := Option.some.inj ((ty _ (by decide)).symm.trans ht3)
  have hq3' : q3 = [] := hq3
  subst hq3'
  subst e3
  subst e0
  subst e2
  subst e1
  obtain ⟨l0⟩ := cs0
  obtain ⟨l1⟩ := cs1
  obtain ⟨l2⟩ := cs2
  obtain ⟨l3⟩ := cs3
  have ok0 : ∀ u v, l0 = [.iface u v] → Value.okWide Tryd.prog W .any 0 u v := fun u v e => by
    subst e
    exact (hrows 0 0 (by simp [MemPlace.row])).2 u v (by simpa using World.var?_cell hg0 hv0 0)
  have ok1 : ∀ u v, l1 = [.iface u v] → Value.okWide Tryd.prog W .any 0 u v := fun u v e => by
    subst e
    exact (hrows 1 0 (by simp [MemPlace.row])).2 u v (by simpa using World.var?_cell hg1 hv1 0)
  have ok2 : ∀ u v, l2 = [.iface u v] → Value.okWide Tryd.prog W .any 0 u v := fun u v e => by
    subst e
    exact (hrows 2 0 (by simp [MemPlace.row])).2 u v (by simpa using World.var?_cell hg2 hv2 0)
  have ok3 : ∀ u v, l3 = [.iface u v] → Value.okWide Tryd.prog W .any 0 u v := fun u v e => by
    subst e
    exact (hrows 3 0 (by simp [MemPlace.row])).2 u v (by simpa using World.var?_cell hg3 hv3 0)
  obtain ⟨a0, s0, rfl, _⟩ := errorString_of_trod Tryd.underlying40 row Tryd.underlying54 Tryd.underlying74 rfl rfl Tryd.underlying9 cells_e cells_s hd0 ok0
  obtain ⟨a1, s1, rfl, _⟩ := errorString_of_trod Tryd.underlying40 row Tryd.underlying54 Tryd.underlying74 rfl rfl Tryd.underlying9 cells_e cells_s hd1 ok1
  obtain ⟨a2, s2, rfl, _⟩ := errorString_of_trod Tryd.underlying40 row Tryd.underlying54 Tryd.underlying74 rfl rfl Tryd.underlying9 cells_e cells_s hd2 ok2
  obtain ⟨a3, s3, rfl, _⟩ := errorString_of_trod Tryd.underlying40 row Tryd.underlying54 Tryd.underlying74 rfl rfl Tryd.underlying9 cells_e cells_s hd3 ok3
  have c0 : W.cell? ⟨0, 0, none⟩ = some (.iface 54 (.pointer (some a0))) := by simpa using World.var?_cell hg0 hv0 0
  have c1 : W.cell? ⟨1, 0, none⟩ = some (.iface 54 (.pointer (some a1))) := by simpa using World.var?_cell hg1 hv1 0
  have c2 : W.cell? ⟨2, 0, none⟩ = some (.iface 54 (.pointer (some a2))) := by simpa using World.var?_cell hg2 hv2 0
  have c3 : W.cell? ⟨3, 0, none⟩ = some (.iface 54 (.pointer (some a3))) := by simpa using World.var?_cell hg3 hv3 0
  refine ⟨?_, fun k hk => ?_⟩
  · have h3 := c3
    unfold World.cell? at h3
    refine Classical.byContradiction fun hh => ?_
    have hle : W.heap.size ≤ 3 := by omega
    have hn : W.heap[3]? = none := Array.getElem?_eq_none hle
    rw [hn] at h3
    cases h3
  · rcases (by omega : k = 0 ∨ k = 1 ∨ k = 2 ∨ k = 3) with rfl | rfl | rfl | rfl
    · exact ⟨a0, c0⟩
    · exact ⟨a1, c1⟩
    · exact ⟨a2, c2⟩
    · exact ⟨a3, c3⟩
end Go.Proofs.YtipmmjbjgbfgjaaDoor.Laid
