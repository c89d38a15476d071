/- FnPathSteps: the law's function, called with any arguments, returns true and leaves its arguments as they were: every input, no condition. -/
import Derived.Test.YtjklempjljikpaaRows
import Derived.Test.YtjklempjljikpaaQ14
import Derived.Test.YtjklempjljikpaaStFnPathSteps
import Derived.Test.YtjklempjljikpaaPureFnPathSteps
import Derived.Test.YtjklempjljikpaaOpen
import Derived.WalkKit
import Derived.ProofKit
import Derived.OpenShut
import Derived.ShutString
import Derived.ChangeOld
import Derived.Below
import Derived.SizedLaws
namespace Go.Proofs.Ytjklempjljikpaa.fnPathSteps
open Go.ChangeShapes Go.WideShapes Go.ChangeAt Go.RowKit
open Go.ChangeMaps (open_string shut_string)
set_option linter.unusedVariables false
theorem own : ownKnob Try.prog.godebug = none := by kernel_rfl
theorem laidOut : laidOutB Try.prog = true := by kernel_rfl
set_option maxRecDepth 100000 in
theorem lifted (os : Os) (started : os.Started) (H : Type) (enc : TypeId × Value → H) :
    ReturnsInHanded {} Try.checked os 6 .any (Rows.fnPathStepsSpec.pre6 enc Try.prog Try.f6 Rows.fnPathStepsRow.domain false) (Rows.fnPathStepsSpec.post enc Try.prog Try.f6 false true false false) := by
  refine returnsInHanded_of_change_sized (C := Try.checked) own started (by kernel_rfl) Try.func6
    (ChangeSpec.witness6 (enc := enc) (C := Try.checked) false ⟨#[], #[.slice none 0 0, .int .i64 0, .string ByteArray.empty], []⟩ 8 (by kernel_rfl) (by kernel_rfl) (by kernel_rfl) (by kernel_rfl)) ?_
  intro W base args ds gs before hval0 hW hcnd hsz0 _
  have hsz : (DataW.weightsEach Try.prog (Try.f6.params.toList ++ Rows.fnPathStepsSpec.plain.varTypes Try.prog) (ds ++ gs)).all (· ≤ reachBytes) = true := hsz0
  have hval : ∀ (j : Nat) t v, Try.f6.params[j]? = some t → args[j]? = some v → Value.okWide Try.prog W .any base t v := hval0
  have hW' := hW
  obtain ⟨p, q, hA0, hV, rfl, hfz, hnd⟩ := hW
  have hA : DataW.TrodAll enc Try.prog W 0 (fun _ => true) true Try.f6.params.toList args.toList ds p := hA0
  rw [Try.params6] at hA hval hsz
  obtain ⟨v0, vs0, d0, ds0, p0, q0, hargs, rfl, rfl, h0, r0⟩ := trodAll_cons hA
  obtain ⟨v1, vs1, d1, ds1, p1, q1, rfl, rfl, rfl, h1, r1⟩ := trodAll_cons r0
  obtain ⟨v2, vs2, d2, ds2, p2, q2, rfl, rfl, rfl, h2, r2⟩ := trodAll_cons r1
  obtain ⟨rfl, rfl, rfl⟩ := trodAll_nil r2
  obtain rfl : args = #[v0, v1, v2] := by cases args; simp_all
  obtain ⟨rfl, rfl⟩ := trodVars_none hV
  obtain ⟨a0, len0, cap0, rfl⟩ := okWide_slice Try.underlying30 (hval 0 30 v0 rfl rfl)
  have k0 := h0
  have lt0 : ∀ x ∈ p0, x.block < W.heap.size := by obtain ⟨m, hm⟩ := k0; exact DataW.trod_lt m _ _ _ hm
  obtain ⟨l0, el0, C0, ca0, cm0, G0⟩ : ∃ xs, len0 = xs.length ∧ Go.Proofs.YtjklempjljikpaaW.PrintWords.Kd.C Go.Proofs.YtjklempjljikpaaW.PrintWords.Kd.string W a0 xs.length xs ∧ xs.length ≤ cap0 ∧ cap0 ≤ maxLen ∧ ∀ x ∈ xs, x.size ≤ maxLen := by
    obtain ⟨fuel, hf⟩ := h0
    have hf' : DataW.trod enc Try.prog W 0 (fun _ => true) true fuel 30 [.slice a0 len0 cap0] = some (d0, p0) := hf
    exact Go.Proofs.YtjklempjljikpaaOpen.open_kd Try.underlying30 (by kernel_rfl) (fun n cs y h => Go.Proofs.YtjklempjljikpaaOpen.one_string Try.underlying9 n cs y h) hf'
  subst el0
  obtain ⟨a1, rfl, rfl, rfl, w1⟩ := open_int Try.underlying3 (hval 1 3 v1 rfl rfl) h1
  obtain ⟨a2, rfl, rfl, rfl, y2⟩ := open_string Try.underlying9 (hval 2 9 v2 rfl rfl) h2
  have w2 : a2.size ≤ 140737488351232 := by
    have z := sized_string hsz (j := 2) (t := 9) rfl rfl
    rw [Array.length_toList] at z
    exact z
  clear hA0 hval0 hsz0 hsz
  obtain ⟨k, hk⟩ := Pure.FnPathSteps l0 a1 a2 (Nat.le_trans ca0 cm0) G0 w1 w2
  refine (Go.Proofs.Ytjklempjljikpaa.Q.laws_FnPathSteps.calls k _ _ l0 a1 a2 true W C0 ca0 hk).mono fun e W' hh => ?_
  obtain ⟨he, bel0⟩ := hh
  have bel : Below W.heap.size W W' := bel0
  subst he
  exact ⟨_, rfl, _, _, _, [], _, [], hW', trodAll_mk1 (shut_bool Try.underlying4 _), (trodAll_cons_mk (Below.trod laidOut (by kernel_rfl) (of_decide_eq_true (by kernel_rfl)) k0 bel lt0) (trodAll_cons_mk (shut_int Try.underlying3 w1) (trodAll_cons_mk (shut_string Try.underlying9 y2) trodAll_mk0))), rfl, bel.frame _, fun h => by cases h⟩
theorem over : Rows.fnPathStepsRow.holds Try.pinned (OpenSpec.ofChange Rows.fnPathStepsSpec) :=
  OpenClaim.holds_of_wide 6 Try.f6 rfl rfl rfl rfl rfl rfl rfl ⟨rfl, rfl, rfl, rfl, rfl⟩ rfl rfl rfl rfl rfl (by kernel_rfl) Try.func6 (by kernel_rfl)
    (of_decide_eq_true (by kernel_rfl)) (by unfold Func.isWrapper; first | (rw [if_pos (by decide +kernel)]; kernel_rfl) | (rw [if_neg (by decide +kernel)]; exact ⟨rfl, rfl⟩))
    (fun os started H enc _ => lifted os started H enc)
theorem proved : Rows.FnPathStepsSaid := over
#print axioms proved
end Go.Proofs.Ytjklempjljikpaa.fnPathSteps
namespace Go.Proofs.Ytjklempjljikpaa
/-- The row, under a short name, for the claim. -/
theorem fnPathSteps_holds : Rows.FnPathStepsSaid := fnPathSteps.proved
end Go.Proofs.Ytjklempjljikpaa
