/- FnCookiesBack: the law's function, called with any arguments, returns true and leaves its arguments as they were: every input, no condition. -/
import Derived.Test.YtipmmjbjgbfgjaaRows
import Derived.Test.YtipmmjbjgbfgjaaQ9
import Derived.Test.YtipmmjbjgbfgjaaStFnCookiesBack
import Derived.Test.YtipmmjbjgbfgjaaPureFnCookiesBack
import Derived.Test.YtipmmjbjgbfgjaaOpen
import Derived.WalkKit
import Derived.ProofKit
import Derived.OpenShut
import Derived.ShutString
import Derived.ChangeOld
import Derived.Below
import Derived.SizedLaws
namespace Go.Proofs.Ytipmmjbjgbfgjaa.fnCookiesBack
open Go.ChangeShapes Go.WideShapes Go.ChangeAt Go.RowKit
open Go.ChangeMaps (open_string shut_string)
set_option linter.unusedVariables false
theorem own : ownKnob Try.prog.godebug = none := by kernel_rfl
theorem laidOut : laidOutB Try.prog = true := by kernel_rfl
set_option maxRecDepth 100000 in
theorem lifted (os : Os) (started : os.Started) (H : Type) (enc : TypeId × Value → H) :
    ReturnsInHanded {} Try.checked os 7 .any (Rows.fnCookiesBackSpec.pre6 enc Try.prog Try.f7 Rows.fnCookiesBackRow.domain false) (Rows.fnCookiesBackSpec.post enc Try.prog Try.f7 false true false false) := by
  refine returnsInHanded_of_change_sized (C := Try.checked) own started (by kernel_rfl) Try.func7
    (ChangeSpec.witness6 (enc := enc) (C := Try.checked) false ⟨#[], #[.slice none 0 0], []⟩ 8 (by kernel_rfl) (by kernel_rfl) (by kernel_rfl) (by kernel_rfl)) ?_
  intro W base args ds gs before hval0 hW hcnd hsz0 _
  have hsz : (DataW.weightsEach Try.prog (Try.f7.params.toList ++ Rows.fnCookiesBackSpec.plain.varTypes Try.prog) (ds ++ gs)).all (· ≤ reachBytes) = true := hsz0
  have hval : ∀ (j : Nat) t v, Try.f7.params[j]? = some t → args[j]? = some v → Value.okWide Try.prog W .any base t v := hval0
  have hW' := hW
  obtain ⟨p, q, hA0, hV, rfl, hfz, hnd⟩ := hW
  have hA : DataW.TrodAll enc Try.prog W 0 (fun _ => true) true Try.f7.params.toList args.toList ds p := hA0
  rw [Try.params7] at hA hval hsz
  obtain ⟨v0, vs0, d0, ds0, p0, q0, hargs, rfl, rfl, h0, r0⟩ := trodAll_cons hA
  obtain ⟨rfl, rfl, rfl⟩ := trodAll_nil r0
  obtain rfl : args = #[v0] := by cases args; simp_all
  obtain ⟨rfl, rfl⟩ := trodVars_none hV
  obtain ⟨a0, len0, cap0, rfl⟩ := okWide_slice Try.underlying36 (hval 0 36 v0 rfl rfl)
  have k0 := h0
  have lt0 : ∀ x ∈ p0, x.block < W.heap.size := by obtain ⟨m, hm⟩ := k0; exact DataW.trod_lt m _ _ _ hm
  obtain ⟨l0, el0, C0, ca0, cm0, G0⟩ : ∃ xs, len0 = xs.length ∧ Go.Proofs.YtipmmjbjgbfgjaaW.PrintWords.Kd.C Go.Proofs.Ytipmmjbjgbfgjaa.Q.k40 W a0 xs.length xs ∧ xs.length ≤ cap0 ∧ cap0 ≤ maxLen ∧ ∀ x ∈ xs, (x.f0.size ≤ maxLen) ∧ (x.f1.size ≤ maxLen) := by
    obtain ⟨fuel, hf⟩ := h0
    have hf' : DataW.trod enc Try.prog W 0 (fun _ => true) true fuel 36 [.slice a0 len0 cap0] = some (d0, p0) := hf
    exact Go.Proofs.YtipmmjbjgbfgjaaOpen.open_kd Try.underlying36 (by kernel_rfl) (fun n cs y h => StFnCookiesBack.one40 n cs y h) hf'
  subst el0
  clear hA0 hval0 hsz0 hsz
  obtain ⟨k, hk⟩ := Pure.FnCookiesBack l0 (Nat.le_trans ca0 cm0) G0
  refine (Go.Proofs.Ytipmmjbjgbfgjaa.Q.laws_FnCookiesBack.calls k _ _ l0 true W C0 ca0 hk).mono fun e W' hh => ?_
  obtain ⟨he, bel0⟩ := hh
  have bel : Below W.heap.size W W' := bel0
  subst he
  exact ⟨_, rfl, _, _, _, [], _, [], hW', trodAll_mk1 (shut_bool Try.underlying4 _), (trodAll_cons_mk (Below.trod laidOut (by kernel_rfl) (of_decide_eq_true (by kernel_rfl)) k0 bel lt0) trodAll_mk0), rfl, bel.frame _, fun h => by cases h⟩
theorem over : Rows.fnCookiesBackRow.holds Try.pinned (OpenSpec.ofChange Rows.fnCookiesBackSpec) :=
  OpenClaim.holds_of_wide 7 Try.f7 rfl rfl rfl rfl rfl rfl rfl ⟨rfl, rfl, rfl, rfl, rfl⟩ rfl rfl rfl rfl rfl (by kernel_rfl) Try.func7 (by kernel_rfl)
    (of_decide_eq_true (by kernel_rfl)) (by unfold Func.isWrapper; first | (rw [if_pos (by decide +kernel)]; kernel_rfl) | (rw [if_neg (by decide +kernel)]; exact ⟨rfl, rfl⟩))
    (fun os started H enc _ => lifted os started H enc)
theorem proved : Rows.FnCookiesBackSaid := over
#print axioms proved
end Go.Proofs.Ytipmmjbjgbfgjaa.fnCookiesBack
namespace Go.Proofs.Ytipmmjbjgbfgjaa
/-- The row, under a short name, for the claim. -/
theorem fnCookiesBack_holds : Rows.FnCookiesBackSaid := fnCookiesBack.proved
end Go.Proofs.Ytipmmjbjgbfgjaa
