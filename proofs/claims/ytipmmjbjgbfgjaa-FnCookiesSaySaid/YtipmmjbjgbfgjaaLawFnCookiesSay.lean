/- FnCookiesSay: the law's function, called with any arguments, returns true and leaves its arguments as they were: every input, no condition. -/
import Derived.Test.YtipmmjbjgbfgjaaRows
import Derived.Test.YtipmmjbjgbfgjaaQ17
import Derived.Test.YtipmmjbjgbfgjaaStFnCookiesSay
import Derived.Test.YtipmmjbjgbfgjaaPureFnCookiesSay
import Derived.Test.YtipmmjbjgbfgjaaOpen
import Derived.WalkKit
import Derived.ProofKit
import Derived.OpenShut
import Derived.ShutString
import Derived.ChangeOld
import Derived.Below
import Derived.SizedLaws
namespace Go.Proofs.Ytipmmjbjgbfgjaa.fnCookiesSay
open Go.ChangeShapes Go.WideShapes Go.ChangeAt Go.RowKit
open Go.ChangeMaps (open_string shut_string)
set_option linter.unusedVariables false
theorem own : ownKnob Try.prog.godebug = none := by kernel_rfl
theorem laidOut : laidOutB Try.prog = true := by kernel_rfl
set_option maxRecDepth 100000 in
theorem lifted (os : Os) (started : os.Started) (H : Type) (enc : TypeId × Value → H) :
    ReturnsInHanded {} Try.checked os 8 .any (Rows.fnCookiesSaySpec.pre6 enc Try.prog Try.f8 Rows.fnCookiesSayRow.domain false) (Rows.fnCookiesSaySpec.post enc Try.prog Try.f8 false true false false) := by
  refine returnsInHanded_of_change_sized (C := Try.checked) own started (by kernel_rfl) Try.func8
    (ChangeSpec.witness6 (enc := enc) (C := Try.checked) false ⟨#[], #[.string ByteArray.empty, .slice none 0 0], []⟩ 8 (by kernel_rfl) (by kernel_rfl) (by kernel_rfl) (by kernel_rfl)) ?_
  intro W base args ds gs before hval0 hW hcnd hsz0 _
  have hsz : (DataW.weightsEach Try.prog (Try.f8.params.toList ++ Rows.fnCookiesSaySpec.plain.varTypes Try.prog) (ds ++ gs)).all (· ≤ reachBytes) = true := hsz0
  have hval : ∀ (j : Nat) t v, Try.f8.params[j]? = some t → args[j]? = some v → Value.okWide Try.prog W .any base t v := hval0
  have hW' := hW
  obtain ⟨p, q, hA0, hV, rfl, hfz, hnd⟩ := hW
  have hA : DataW.TrodAll enc Try.prog W 0 (fun _ => true) true Try.f8.params.toList args.toList ds p := hA0
  rw [Try.params8] at hA hval hsz
  obtain ⟨v0, vs0, d0, ds0, p0, q0, hargs, rfl, rfl, h0, r0⟩ := trodAll_cons hA
  obtain ⟨v1, vs1, d1, ds1, p1, q1, rfl, rfl, rfl, h1, r1⟩ := trodAll_cons r0
  obtain ⟨rfl, rfl, rfl⟩ := trodAll_nil r1
  obtain rfl : args = #[v0, v1] := by cases args; simp_all
  obtain ⟨rfl, rfl⟩ := trodVars_none hV
  obtain ⟨a0, rfl, rfl, rfl, y0⟩ := open_string Try.underlying9 (hval 0 9 v0 rfl rfl) h0
  have w0 : a0.size ≤ 140737488351232 := by
    have z := sized_string hsz (j := 0) (t := 9) rfl rfl
    rw [Array.length_toList] at z
    exact z
  obtain ⟨a1, len1, cap1, rfl⟩ := okWide_slice Try.underlying36 (hval 1 36 v1 rfl rfl)
  have k1 := h1
  have lt1 : ∀ x ∈ p1, x.block < W.heap.size := by obtain ⟨m, hm⟩ := k1; exact DataW.trod_lt m _ _ _ hm
  obtain ⟨l1, el1, C1, ca1, cm1, G1⟩ : ∃ xs, len1 = xs.length ∧ Go.Proofs.YtipmmjbjgbfgjaaW.PrintWords.Kd.C Go.Proofs.Ytipmmjbjgbfgjaa.Q.k40 W a1 xs.length xs ∧ xs.length ≤ cap1 ∧ cap1 ≤ maxLen ∧ ∀ x ∈ xs, (x.f0.size ≤ maxLen) ∧ (x.f1.size ≤ maxLen) := by
    obtain ⟨fuel, hf⟩ := h1
    have hf' : DataW.trod enc Try.prog W 0 (fun _ => true) true fuel 36 [.slice a1 len1 cap1] = some (d1, p1) := hf
    exact Go.Proofs.YtipmmjbjgbfgjaaOpen.open_kd Try.underlying36 (by kernel_rfl) (fun n cs y h => StFnCookiesSay.one40 n cs y h) hf'
  subst el1
  clear hA0 hval0 hsz0 hsz
  obtain ⟨k, hk⟩ := Pure.FnCookiesSay a0 l1 w0 (Nat.le_trans ca1 cm1) G1
  refine (Go.Proofs.Ytipmmjbjgbfgjaa.Q.laws_FnCookiesSay.calls k a0 _ _ l1 true W C1 ca1 hk).mono fun e W' hh => ?_
  obtain ⟨he, bel0⟩ := hh
  have bel : Below W.heap.size W W' := bel0
  subst he
  exact ⟨_, rfl, _, _, _, [], _, [], hW', trodAll_mk1 (shut_bool Try.underlying4 _), (trodAll_cons_mk (shut_string Try.underlying9 y0) (trodAll_cons_mk (Below.trod laidOut (by kernel_rfl) (of_decide_eq_true (by kernel_rfl)) k1 bel lt1) trodAll_mk0)), rfl, bel.frame _, fun h => by cases h⟩
theorem over : Rows.fnCookiesSayRow.holds Try.pinned (OpenSpec.ofChange Rows.fnCookiesSaySpec) :=
  OpenClaim.holds_of_wide 8 Try.f8 rfl rfl rfl rfl rfl rfl rfl ⟨rfl, rfl, rfl, rfl, rfl⟩ rfl rfl rfl rfl rfl (by kernel_rfl) Try.func8 (by kernel_rfl)
    (of_decide_eq_true (by kernel_rfl)) (by unfold Func.isWrapper; first | (rw [if_pos (by decide +kernel)]; kernel_rfl) | (rw [if_neg (by decide +kernel)]; exact ⟨rfl, rfl⟩))
    (fun os started H enc _ => lifted os started H enc)
theorem proved : Rows.FnCookiesSaySaid := over
#print axioms proved
end Go.Proofs.Ytipmmjbjgbfgjaa.fnCookiesSay
namespace Go.Proofs.Ytipmmjbjgbfgjaa
/-- The row, under a short name, for the claim. -/
theorem fnCookiesSay_holds : Rows.FnCookiesSaySaid := fnCookiesSay.proved
end Go.Proofs.Ytipmmjbjgbfgjaa
