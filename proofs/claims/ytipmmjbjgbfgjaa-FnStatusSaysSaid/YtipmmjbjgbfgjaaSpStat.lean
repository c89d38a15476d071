/- What the reason of a status comes to. -/
import Derived.Test.YtipmmjbjgbfgjaaQ1
import Derived.Test.YtipmmjbjgbfgjaaKit
import Derived.KernelRfl
namespace Go.Proofs.Ytipmmjbjgbfgjaa.SpStat
open Go.RowKit Go.Proofs.Ytipmmjbjgbfgjaa.Q Go.Proofs.YtipmmjbjgbfgjaaW.PrintWords Go.Proofs.YtipmmjbjgbfgjaaW.PrintLast Go.Proofs.YtipmmjbjgbfgjaaKit
theorem low (n : Int) (h : n < 100) : impl_StatusText.f n = some (⟨#[]⟩ : ByteArray) := by
  unfold impl_StatusText.f fiberutils_StatusMessage.f
  rw [if_pos h]
  rfl
theorem high (n : Int) (h : n > 511) : impl_StatusText.f n = some (⟨#[]⟩ : ByteArray) := by
  unfold impl_StatusText.f fiberutils_StatusMessage.f
  rw [if_neg (by omega), if_pos h]
  rfl
theorem ok : impl_StatusText.f 200 = some (⟨#[79, 75]⟩ : ByteArray) := by kernel_rfl
theorem notFound : impl_StatusText.f 404 = some (⟨#[78, 111, 116, 32, 70, 111, 117, 110, 100]⟩ : ByteArray) := by kernel_rfl
end Go.Proofs.Ytipmmjbjgbfgjaa.SpStat
