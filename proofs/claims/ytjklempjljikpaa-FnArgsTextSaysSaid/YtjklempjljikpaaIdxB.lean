/- bytes.IndexByte's entry at a slice that came in. No program in sight. -/
import Derived.Test.YtjklempjljikpaaWWords
import Derived.Lib.BytesEntry
namespace Go.Proofs.YtjklempjljikpaaX
open Go.RowKit Go.Proofs.YtjklempjljikpaaW.PrintWords
theorem run_idxb {P : Program} {w : World} (A : Option Addr) (c : Nat) (xs : List Int) (h : Kd.C (Kd.int .u8) w A xs.length xs) (cv : Int) :
    (Extern.BytealgIndexByte.indexByte #[.slice A xs.length c, .int .u8 cv]).run P w = .ok (.int .i64 (Lib.indexByte (Lib.bytesOf xs) cv.toNat.toUInt8)) w := by
  cases A with
  | none =>
    have hx : xs = [] := by
      cases xs with
      | nil => rfl
      | cons y t => obtain ⟨ad, e, _⟩ := Kd.at_int h 0 (Int.le_refl _) (by simp); cases e
    subst hx
    exact Lib.run_indexByteNil w _ _ _
  | some ad =>
    obtain ⟨b, off, spot⟩ := ad
    cases spot with
    | none =>
      refine Lib.run_indexByteSlice w b off xs.length c xs rfl (fun i hi => ?_) cv
      obtain ⟨ad, e, hc⟩ := Kd.at_int h (i : Int) (by omega) (by omega)
      cases e
      rw [show (⟨b, off, none⟩ : Addr).add (i : Int).toNat = ⟨b, off + i, none⟩ by unfold Addr.add; by_cases hj0 : i = 0 <;> simp [hj0]] at hc
      exact hc
    | some sp =>
      have hx : xs = [] := by
        cases xs with
        | nil => rfl
        | cons y t =>
          obtain ⟨ad, e, hc⟩ := Kd.at_int h 0 (Int.le_refl _) (by simp)
          cases e
          have : w.cell? ⟨b, off, some sp⟩ = none := by unfold World.cell?; cases w.heap[b]? with | none => rfl | some o => cases o <;> rfl
          rw [show (⟨b, off, some sp⟩ : Addr).add (0 : Int).toNat = ⟨b, off, some sp⟩ from rfl, this] at hc
          cases hc
      subst hx
      exact Lib.run_indexByteSlice (P := P) w 0 0 0 c [] rfl (fun i hi => absurd hi (by omega)) cv
end Go.Proofs.YtjklempjljikpaaX
