/- Texts as lists of numbers. No program in sight. -/
import Derived.Test.YtipmmjbjgbfgjaaDoorKit
namespace Go.Proofs.YtipmmjbjgbfgjaaDoor.SpA
open Go.RowKit Go.Proofs.YtipmmjbjgbfgjaaDoorW.PrintWords Go.Proofs.YtipmmjbjgbfgjaaDoorW.PrintLast Go.Proofs.YtipmmjbjgbfgjaaDoorKit
/-- Bytes as numbers. -/
def toI (l : List UInt8) : List Int := l.map fun c => (c.toNat : Int)
theorem toI_length (l : List UInt8) : (toI l).length = l.length := by simp [toI]
theorem toI_append (a b : List UInt8) : toI (a ++ b) = toI a ++ toI b := by simp [toI]
theorem bytesOf_toI (s : ByteArray) : bytesOf s = toI (L s) := rfl
theorem L_strOf (l : List UInt8) : L (strOfNums (toI l)) = l := by
  unfold strOfNums toI
  simp [L, List.map_map, Function.comp_def]
theorem rd_mid {xs pre t : List UInt8} {c : UInt8} (h : xs = pre ++ c :: t) : rd (toI xs) (pre.length : Int) = (c.toNat : Int) := by
  unfold rd
  rw [h, toI_append, Int.toNat_natCast, List.getD_eq_getElem?_getD, List.getElem?_append_right (by rw [toI_length]; exact Nat.le_refl _), toI_length, Nat.sub_self]
  rfl
end Go.Proofs.YtipmmjbjgbfgjaaDoor.SpA
