/- Plain lemmas about texts and lists of this seat: no program in sight. -/
import Derived.Test.YtipmmjbjgbfgjaaDoorWWords
import Derived.Test.YtipmmjbjgbfgjaaDoorWMore
namespace Go.Proofs.YtipmmjbjgbfgjaaDoorKit
open Go.RowKit Go.Proofs.YtipmmjbjgbfgjaaDoorW.PrintWords Go.Proofs.YtipmmjbjgbfgjaaDoorW.PrintLast
/-- A text's bytes. -/
abbrev L (s : ByteArray) : List UInt8 := s.data.toList
theorem toList_loop (s : ByteArray) : ∀ (d i : Nat) (r : List UInt8), s.size - i = d → ByteArray.toList.loop s i r = r.reverse ++ (L s).drop i := by
  intro d
  induction d with
  | zero =>
    intro i r h
    rw [ByteArray.toList.loop]
    rw [if_neg (by omega), List.drop_eq_nil_of_le (by rw [data_length]; omega), List.append_nil]
  | succ d ih =>
    intro i r h
    rw [ByteArray.toList.loop, if_pos (by omega), ih (i + 1) _ (by omega)]
    have hi : i < (L s).length := by rw [data_length]; omega
    rw [List.drop_eq_getElem_cons hi, List.reverse_cons, List.append_assoc]
    congr 1
    simp only [List.singleton_append, List.cons.injEq, and_true]
    have hi2 : i < s.data.size := by rw [← Array.length_toList]; exact hi
    show s.data[i]! = _
    rw [getElem!_pos s.data i hi2]
    exact (Array.getElem_toList hi2).symm
theorem tl (s : ByteArray) : s.toList = L s := by
  unfold ByteArray.toList
  rw [toList_loop s _ 0 [] rfl]
  simp
theorem ext {a b : ByteArray} (h : L a = L b) : a = b := by
  cases a; cases b
  simp only [L] at h
  rw [Array.ext' h]
theorem tl_eq {a b : ByteArray} : a.toList = b.toList ↔ a = b := ⟨fun h => ext (by rw [← tl, ← tl, h]), fun h => by rw [h]⟩
theorem size_L (s : ByteArray) : s.size = (L s).length := (data_length s).symm
theorem L_append (a b : ByteArray) : L (a ++ b) = L a ++ L b := ByteArray.toList_data_append
theorem L_extract (a : ByteArray) (i j : Nat) : L (a.extract i j) = ((L a).drop i).take (j - i) := by
  simp only [L, ByteArray.data_extract, Array.toList_extract, List.extract_eq_take_drop]
theorem size_append (a b : ByteArray) : (a ++ b).size = a.size + b.size := by rw [size_L, L_append, List.length_append, ← size_L, ← size_L]
theorem extract_all (a : ByteArray) : a.extract 0 a.size = a := ext (by rw [L_extract, size_L]; simp [List.take_of_length_le])
theorem wrap_id {x : Int} (h0 : -9223372036854775808 ≤ x) (h : x ≤ 9223372036854775807) : wrap64 x = x := by unfold wrap64; omega
theorem wrap_succ {n m : Nat} (h : n < m) (hm : m ≤ 9223372036854775807) : wrap64 ((n : Int) + 1) = ((n + 1 : Nat) : Int) := by
  rw [wrap_id (by omega) (by omega)]; omega
theorem bt_nat (s : ByteArray) (n : Nat) (h : n < (L s).length) : bt s (n : Int) = ((L s)[n].toNat : Int) := by
  unfold bt
  have h2 : (n : Int).toNat < s.size := by rw [size_L]; omega
  rw [dif_pos h2]
  rfl
section
variable {s : ByteArray} {pre t : List UInt8} {c : UInt8}
theorem sz_mid (h : L s = pre ++ c :: t) : (pre.length : Int) < (s.size : Int) := by rw [size_L, h]; simp; omega
theorem nz_mid (h : L s = pre ++ c :: t) : pre.length < s.size := by rw [size_L, h]; simp
theorem sz_end (h : L s = pre ++ []) : (pre.length : Int) = (s.size : Int) := by rw [size_L, h]; simp
theorem sz_not (h : L s = pre ++ []) : ¬ (pre.length : Int) < (s.size : Int) := by rw [size_L, h]; simp
theorem bt_mid (h : L s = pre ++ c :: t) : bt s (pre.length : Int) = (c.toNat : Int) := by
  have hl : pre.length < (L s).length := by rw [h]; simp
  rw [bt_nat s _ hl]
  congr 2
  simp [h]
theorem wrap_mid (h : L s = pre ++ c :: t) (hs : s.size ≤ 140737488351232) : wrap64 ((pre.length : Int) + 1) = ((pre ++ [c]).length : Int) := by
  rw [wrap_succ (nz_mid h) (by omega)]; simp
theorem mid_next (h : L s = pre ++ c :: t) : L s = (pre ++ [c]) ++ t := by rw [h]; simp
end
section
variable {α : Type} {xs pre t : List α} {x : α}
theorem ln_mid (h : xs = pre ++ x :: t) : (pre.length : Int) < (xs.length : Int) := by rw [h]; simp; omega
theorem ln_nat (h : xs = pre ++ x :: t) : pre.length < xs.length := by rw [h]; simp
theorem ln_not (h : xs = pre ++ []) : ¬ (pre.length : Int) < (xs.length : Int) := by rw [h]; simp
theorem get_mid (h : xs = pre ++ x :: t) (z : α) : xs.getD (pre.length : Int).toNat z = x := by rw [h]; simp
theorem wrap_lmid (h : xs = pre ++ x :: t) (hs : xs.length ≤ 9223372036854775807) : wrap64 ((pre.length : Int) + 1) = ((pre ++ [x]).length : Int) := by
  rw [wrap_succ (ln_nat h) hs]; simp
theorem lmid_next (h : xs = pre ++ x :: t) : xs = (pre ++ [x]) ++ t := by rw [h]; simp
end
theorem maxLen_le {n : Nat} (h : n ≤ maxLen) : n ≤ 9223372036854775807 := by unfold maxLen at h; exact h
/-! From some number of rounds on -/
section
variable {α β : Type}
theorem Ev.pos {c : Prop} [Decidable c] {f g : Nat → Option α} {r : α} (h : c) (k : Ev f r) : Ev (fun n => if c then f n else g n) r := by
  simp only [if_pos h]; exact k
theorem Ev.neg {c : Prop} [Decidable c] {f g : Nat → Option α} {r : α} (h : ¬ c) (k : Ev g r) : Ev (fun n => if c then f n else g n) r := by
  simp only [if_neg h]; exact k
theorem Ev.some {a : Option α} {r : α} (h : a = Option.some r) : Ev (fun _ => a) r := ⟨0, fun _ _ => h⟩
theorem Ev.call {g : Nat → Option α} {f : Nat → α → Option β} {a : α} {r : β} (h : Ev g a) (k : Ev (fun n => f n a) r) : Ev (fun n => (g n).bind fun x => f n x) r := Ev.bind h k
theorem Ev.same {g : Nat → Option α} {r q : α} (h : Ev g r) (e : r = q) : Ev g q := e ▸ h
end
end Go.Proofs.YtipmmjbjgbfgjaaDoorKit
