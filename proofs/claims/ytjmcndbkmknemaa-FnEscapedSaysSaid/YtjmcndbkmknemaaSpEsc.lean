/- Texts escaped for a query and for a path: what the plain functions come to. No program in sight. -/
import Derived.Test.YtjmcndbkmknemaaQ19
import Derived.Test.YtjmcndbkmknemaaQ21
import Derived.Test.YtjmcndbkmknemaaKit
namespace Go.Proofs.Ytjmcndbkmknemaa.SpA
open Go.RowKit Go.Proofs.Ytjmcndbkmknemaa.Q Go.Proofs.YtjmcndbkmknemaaW.PrintWords Go.Proofs.YtjmcndbkmknemaaW.PrintLast Go.Proofs.YtjmcndbkmknemaaKit
set_option linter.unusedVariables false
set_option linter.unusedSimpArgs false
/-- Bytes as numbers. -/
def toI (l : List UInt8) : List Int := l.map fun c => (c.toNat : Int)
theorem toI_length (l : List UInt8) : (toI l).length = l.length := by simp [toI]
theorem toI_append (a b : List UInt8) : toI (a ++ b) = toI a ++ toI b := by simp [toI]
theorem bytesOf_toI (s : ByteArray) : bytesOf s = toI (L s) := rfl
theorem L_strOf (l : List UInt8) : L (strOfNums (toI l)) = l := by
  unfold strOfNums toI
  simp [L, List.map_map, Function.comp_def]
theorem rd_mid {xs pre t : List UInt8} {c : UInt8} (h : xs = pre ++ c :: t) : rd (toI xs) (pre.length : Int) = (c.toNat : Int) := by
  unfold rd
  rw [h, toI_append, Int.toNat_natCast, List.getD_eq_getElem?_getD, List.getElem?_append_right (by rw [toI_length]; exact Nat.le_refl _), toI_length, Nat.sub_self]
  rfl
abbrev HX : ByteArray := ⟨#[48, 49, 50, 51, 52, 53, 54, 55, 56, 57, 65, 66, 67, 68, 69, 70]⟩
def hexU (n : Nat) : UInt8 := (L HX).getD n 0
def escA (c : UInt8) : List UInt8 := if c = 32 then [43] else if bt tab1 (c.toNat : Int) = 0 then [c] else [37, hexU (c.toNat / 16), hexU (c.toNat % 16)]
def escP (c : UInt8) : List UInt8 := if bt tab2 (c.toNat : Int) = 0 then [c] else [37, hexU (c.toNat / 16), hexU (c.toNat % 16)]
theorem and15 : ∀ c : Fin 256, Go.bits .and .u8 ((c : Nat) : Int) 15 = (((c : Nat) % 16 : Nat) : Int) := by decide +kernel
theorem bt_HX (n : Nat) (h : n < 16) : bt HX (n : Int) = ((hexU n).toNat : Int) := by
  rw [bt_nat HX n (by simpa using h)]
  unfold hexU
  rw [List.getD_eq_getElem?_getD, List.getElem?_eq_getElem (show n < (L HX).length from h)]
  rfl
theorem and15' (c : UInt8) : Go.bits .and .u8 (c.toNat : Int) 15 = ((c.toNat % 16 : Nat) : Int) := and15 ⟨c.toNat, c.toNat_lt⟩
theorem hi_nib (c : UInt8) : (c.toNat : Int) / 16 = ((c.toNat / 16 : Nat) : Int) := by omega
theorem escA_len (c : UInt8) : (escA c).length ≤ 3 := by unfold escA; split; simp; split <;> simp
theorem escP_len (c : UInt8) : (escP c).length ≤ 3 := by unfold escP; split <;> simp
theorem wrap_b (c : UInt8) : wrap64 (c.toNat : Int) = (c.toNat : Int) := by have := c.toNat_lt; exact wrap_id (by omega) (by omega)
theorem tabA_size : tab1.size = 256 := by decide +kernel
theorem tabP_size : tab2.size = 256 := by decide +kernel
theorem hex3 (c : UInt8) : ([37, bt HX ((c.toNat : Int) / 16), bt HX (Go.bits .and .u8 (c.toNat : Int) 15)] : List Int) = toI [37, hexU (c.toNat / 16), hexU (c.toNat % 16)] := by
  have hc := c.toNat_lt
  rw [hi_nib, and15', bt_HX _ (by omega), bt_HX _ (by omega)]
  rfl
theorem arg_l (xs : List UInt8) (hx : xs.length ≤ 1000000000000) : ∀ (suf pre acc : List UInt8), xs = pre ++ suf → acc.length + 3 * suf.length ≤ 100000000000000 →
    Ev (fun k => hertzconv_AppendQuotedArg.l0 k (toI acc) (toI xs) (xs.length : Int) (pre.length : Int)) (toI (acc ++ suf.flatMap escA))
  | [], pre, acc, h, hl => by
    refine Ev.step (f := fun _ => some (toI acc)) (fun k => ?_) (Ev.same (Ev.now _) (by simp))
    simp only [hertzconv_AppendQuotedArg.l0]
    rw [if_neg (ln_not h)]
  | c :: t, pre, acc, h, hl => by
    have hc := c.toNat_lt
    simp only [List.length_cons] at hl
    have ih := arg_l xs hx t (pre ++ [c]) (acc ++ escA c) (lmid_next h) (by have := escA_len c; rw [List.length_append]; omega)
    have hw := wrap_lmid h (by omega)
    refine Ev.step (fun k => ?_) (Ev.same ih (by simp))
    simp only [hertzconv_AppendQuotedArg.l0]
    rw [if_pos (ln_mid h), if_pos (by omega), toI_length, if_pos (ln_mid h), rd_mid h, hw, toI_append]
    unfold escA
    by_cases h32 : c = 32
    · rw [if_pos (by rw [h32]; rfl), if_pos (by rw [toI_length]; omega), if_pos h32]
      rfl
    · rw [if_neg (fun e => h32 (UInt8.toNat_inj.1 (show c.toNat = (32 : UInt8).toNat from by show c.toNat = 32; omega))), wrap_b, if_pos (by omega), tabA_size, if_pos (by omega), if_neg h32]
      by_cases h0 : bt tab1 (c.toNat : Int) = 0
      · rw [if_pos h0, if_pos (by rw [toI_length]; omega), if_pos h0]
        rfl
      · rw [if_neg h0, if_pos (by omega), if_pos (by omega), and15', if_pos (by omega), if_pos (by omega), if_neg h0, ← and15', hex3, Option.bind_some, if_pos (by rw [toI_length, toI_length]; simp; omega)]
theorem arg_ev (xs acc : List UInt8) (hx : xs.length ≤ 1000000000000) (hl : acc.length + 3 * xs.length ≤ 100000000000000) : Ev (fun k => hertzconv_AppendQuotedArg.f k (toI acc) (toI xs)) (toI (acc ++ xs.flatMap escA)) := by
  have := arg_l xs hx xs [] acc rfl hl
  unfold hertzconv_AppendQuotedArg.f
  rw [toI_length]
  exact this
theorem path_l (xs : List UInt8) (hx : xs.length ≤ 1000000000000) : ∀ (suf pre acc : List UInt8), xs = pre ++ suf → acc.length + 3 * suf.length ≤ 100000000000000 →
    Ev (fun k => hertzconv_AppendQuotedPath.l0 k (toI acc) (toI xs) (xs.length : Int) (pre.length : Int)) (toI (acc ++ suf.flatMap escP))
  | [], pre, acc, h, hl => by
    refine Ev.step (f := fun _ => some (toI acc)) (fun k => ?_) (Ev.same (Ev.now _) (by simp))
    simp only [hertzconv_AppendQuotedPath.l0]
    rw [if_neg (ln_not h)]
  | c :: t, pre, acc, h, hl => by
    have hc := c.toNat_lt
    simp only [List.length_cons] at hl
    have ih := path_l xs hx t (pre ++ [c]) (acc ++ escP c) (lmid_next h) (by have := escP_len c; rw [List.length_append]; omega)
    have hw := wrap_lmid h (by omega)
    refine Ev.step (fun k => ?_) (Ev.same ih (by simp))
    simp only [hertzconv_AppendQuotedPath.l0]
    rw [if_pos (ln_mid h), if_pos (by omega), toI_length, if_pos (ln_mid h), rd_mid h, hw, toI_append]
    unfold escP
    rw [wrap_b, if_pos (by omega), tabP_size, if_pos (by omega)]
    by_cases h0 : bt tab2 (c.toNat : Int) = 0
    · rw [if_pos h0, if_pos (by rw [toI_length]; omega), if_pos h0]
      rfl
    · rw [if_neg h0, if_pos (by omega), if_pos (by omega), and15', if_pos (by omega), if_pos (by omega), if_neg h0, ← and15', hex3, Option.bind_some, if_pos (by rw [toI_length, toI_length]; simp; omega)]
def quoteP (xs : List UInt8) : List UInt8 := if xs = [42] then [42] else xs.flatMap escP
theorem path_ev (xs acc : List UInt8) (hx : xs.length ≤ 1000000000000) (hl : acc.length + 3 * xs.length + 3 ≤ 100000000000000) : Ev (fun k => hertzconv_AppendQuotedPath.f k (toI acc) (toI xs)) (toI (acc ++ quoteP xs)) := by
  have hgo := path_l xs hx xs [] acc rfl (by omega)
  have hj : Ev (fun k => hertzconv_AppendQuotedPath.j0 k (toI acc) (toI xs) false) (toI (acc ++ xs.flatMap escP)) := by
    refine Ev.step (fun k => ?_) hgo
    simp only [hertzconv_AppendQuotedPath.j0]
    rw [if_neg (by decide), toI_length]
    rfl
  unfold hertzconv_AppendQuotedPath.f quoteP
  match xs with
  | [] => exact Ev.neg (by simp [toI]) (by rw [if_neg (by simp)]; exact hj)
  | [c] =>
    refine Ev.pos rfl (Ev.pos (by simp [toI]) ?_)
    have hr : rd (toI [c]) 0 = (c.toNat : Int) := rfl
    rw [hr]
    by_cases h : c = 42
    · rw [if_pos (by rw [h])]
      have : ((c.toNat : Int) == 42) = true := by rw [h]; rfl
      rw [this]
      refine Ev.step (f := fun _ => some (toI (acc ++ [42]))) (fun k => ?_) (Ev.now _)
      simp only [hertzconv_AppendQuotedPath.j0]
      rw [if_pos trivial, if_pos (by rw [toI_length]; simp at hl; omega), toI_append]
      rfl
    · rw [if_neg (by simpa using h)]
      have : ((c.toNat : Int) == 42) = false := by
        rw [beq_eq_false_iff_ne]
        intro e
        exact h (UInt8.toNat_inj.1 (show c.toNat = (42 : UInt8).toNat from by show c.toNat = 42; omega))
      rw [this]
      exact hj
  | c :: d :: t => exact Ev.neg (by rw [toI_length]; simp; omega) (by rw [if_neg (by simp)]; exact hj)
end Go.Proofs.Ytjmcndbkmknemaa.SpA
