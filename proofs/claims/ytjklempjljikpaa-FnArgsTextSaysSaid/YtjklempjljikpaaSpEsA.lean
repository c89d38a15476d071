/- Texts escaped for a query: what the plain functions come to. No program in sight. -/
import Derived.Test.YtjklempjljikpaaQ5
import Derived.Test.YtjklempjljikpaaSpBytes
namespace Go.Proofs.Ytjklempjljikpaa.SpA
open Go.RowKit Go.Proofs.Ytjklempjljikpaa.Q Go.Proofs.YtjklempjljikpaaW.PrintWords Go.Proofs.YtjklempjljikpaaW.PrintLast Go.Proofs.YtjklempjljikpaaKit
set_option linter.unusedVariables false
set_option linter.unusedSimpArgs false
abbrev HX : ByteArray := ⟨#[48, 49, 50, 51, 52, 53, 54, 55, 56, 57, 65, 66, 67, 68, 69, 70]⟩
def hexU (n : Nat) : UInt8 := (L HX).getD n 0
def escA (c : UInt8) : List UInt8 := if c = 32 then [43] else if bt tab2 (c.toNat : Int) = 0 then [c] else [37, hexU (c.toNat / 16), hexU (c.toNat % 16)]
theorem and15 : ∀ c : Fin 256, Go.bits .and .u8 ((c : Nat) : Int) 15 = (((c : Nat) % 16 : Nat) : Int) := by decide +kernel
theorem bt_HX (n : Nat) (h : n < 16) : bt HX (n : Int) = ((hexU n).toNat : Int) := by
  rw [bt_nat HX n (by simpa using h)]
  unfold hexU
  rw [List.getD_eq_getElem?_getD, List.getElem?_eq_getElem (show n < (L HX).length from h)]
  rfl
theorem and15' (c : UInt8) : Go.bits .and .u8 (c.toNat : Int) 15 = ((c.toNat % 16 : Nat) : Int) := and15 ⟨c.toNat, c.toNat_lt⟩
theorem hi_nib (c : UInt8) : (c.toNat : Int) / 16 = ((c.toNat / 16 : Nat) : Int) := by omega
theorem escA_len (c : UInt8) : (escA c).length ≤ 3 := by unfold escA; split; simp; split <;> simp
theorem wrap_b (c : UInt8) : wrap64 (c.toNat : Int) = (c.toNat : Int) := by have := c.toNat_lt; exact wrap_id (by omega) (by omega)
theorem tabA_size : tab2.size = 256 := by decide +kernel
theorem hex3 (c : UInt8) : ([37, bt HX ((c.toNat : Int) / 16), bt HX (Go.bits .and .u8 (c.toNat : Int) 15)] : List Int) = toI [37, hexU (c.toNat / 16), hexU (c.toNat % 16)] := by
  have hc := c.toNat_lt
  rw [hi_nib, and15', bt_HX _ (by omega), bt_HX _ (by omega)]
  rfl
theorem arg_l (xs : List UInt8) (hx : xs.length ≤ 1000000000000) : ∀ (suf pre acc : List UInt8), xs = pre ++ suf → acc.length + 3 * suf.length ≤ 100000000000000 →
    Ev (fun k => hertzconv_AppendQuotedArg.l0 k (toI acc) (toI xs) (xs.length : Int) (pre.length : Int)) (toI (acc ++ suf.flatMap escA))
  | [], pre, acc, h, hl => by
    refine Ev.step (f := fun _ => some (toI acc)) (fun k => ?_) (Ev.same (Ev.now _) (by simp))
    simp only [hertzconv_AppendQuotedArg.l0]
    rw [if_neg (ln_not h)]
  | c :: t, pre, acc, h, hl => by
    have hc := c.toNat_lt
    simp only [List.length_cons] at hl
    have ih := arg_l xs hx t (pre ++ [c]) (acc ++ escA c) (lmid_next h) (by have := escA_len c; rw [List.length_append]; omega)
    have hw := wrap_lmid h (by omega)
    refine Ev.step (fun k => ?_) (Ev.same ih (by simp))
    simp only [hertzconv_AppendQuotedArg.l0]
    rw [if_pos (ln_mid h), if_pos (by omega), toI_length, if_pos (ln_mid h), rd_mid h, hw, toI_append]
    unfold escA
    by_cases h32 : c = 32
    · rw [if_pos (by rw [h32]; rfl), if_pos (by rw [toI_length]; omega), if_pos h32]
      rfl
    · rw [if_neg (fun e => h32 (UInt8.toNat_inj.1 (show c.toNat = (32 : UInt8).toNat from by show c.toNat = 32; omega))), wrap_b, if_pos (by omega), tabA_size, if_pos (by omega), if_neg h32]
      by_cases h0 : bt tab2 (c.toNat : Int) = 0
      · rw [if_pos h0, if_pos (by rw [toI_length]; omega), if_pos h0]
        rfl
      · rw [if_neg h0, if_pos (by omega), if_pos (by omega), and15', if_pos (by omega), if_pos (by omega), if_neg h0, ← and15', hex3, Option.bind_some, if_pos (by rw [toI_length, toI_length]; simp; omega)]
theorem arg_ev (xs acc : List UInt8) (hx : xs.length ≤ 1000000000000) (hl : acc.length + 3 * xs.length ≤ 100000000000000) : Ev (fun k => hertzconv_AppendQuotedArg.f k (toI acc) (toI xs)) (toI (acc ++ xs.flatMap escA)) := by
  have := arg_l xs hx xs [] acc rfl hl
  unfold hertzconv_AppendQuotedArg.f
  rw [toI_length]
  exact this
end Go.Proofs.Ytjklempjljikpaa.SpA
