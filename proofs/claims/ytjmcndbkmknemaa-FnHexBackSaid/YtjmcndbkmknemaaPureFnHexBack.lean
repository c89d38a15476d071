/- The pure statement of FnHexBack: a number's hexadecimal digits are its value, without a 0 ahead of others, and as many as are told. -/
import Derived.Test.YtjmcndbkmknemaaQ14
import Derived.Test.YtjmcndbkmknemaaQ15
import Derived.Test.YtjmcndbkmknemaaQ16
import Derived.Test.YtjmcndbkmknemaaQ17
import Derived.Test.YtjmcndbkmknemaaSpBytes
import Derived.OpenShut
namespace Go.Proofs.Ytjmcndbkmknemaa.Pure
open Go.RowKit Go.Proofs.Ytjmcndbkmknemaa.Q Go.Proofs.YtjmcndbkmknemaaW.PrintWords Go.Proofs.YtjmcndbkmknemaaW.PrintLast Go.Proofs.YtjmcndbkmknemaaKit Go.Proofs.Ytjmcndbkmknemaa.SpA
set_option linter.unusedVariables false
set_option linter.unusedSimpArgs false
/-- The digits' numbers. -/
def nib : Nat → Nat → List Nat → List Nat
  | 0, _, acc => acc
  | d + 1, n, acc => if n = 0 then acc else nib d (n / 16) (n % 16 :: acc)
abbrev LX : ByteArray := ⟨#[48, 49, 50, 51, 52, 53, 54, 55, 56, 57, 97, 98, 99, 100, 101, 102]⟩
def hx (d : Nat) : UInt8 := (L LX).getD d 0
theorem bt_LX (d : Nat) (h : d < 16) : bt LX (d : Int) = ((hx d).toNat : Int) := by
  rw [bt_nat LX d (by simpa using h)]
  unfold hx
  rw [List.getD_eq_getElem?_getD, List.getElem?_eq_getElem (show d < (L LX).length from h)]
  rfl
theorem hexd_nib : ∀ (d n : Nat) (acc : List Nat), hexd d n (toI (acc.map hx)) = toI ((nib d n acc).map hx)
  | 0, n, acc => rfl
  | d + 1, n, acc => by
    rw [hexd, nib]
    split
    · rfl
    · have := hexd_nib d (n / 16) (n % 16 :: acc)
      rw [← this, bt_LX _ (by omega)]
      rfl
theorem nib_acc : ∀ (d n : Nat) (acc : List Nat), nib d n acc = nib d n [] ++ acc
  | 0, n, acc => rfl
  | d + 1, n, acc => by
    rw [nib, nib]
    split
    · rfl
    · rw [nib_acc d _ (n % 16 :: acc), nib_acc d _ [n % 16]]
      simp
theorem nib_lt : ∀ (d n : Nat) (acc : List Nat), (∀ x ∈ acc, x < 16) → ∀ x ∈ nib d n acc, x < 16
  | 0, n, acc, h => h
  | d + 1, n, acc, h => by
    rw [nib]
    split
    · exact h
    · refine nib_lt d _ _ (fun x hx => ?_)
      rcases List.mem_cons.1 hx with rfl | hx
      · omega
      · exact h x hx
theorem nib_len : ∀ (d n : Nat), (nib d n []).length ≤ d
  | 0, n => by simp [nib]
  | d + 1, n => by
    rw [nib]
    split
    · simp
    · rw [nib_acc, List.length_append]
      have := nib_len d (n / 16)
      simp
      omega
def valN (l : List Nat) : Nat := l.foldl (fun x d => x * 16 + d) 0
theorem valN_snoc (l : List Nat) (d : Nat) : valN (l ++ [d]) = valN l * 16 + d := by unfold valN; rw [List.foldl_append, List.foldl_cons, List.foldl_nil]
theorem nib_val : ∀ (d n : Nat), n < 16 ^ d → valN (nib d n []) = n
  | 0, n, h => by simp [nib, valN]; simp at h; omega
  | d + 1, n, h => by
    rw [nib]
    split
    · rename_i h0; rw [h0]; rfl
    · rw [nib_acc, valN_snoc, nib_val d (n / 16) (by rw [Nat.pow_succ] at h; omega)]
      omega
theorem nib_head : ∀ (d n : Nat), n < 16 ^ d → 0 < n → ∃ x t, nib d n [] = x :: t ∧ 0 < x
  | 0, n, h, hp => by simp at h; omega
  | d + 1, n, h, hp => by
    rw [nib, if_neg (by omega), nib_acc]
    by_cases h0 : n / 16 = 0
    · refine ⟨n % 16, [], ?_, by omega⟩
      rw [h0]
      cases d <;> simp [nib]
    · obtain ⟨x, t, e, hx⟩ := nib_head d (n / 16) (by rw [Nat.pow_succ] at h; omega) (by omega)
      exact ⟨x, t ++ [n % 16], by rw [e]; rfl, hx⟩
/-! ### how many digits -/
theorem len_l : ∀ (d n : Nat) (c : Nat), n < 16 ^ d → c + d ≤ 100 → Ev (fun k => hertzconv_EncodedIntHexLen.l0 k (n : Int) (c : Int)) ((c + (nib d n []).length : Nat) : Int)
  | 0, n, c, h, hc => by
    have : n = 0 := by simp at h; omega
    subst this
    refine Ev.step (f := fun _ => some (c : Int)) (fun k => ?_) (Ev.same (Ev.now _) (by simp [nib]))
    simp only [hertzconv_EncodedIntHexLen.l0]
    rw [if_neg (by omega)]
  | d + 1, n, c, h, hc => by
    by_cases h0 : n = 0
    · subst h0
      refine Ev.step (f := fun _ => some (c : Int)) (fun k => ?_) (Ev.same (Ev.now _) (by simp [nib]))
      simp only [hertzconv_EncodedIntHexLen.l0]
      rw [if_neg (by omega)]
    · have ih := len_l d (n / 16) (c + 1) (by rw [Nat.pow_succ] at h; omega) (by omega)
      rw [nib, if_neg h0, nib_acc]
      refine Ev.step (fun k => ?_) (Ev.same ih (by rw [List.length_append]; simp; omega))
      simp only [hertzconv_EncodedIntHexLen.l0]
      rw [if_pos (by omega), wrap_id (by omega) (by omega)]
      rfl
/-- The text of a number. -/
def digs (n : Nat) : List Nat := if n = 0 then [0] else nib 16 n []
theorem hexText (n : Nat) (h : n < 16 ^ 16) : Ev (fun k => impl_HexText.f k (n : Int)) (⟨((digs n).map hx).toArray⟩, (((digs n).length : Nat) : Int)) := by
  have ha : hertzconv_AppendIntHex.f ([] : List Int) (n : Int) = some (toI ((digs n).map hx)) := by
    unfold hertzconv_AppendIntHex.f digs
    rw [if_pos ⟨by omega, by omega, by simp⟩]
    by_cases h0 : n = 0
    · rw [if_pos (by omega), if_pos h0]; rfl
    · rw [if_neg (by omega), if_neg h0]
      have := hexd_nib 16 n []
      simp only [List.map_nil] at this
      rw [show (n : Int).toNat = n by omega]
      congr 1
  have hb : Ev (fun k => hertzconv_EncodedIntHexLen.f k (n : Int)) (((digs n).length : Nat) : Int) := by
    unfold hertzconv_EncodedIntHexLen.f digs
    by_cases h0 : n = 0
    · exact Ev.pos (by omega) (Ev.some (by rw [if_pos h0]; rfl))
    · refine Ev.neg (by omega) ?_
      rw [if_neg h0]
      exact Ev.same (len_l 16 n 0 h (by omega)) (by simp)
  unfold impl_HexText.f
  rw [ha]
  simp only [Option.bind_some]
  refine Ev.call hb (Ev.some ?_)
  rw [show strOfNums (toI ((digs n).map hx)) = ⟨((digs n).map hx).toArray⟩ from ext (L_strOf _)]
/-! ### the statement's reading -/
theorem hex_tab : ∀ d : Fin 16, laws_hex.f 4 ((hx d).toNat : Int) = some ((d : Nat) : Int) := by decide +kernel
theorem hex_sign : ∀ d : Fin 16, ¬ (((hx d).toNat : Int) < 97 ∧ ((hx d).toNat : Int) > 57) := by decide +kernel
theorem hex_zero : ∀ d : Fin 16, ((hx d).toNat : Int) = 48 → (d : Nat) = 0 := by decide +kernel
theorem hex_ev (d : Nat) (h : d < 16) : Ev (fun k => laws_hex.f k ((hx d).toNat : Int)) (d : Int) := Ev.of (fun k => laws_hex.mono _ k) (hex_tab ⟨d, h⟩)
theorem or_add (x d : Nat) (h : x * 16 + d < 2 ^ 64) (hd : d < 16) : Go.bits .or .u64 (IntKind.u64.wrap ((x : Int) * 16)) (IntKind.u64.wrap (d : Int)) = ((x * 16 + d : Nat) : Int) := by
  rw [wraps_u64 _ (by omega) (by omega), wraps_u64 _ (by omega) (by omega), bits_join .u64 64 (by decide) wraps_u64 4 _ _ (by omega) (by omega) (by omega) (by omega) (by omega) (by omega)]
  omega
theorem valN_le : ∀ (t : List Nat) (p : List Nat), valN p ≤ valN (p ++ t)
  | [], p => by simp
  | d :: t, p => by
    have := valN_le t (p ++ [d])
    rw [valN_snoc] at this
    rw [show p ++ d :: t = (p ++ [d]) ++ t by simp]
    omega
theorem end_h (n : Nat) (h : n < 2 ^ 64) (s : ByteArray) (ds : List Nat) (hs : L s = ds.map hx) (hd : ∀ x ∈ ds, x < 16) (hl : ds.length ≤ 16) (hv : valN ds = n) :
    ∀ (suf pre : List Nat), ds = pre ++ suf → Ev (fun k => laws_FnHexBack.l0 k (n : Int) s (valN pre : Nat) (s.size : Int) (pre.length : Int)) true
  | [], pre, he => by
    rw [List.append_nil] at he
    subst he
    refine Ev.step (f := fun _ => some (((valN ds : Nat) : Int) == (n : Int))) (fun k => ?_) (Ev.same (Ev.now _) (by rw [hv]; simp))
    simp only [laws_FnHexBack.l0]
    rw [if_neg (by rw [size_L, hs]; simp)]
  | d :: t, pre, he => by
    have hd16 : d < 16 := hd d (by rw [he]; simp)
    have hsz : s.size = pre.length + t.length + 1 := by rw [size_L, hs, he]; simp; omega
    have hdl : ds.length = pre.length + t.length + 1 := by rw [he]; simp; omega
    have hL : L s = pre.map hx ++ hx d :: t.map hx := by rw [hs, he]; simp
    have hb : bt s (pre.length : Int) = ((hx d).toNat : Int) := by
      have := bt_mid hL
      rwa [List.length_map] at this
    have hle : valN (pre ++ [d]) ≤ n := by
      rw [← hv, he, show pre ++ d :: t = (pre ++ [d]) ++ t by simp]
      exact valN_le t _
    rw [valN_snoc] at hle
    have ih := end_h n h s ds hs hd hl hv t (pre ++ [d]) (by rw [he]; simp)
    rw [valN_snoc] at ih
    have hw : wrap64 ((pre.length : Int) + 1) = ((pre ++ [d]).length : Int) := by rw [List.length_append]; rw [wrap_id (by omega) (by omega)]; simp
    refine Ev.step (fun k => by simp only [laws_FnHexBack.l0]; rw [if_pos (by omega), if_pos (by omega), if_pos (by omega), hb]) (Ev.call (hex_ev d hd16) ?_)
    refine Ev.neg (by omega) ?_
    by_cases c : ((hx d).toNat : Int) < 97
    · refine Ev.pos c (Ev.neg (fun e => hex_sign ⟨d, hd16⟩ ⟨c, e⟩) (Ev.call (hex_ev d hd16) ?_))
      rw [or_add _ _ (by omega) hd16, hw]
      exact ih
    · refine Ev.neg c (Ev.call (hex_ev d hd16) ?_)
      rw [or_add _ _ (by omega) hd16, hw]
      exact ih
theorem FnHexBack : laws_FnHexBack.Pure := by
  intro a ha
  have hbd : 0 ≤ a ∧ a ≤ 18446744073709551615 := bounds_u64 ha
  obtain ⟨n, rfl⟩ : ∃ n : Nat, a = n := ⟨a.toNat, by omega⟩
  have hn : n < 16 ^ 16 := by omega
  refine Ev.rounds ?_
  unfold laws_FnHexBack.f
  refine Ev.call (hexText 255 (by decide)) (Ev.pos (by rw [tl]; decide +kernel) ?_)
  refine Ev.step (fun k => by simp only [laws_FnHexBack.j0]; rw [if_neg (by decide +kernel)]) (Ev.call (hexText n hn) ?_)
  have hsz : (⟨((digs n).map hx).toArray⟩ : ByteArray).size = (digs n).length := by rw [size_L]; simp
  have hdl : (digs n).length ≤ 16 ∧ 0 < (digs n).length ∧ (∀ x ∈ digs n, x < 16) ∧ valN (digs n) = n := by
    unfold digs
    by_cases h0 : n = 0
    · rw [if_pos h0, h0]; exact ⟨by decide, by decide, by decide, by decide⟩
    · rw [if_neg h0]
      obtain ⟨x, t, e, _⟩ := nib_head 16 n hn (by omega)
      exact ⟨nib_len 16 n, by rw [e]; simp, nib_lt 16 n [] (by simp), nib_val 16 n hn⟩
  have hj : Ev (fun k => laws_FnHexBack.j1 k (n : Int) ⟨((digs n).map hx).toArray⟩ false) true :=
    Ev.step (fun k => by simp only [laws_FnHexBack.j1]; rw [if_neg (by decide)]; rfl) (end_h n (by omega) ⟨((digs n).map hx).toArray⟩ (digs n) rfl hdl.2.2.1 hdl.1 hdl.2.2.2 (digs n) [] rfl)
  refine Ev.pos (by simp only [hsz]) (Ev.neg ?_ (Ev.neg (by simp only [hsz]; omega) ?_))
  · rw [tl]
    intro e
    have h1 := congrArg List.length e
    simp at h1
    have h2 := hdl.2.1
    rw [h1] at h2
    simp at h2
  · by_cases h1 : 1 < (digs n).length
    · refine Ev.pos (by simp only [hsz]; omega) (Ev.pos (by simp only [hsz]; omega) ?_)
      have hnz : n ≠ 0 := by rintro rfl; simp [digs] at h1
      obtain ⟨x, t, e, hx0⟩ := nib_head 16 n hn (by omega)
      have hd : digs n = x :: t := by unfold digs; rw [if_neg hnz, e]
      have hb : bt (⟨((digs n).map hx).toArray⟩ : ByteArray) 0 = ((hx x).toNat : Int) := by
        have := bt_mid (s := (⟨((digs n).map hx).toArray⟩ : ByteArray)) (pre := []) (c := hx x) (t := t.map hx) (by rw [hd]; rfl)
        exact this
      have : (((hx x).toNat : Int) == 48) = false := by
        rw [beq_eq_false_iff_ne]
        intro e
        have := hex_zero ⟨x, hdl.2.2.1 x (by rw [hd]; simp)⟩ e
        simp at this
        omega
      simp only [hb, this]
      exact hj
    · exact Ev.neg (by simp only [hsz]; omega) hj
end Go.Proofs.Ytjmcndbkmknemaa.Pure
