/- How the reference escapes a text for a query. No program in sight. -/
import Derived.Test.YtjklempjljikpaaQ12
import Derived.Test.YtjklempjljikpaaQ17
import Derived.Test.YtjklempjljikpaaQ20
import Derived.Test.YtjklempjljikpaaSpEsA
namespace Go.Proofs.Ytjklempjljikpaa.SpA
open Go.RowKit Go.Proofs.Ytjklempjljikpaa.Q Go.Proofs.YtjklempjljikpaaW.PrintWords Go.Proofs.YtjklempjljikpaaW.PrintLast Go.Proofs.YtjklempjljikpaaKit
set_option linter.unusedVariables false
set_option linter.unusedSimpArgs false
/-! ### the reference -/
theorem unres : ∀ c : Fin 256, spec_unreserved.f ((c : Nat) : Int) = some (decide (bt tab2 ((c : Nat) : Int) = 0)) := by decide +kernel
theorem hx_cut : ∀ d : Fin 16, ((L HX).drop d).take (((d : Nat) + 1) - d) = [hexU d] := by decide +kernel
theorem hexcut (n : Nat) (h : n < 16) : L (HX.extract n (n + 1)) = [hexU n] := by rw [L_extract]; exact hx_cut ⟨n, h⟩
/-- Whether a byte stays, by a list that is asked. -/
structure Asked (lst : ByteArray) (keep : UInt8 → Bool) : Prop where
  ev : ∀ c : UInt8, ∃ i : Int, Ev (fun k => spec_indexOf.f k lst (c.toNat : Int)) i ∧ (decide (bt tab2 (c.toNat : Int) = 0) || decide (i ≥ 0)) = keep c
theorem asked_arg : Asked ⟨#[]⟩ fun c => decide (bt tab2 (c.toNat : Int) = 0) := by
  refine ⟨fun c => ⟨-1, ?_, by simp⟩⟩
  unfold spec_indexOf.f
  exact Ev.step (f := fun _ => some (-1)) (fun k => by simp only [spec_indexOf.l0]; rw [if_neg (by decide)]) (Ev.now _)
def escB (keep : UInt8 → Bool) (blank : List UInt8) (c : UInt8) : List UInt8 :=
  if keep c then [c] else if c = 32 ∧ blank ≠ [] then blank else [37, hexU (c.toNat / 16), hexU (c.toNat % 16)]
theorem pct (c : UInt8) : L ((((⟨#[37]⟩ : ByteArray) ++ (HX.extract ((c.toNat : Int) / 16 : Int).toNat ((((c.toNat : Int) / 16) + 1) % 256 : Int).toNat)) ++ (HX.extract (Go.bits .and .u8 (c.toNat : Int) 15 : Int).toNat (((Go.bits .and .u8 (c.toNat : Int) 15) + 1) % 256 : Int).toNat))) = [37, hexU (c.toNat / 16), hexU (c.toNat % 16)] := by
  have hc := c.toNat_lt
  rw [and15', hi_nib]
  rw [show (((c.toNat / 16 : Nat) : Int)).toNat = c.toNat / 16 by omega, show ((((c.toNat / 16 : Nat) : Int) + 1) % 256).toNat = c.toNat / 16 + 1 by omega, show (((c.toNat % 16 : Nat) : Int)).toNat = c.toNat % 16 by omega, show ((((c.toNat % 16 : Nat) : Int) + 1) % 256).toNat = c.toNat % 16 + 1 by omega]
  rw [L_append, L_append, hexcut _ (by omega), hexcut _ (by omega)]
  rfl
theorem quoted_l (s lst blank : ByteArray) (keep : UInt8 → Bool) (hk : Asked lst keep) (hs : s.size ≤ 1000000) (hb : blank.size ≤ 3) : ∀ (suf pre : List UInt8) (acc : ByteArray), L s = pre ++ suf → acc.size + 3 * suf.length ≤ 100000000 →
    ∃ r, Ev (fun k => spec_quoted.l0 k s lst blank acc (pre.length : Int)) r ∧ L r = L acc ++ suf.flatMap (escB keep (L blank))
  | [], pre, acc, h, hl => ⟨acc, Ev.step (f := fun _ => some acc) (fun k => by simp only [spec_quoted.l0]; rw [if_neg (sz_not h)]) (Ev.now _), by simp⟩
  | c :: t, pre, acc, h, hl => by
    have hc := c.toNat_lt
    simp only [List.length_cons] at hl
    have hw := wrap_mid h (by omega)
    have hsz : s.size = pre.length + t.length + 1 := by rw [size_L, h]; simp; omega
    obtain ⟨i, hi, hik⟩ := hk.ev c
    have hgo : ∀ b : ByteArray, b.size ≤ 3 → L b = escB keep (L blank) c → ∃ r, Ev (fun k => spec_quoted.l0 k s lst blank (acc ++ b) ((pre ++ [c]).length : Int)) r ∧ L r = L acc ++ (c :: t).flatMap (escB keep (L blank)) := by
      intro b hb3 hbe
      obtain ⟨r, hr, he⟩ := quoted_l s lst blank keep hk hs hb t (pre ++ [c]) (acc ++ b) (mid_next h) (by rw [size_append]; omega)
      exact ⟨r, hr, by rw [he, L_append, hbe]; simp⟩
    have hj : ∃ r, Ev (fun k => spec_quoted.j1 k s lst blank acc (pre.length : Int) (c.toNat : Int) (keep c)) r ∧ L r = L acc ++ (c :: t).flatMap (escB keep (L blank)) := by
      by_cases hkc : keep c = true
      · have hx : L (s.extract pre.length (pre.length + 1)) = [c] := by rw [L_extract, h]; simp
        obtain ⟨r, hr, he⟩ := hgo (s.extract pre.length (pre.length + 1)) (by rw [size_L, hx]; simp) (by rw [hx, escB, if_pos hkc])
        refine ⟨r, Ev.step (fun k => ?_) hr, he⟩
        simp only [spec_quoted.j1]
        rw [if_pos hkc, if_pos (by omega), hw, if_pos (by simp; omega), if_pos (by simp; omega), if_pos (by simp; omega)]
        simp
      · have h37 : ∀ (hne : ¬ (c = 32 ∧ L blank ≠ [])), ∃ r, Ev (fun k => spec_quoted.l0 k s lst blank (acc ++ (((⟨#[37]⟩ : ByteArray) ++ (HX.extract ((c.toNat : Int) / 16 : Int).toNat ((((c.toNat : Int) / 16) + 1) % 256 : Int).toNat)) ++ (HX.extract (Go.bits .and .u8 (c.toNat : Int) 15 : Int).toNat (((Go.bits .and .u8 (c.toNat : Int) 15) + 1) % 256 : Int).toNat))) ((pre ++ [c]).length : Int)) r ∧ L r = L acc ++ (c :: t).flatMap (escB keep (L blank)) := by
          intro hne
          exact hgo _ (by rw [size_L, pct]; simp) (by rw [pct, escB, if_neg hkc, if_neg hne])
        have e15 := and15' c
        have hsml : (Go.bits .and .u8 (c.toNat : Int) 15) ≤ 15 ∧ 0 ≤ (Go.bits .and .u8 (c.toNat : Int) 15) := by rw [e15]; omega
        by_cases h32 : c = 32
        · by_cases hbl : L blank = []
          · obtain ⟨r, hr, he⟩ := h37 (fun e => e.2 hbl)
            refine ⟨r, Ev.step (fun k => ?_) hr, he⟩
            simp only [spec_quoted.j1]
            rw [if_neg hkc, if_pos (by rw [h32]; rfl), if_pos (by rw [tl]; exact hbl), if_pos (by omega), if_pos (by omega), if_pos (by omega), if_pos (by omega), if_pos (by omega), if_pos (by omega), if_pos (by omega), if_pos (by omega), if_pos (by omega), hw]
          · obtain ⟨r, hr, he⟩ := hgo blank hb (by rw [escB, if_neg hkc, if_pos ⟨h32, hbl⟩])
            refine ⟨r, Ev.step (fun k => ?_) hr, he⟩
            simp only [spec_quoted.j1]
            rw [if_neg hkc, if_pos (by rw [h32]; rfl), if_neg (by rw [tl]; exact hbl), if_pos (by omega), hw]
        · obtain ⟨r, hr, he⟩ := h37 (fun e => h32 e.1)
          refine ⟨r, Ev.step (fun k => ?_) hr, he⟩
          simp only [spec_quoted.j1]
          rw [if_neg hkc, if_neg (fun e => h32 (UInt8.toNat_inj.1 (show c.toNat = (32 : UInt8).toNat from by show c.toNat = 32; omega))), if_pos (by omega), if_pos (by omega), if_pos (by omega), if_pos (by omega), if_pos (by omega), if_pos (by omega), if_pos (by omega), if_pos (by omega), if_pos (by omega), hw]
    obtain ⟨r, hr, he⟩ := hj
    refine ⟨r, ?_, he⟩
    refine Ev.step (fun k => by simp only [spec_quoted.l0]; rw [if_pos (sz_mid h), if_pos (by omega), bt_mid h, unres ⟨c.toNat, c.toNat_lt⟩, Option.bind_some]) ?_
    by_cases hu : decide (bt tab2 (c.toNat : Int) = 0) = true
    · rw [hu, Bool.true_or] at hik
      refine Ev.pos hu ?_
      rw [hik]; exact hr
    · rw [Bool.eq_false_iff.2 hu, Bool.false_or] at hik
      refine Ev.neg hu (Ev.call hi ?_)
      rw [hik]; exact hr
theorem escB_arg (c : UInt8) : escB (fun c => decide (bt tab2 (c.toNat : Int) = 0)) [43] c = escA c := by
  unfold escB escA
  by_cases h : c = 32
  · subst h; decide +kernel
  · simp [h]
theorem argS (s : ByteArray) (h : s.size ≤ 1000000) : Ev (fun k => spec_QuotedArg.f k s) ⟨((L s).flatMap escA).toArray⟩ := by
  obtain ⟨r, hr, he⟩ := quoted_l s ⟨#[]⟩ ⟨#[43]⟩ _ asked_arg h (by decide) (L s) [] ⟨#[]⟩ rfl (by rw [← size_L, show (⟨#[]⟩ : ByteArray).size = 0 from rfl]; omega)
  unfold spec_QuotedArg.f
  refine Ev.call hr (Ev.some ?_)
  congr 1
  refine ext ?_
  rw [he]
  show [] ++ (L s).flatMap (escB _ [43]) = (L s).flatMap escA
  rw [List.nil_append]
  exact congrArg (fun f => (L s).flatMap f) (funext escB_arg)
end Go.Proofs.Ytjklempjljikpaa.SpA
