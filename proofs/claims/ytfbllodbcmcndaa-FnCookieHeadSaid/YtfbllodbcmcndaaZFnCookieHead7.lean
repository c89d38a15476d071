/- FnCookieHead: the law's function, called with any arguments, returns true and leaves its arguments as they were: every input, no condition. Part 8 of 8. -/
import Derived.Deep.Slices
import Derived.Test.YtfbllodbcmcndaaZFnCookieHead0
import Derived.Test.YtfbllodbcmcndaaZFnCookieHead6
import Derived.ChangeSame
import Derived.Test.YtfbllodbcmcndaaZFnCookieHead5
import Derived.Test.YtfbllodbcmcndaaZFnCookieHead1
import Derived.Test.YtfbllodbcmcndaaZFnCookieHead4
import Derived.Test.YtfbllodbcmcndaaZFnCookieHead2
import Derived.OpenShut
import Derived.Test.YtfbllodbcmcndaaRows
import Derived.WalkKit
import Derived.ProofKit
import Derived.ShutString
import Derived.ChangeOld
import Derived.Below
import Derived.SizedLaws
section
namespace Go.Proofs.Ytfbllodbcmcndaa.StFnCookieHead
open Go.RowKit Go.ChangeShapes Go.WideShapes Go.Proofs.Ytfbllodbcmcndaa.Q Go.Proofs.YtfbllodbcmcndaaW.PrintWords Go.Proofs.YtfbllodbcmcndaaW.PrintLast
set_option linter.unusedVariables false
set_option linter.unusedSimpArgs false
set_option maxRecDepth 100000
theorem agg53 {H : Type} {enc : TypeId × Value → H} {w : World} {base : Nat} {spare : Nat → Bool} {held : Bool} (n : Nat) (cs : List Value) (y : DataW H × List MemPlace)
    (h : DataW.trod enc Try.prog w base spare held n 53 cs = some y) : ∃ (x0 : ByteArray) (x1 : ByteArray) (x2 : ByteArray) (x3 : ByteArray) (x4 : Int) (x5 : Int) (x6 : Bool) (x7 : Bool) (x8 : Bool), cs = [.string x0, .string x1, .string x2, .string x3, .int .i64 x4, .int .i64 x5, .bool x6, .bool x7, .bool x8] ∧ (x0.size ≤ maxLen) ∧ (x1.size ≤ maxLen) ∧ (x2.size ≤ maxLen) ∧ (x3.size ≤ maxLen) ∧ ((Lit.int .i64 x4).wf = true) ∧ ((Lit.int .i64 x5).wf = true) := by
  obtain ⟨xs, m, _, _, hl, hlen, hf⟩ := DataW.trod_struct Try.underlying53 h
  have hc : Try.prog.cellsOf 53 = 9 := by kernel_rfl
  rw [hc] at hl
  have c_3 : Try.prog.cellsOf 3 = 1 := by kernel_rfl
  have c_4 : Try.prog.cellsOf 4 = 1 := by kernel_rfl
  have c_9 : Try.prog.cellsOf 9 = 1 := by kernel_rfl
  match cs, hl with
  | [c0, c1, c2, c3, c4, c5, c6, c7, c8], _ =>
    match xs, hlen with
    | [y0, y1, y2, y3, y4, y5, y6, y7, y8], _ =>
      have g0 : DataW.trod enc Try.prog w base spare held m 9 (List.take (Try.prog.cellsOf 9) (List.drop 0 [c0, c1, c2, c3, c4, c5, c6, c7, c8])) = some y0 := hf 0 _ rfl
      rw [c_9] at g0
      have h0 : DataW.trod enc Try.prog w base spare held m 9 [c0] = some y0 := g0
      clear g0
      have g1 : DataW.trod enc Try.prog w base spare held m 9 (List.take (Try.prog.cellsOf 9) (List.drop 1 [c0, c1, c2, c3, c4, c5, c6, c7, c8])) = some y1 := hf 1 _ rfl
      rw [c_9] at g1
      have h1 : DataW.trod enc Try.prog w base spare held m 9 [c1] = some y1 := g1
      clear g1
      have g2 : DataW.trod enc Try.prog w base spare held m 9 (List.take (Try.prog.cellsOf 9) (List.drop 2 [c0, c1, c2, c3, c4, c5, c6, c7, c8])) = some y2 := hf 2 _ rfl
      rw [c_9] at g2
      have h2 : DataW.trod enc Try.prog w base spare held m 9 [c2] = some y2 := g2
      clear g2
      have g3 : DataW.trod enc Try.prog w base spare held m 9 (List.take (Try.prog.cellsOf 9) (List.drop 3 [c0, c1, c2, c3, c4, c5, c6, c7, c8])) = some y3 := hf 3 _ rfl
      rw [c_9] at g3
      have h3 : DataW.trod enc Try.prog w base spare held m 9 [c3] = some y3 := g3
      clear g3
      have g4 : DataW.trod enc Try.prog w base spare held m 3 (List.take (Try.prog.cellsOf 3) (List.drop 4 [c0, c1, c2, c3, c4, c5, c6, c7, c8])) = some y4 := hf 4 _ rfl
      rw [c_3] at g4
      have h4 : DataW.trod enc Try.prog w base spare held m 3 [c4] = some y4 := g4
      clear g4
      have g5 : DataW.trod enc Try.prog w base spare held m 3 (List.take (Try.prog.cellsOf 3) (List.drop 5 [c0, c1, c2, c3, c4, c5, c6, c7, c8])) = some y5 := hf 5 _ rfl
      rw [c_3] at g5
      have h5 : DataW.trod enc Try.prog w base spare held m 3 [c5] = some y5 := g5
      clear g5
      have g6 : DataW.trod enc Try.prog w base spare held m 4 (List.take (Try.prog.cellsOf 4) (List.drop 6 [c0, c1, c2, c3, c4, c5, c6, c7, c8])) = some y6 := hf 6 _ rfl
      rw [c_4] at g6
      have h6 : DataW.trod enc Try.prog w base spare held m 4 [c6] = some y6 := g6
      clear g6
      have g7 : DataW.trod enc Try.prog w base spare held m 4 (List.take (Try.prog.cellsOf 4) (List.drop 7 [c0, c1, c2, c3, c4, c5, c6, c7, c8])) = some y7 := hf 7 _ rfl
      rw [c_4] at g7
      have h7 : DataW.trod enc Try.prog w base spare held m 4 [c7] = some y7 := g7
      clear g7
      have g8 : DataW.trod enc Try.prog w base spare held m 4 (List.take (Try.prog.cellsOf 4) (List.drop 8 [c0, c1, c2, c3, c4, c5, c6, c7, c8])) = some y8 := hf 8 _ rfl
      rw [c_4] at g8
      have h8 : DataW.trod enc Try.prog w base spare held m 4 [c8] = some y8 := g8
      clear g8
      obtain ⟨x0, e0, _, z0⟩ := DataW.trod_string Try.underlying9 h0
      obtain rfl : c0 = .string x0 := by simpa using e0
      obtain ⟨x1, e1, _, z1⟩ := DataW.trod_string Try.underlying9 h1
      obtain rfl : c1 = .string x1 := by simpa using e1
      obtain ⟨x2, e2, _, z2⟩ := DataW.trod_string Try.underlying9 h2
      obtain rfl : c2 = .string x2 := by simpa using e2
      obtain ⟨x3, e3, _, z3⟩ := DataW.trod_string Try.underlying9 h3
      obtain rfl : c3 = .string x3 := by simpa using e3
      obtain ⟨x4, e4, _, z4⟩ := DataW.trod_int Try.underlying3 h4
      obtain rfl : c4 = .int .i64 x4 := by simpa using e4
      obtain ⟨x5, e5, _, z5⟩ := DataW.trod_int Try.underlying3 h5
      obtain rfl : c5 = .int .i64 x5 := by simpa using e5
      obtain ⟨x6, e6, _⟩ := DataW.trod_bool Try.underlying4 h6
      obtain rfl : c6 = .bool x6 := by simpa using e6
      obtain ⟨x7, e7, _⟩ := DataW.trod_bool Try.underlying4 h7
      obtain rfl : c7 = .bool x7 := by simpa using e7
      obtain ⟨x8, e8, _⟩ := DataW.trod_bool Try.underlying4 h8
      obtain rfl : c8 = .bool x8 := by simpa using e8
      exact ⟨x0, x1, x2, x3, x4, x5, x6, x7, x8, rfl, z0, z1, z2, z3, z4, z5⟩
def Pure : Prop := ∀ (a0_0 : ByteArray) (a0_1 : ByteArray) (a0_2 : ByteArray) (a0_3 : ByteArray) (a0_4 : Int) (a0_5 : Int) (a0_6 : Bool) (a0_7 : Bool) (a0_8 : Bool), a0_0.size ≤ maxLen → a0_1.size ≤ maxLen → a0_2.size ≤ maxLen → a0_3.size ≤ maxLen → (Lit.int .i64 a0_4).wf = true → (Lit.int .i64 a0_5).wf = true → ∃ k, laws_FnCookieHead.f k a0_0 a0_1 a0_2 a0_3 a0_4 a0_5 a0_6 a0_7 a0_8 = some true
end Go.Proofs.Ytfbllodbcmcndaa.StFnCookieHead
end
section
namespace Go.Proofs.Ytfbllodbcmcndaa.Q
open Go.RowKit Go.Proofs.YtfbllodbcmcndaaW.PrintWords Go.Proofs.YtfbllodbcmcndaaW.PrintLast Go.Proofs.YtfbllodbcmcndaaW.PrintMore
attribute [local go_sem] max2_int min2_int max_two min_two max_three min_three max_four min_four
set_option linter.unusedVariables false
set_option linter.unusedSimpArgs false
end Go.Proofs.Ytfbllodbcmcndaa.Q
end
section
namespace Go.Proofs.Ytfbllodbcmcndaa.Q
open Go.RowKit Go.Proofs.YtfbllodbcmcndaaW.PrintWords Go.Proofs.YtfbllodbcmcndaaW.PrintLast Go.Proofs.YtfbllodbcmcndaaW.PrintMore
attribute [local go_sem] max2_int min2_int max_two min_two max_three min_three max_four min_four
set_option linter.unusedVariables false
set_option linter.unusedSimpArgs false
end Go.Proofs.Ytfbllodbcmcndaa.Q
end
section
namespace Go.Proofs.Ytfbllodbcmcndaa.Q
open Go.RowKit Go.Proofs.YtfbllodbcmcndaaW.PrintWords Go.Proofs.YtfbllodbcmcndaaW.PrintLast Go.Proofs.YtfbllodbcmcndaaW.PrintMore
attribute [local go_sem] max2_int min2_int max_two min_two max_three min_three max_four min_four
set_option linter.unusedVariables false
set_option linter.unusedSimpArgs false
end Go.Proofs.Ytfbllodbcmcndaa.Q
end
section
namespace Go.Proofs.Ytfbllodbcmcndaa.Q
open Go.RowKit Go.Proofs.YtfbllodbcmcndaaW.PrintWords Go.Proofs.YtfbllodbcmcndaaW.PrintLast Go.Proofs.YtfbllodbcmcndaaW.PrintMore
attribute [local go_sem] max2_int min2_int max_two min_two max_three min_three max_four min_four
set_option linter.unusedVariables false
set_option linter.unusedSimpArgs false
end Go.Proofs.Ytfbllodbcmcndaa.Q
end
section
namespace Go.Proofs.Ytfbllodbcmcndaa.SpA
open Go.RowKit Go.Proofs.Ytfbllodbcmcndaa.Q Go.Proofs.YtfbllodbcmcndaaW.PrintWords Go.Proofs.YtfbllodbcmcndaaW.PrintLast Go.Proofs.YtfbllodbcmcndaaKit
set_option linter.unusedVariables false
set_option linter.unusedSimpArgs false
theorem holds_l (s : ByteArray) (x : Int) (hs : s.size ≤ 140737488351232) : ∀ (suf pre : List UInt8), L s = pre ++ suf → Ev (fun k => laws_holds.l0 k s x s.size pre.length) (suf.any (fun c => decide ((c.toNat : Int) = x)))
  | [], pre, h => Ev.step (f := fun _ => some false) (fun k => by simp only [laws_holds.l0]; rw [if_neg (sz_not h)]) (Ev.now _)
  | c :: t, pre, h => by
    rw [List.any_cons]
    by_cases c1 : (c.toNat : Int) = x
    · rw [decide_eq_true c1, Bool.true_or]
      refine Ev.step (f := fun _ => some true) (fun k => ?_) (Ev.now _)
      simp only [laws_holds.l0]
      rw [if_pos (sz_mid h), if_pos (by omega), if_pos (sz_mid h), bt_mid h, if_pos c1]
    · rw [decide_eq_false c1, Bool.false_or]
      refine Ev.step (fun k => ?_) (holds_l s x hs t (pre ++ [c]) (mid_next h))
      simp only [laws_holds.l0]
      rw [if_pos (sz_mid h), if_pos (by omega), if_pos (sz_mid h), bt_mid h, if_neg c1, wrap_mid h hs]
theorem holds (s : ByteArray) (x : Int) (hs : s.size ≤ 140737488351232) : Ev (fun k => laws_holds.f k s x) ((L s).any (fun c => decide ((c.toNat : Int) = x))) := holds_l s x hs (L s) [] rfl
end Go.Proofs.Ytfbllodbcmcndaa.SpA
end
section
namespace Go.Proofs.Ytfbllodbcmcndaa.SpA
open Go.RowKit Go.Proofs.Ytfbllodbcmcndaa.Q Go.Proofs.YtfbllodbcmcndaaW.PrintWords Go.Proofs.YtfbllodbcmcndaaW.PrintLast Go.Proofs.YtfbllodbcmcndaaKit
set_option linter.unusedVariables false
set_option linter.unusedSimpArgs false
abbrev HX : ByteArray := ⟨#[48, 49, 50, 51, 52, 53, 54, 55, 56, 57, 65, 66, 67, 68, 69, 70]⟩
def good (c : UInt8) : Prop := c ≠ 59 ∧ c ≠ 61 ∧ c ≠ 32 ∧ c ≠ 34
def gtok (l : List UInt8) : Prop := l ≠ [] ∧ ∀ c ∈ l, good c
theorem good_of {c : UInt8} (h : (c.toNat : Int) ≠ 59 ∧ (c.toNat : Int) ≠ 61 ∧ (c.toNat : Int) ≠ 32 ∧ (c.toNat : Int) ≠ 34) : good c :=
  ⟨fun e => h.1 (by rw [e]; rfl), fun e => h.2.1 (by rw [e]; rfl), fun e => h.2.2.1 (by rw [e]; rfl), fun e => h.2.2.2 (by rw [e]; rfl)⟩
theorem tok_l (s : ByteArray) (hs : s.size ≤ 140737488351232) : ∀ (suf pre : List UInt8), L s = pre ++ suf → ∃ b, Ev (fun k => laws_token.l0 k s s.size pre.length) b ∧ (b = true → L s ≠ [] ∧ ∀ c ∈ suf, good c)
  | [], pre, h => ⟨_, Ev.step (f := fun _ => some (s.toList != [])) (fun k => by simp only [laws_token.l0]; rw [if_neg (sz_not h)]) (Ev.now _), fun e => ⟨by rw [← tl]; exact bne_iff_ne.1 e, by simp⟩⟩
  | c :: t, pre, h => by
    have no : (∀ k, laws_token.l0 (k + 1) s s.size pre.length = some false) → ∃ b, Ev (fun k => laws_token.l0 k s s.size pre.length) b ∧ (b = true → L s ≠ [] ∧ ∀ x ∈ c :: t, good x) := fun hk => ⟨false, Ev.step (f := fun _ => some false) hk (Ev.now _), fun e => by cases e⟩
    by_cases h1 : (c.toNat : Int) ≤ 32
    · refine no fun k => ?_
      simp only [laws_token.l0]
      rw [if_pos (sz_mid h), if_pos (by omega), if_pos (sz_mid h), bt_mid h, if_pos h1]
    by_cases h2 : (c.toNat : Int) > 126
    · refine no fun k => ?_
      simp only [laws_token.l0]
      rw [if_pos (sz_mid h), if_pos (by omega), if_pos (sz_mid h), bt_mid h, if_neg h1, if_pos h2]
    have hh := holds (⟨#[61, 59, 44, 34, 92]⟩ : ByteArray) (c.toNat : Int) (by decide)
    have step : ∀ k, laws_token.l0 (k + 1) s s.size pre.length = (laws_holds.f k (⟨#[61, 59, 44, 34, 92]⟩ : ByteArray) (c.toNat : Int)).bind fun b => if b = true then some false else laws_token.l0 k s s.size (pre ++ [c]).length := fun k => by
      simp only [laws_token.l0]
      rw [if_pos (sz_mid h), if_pos (by omega), if_pos (sz_mid h), bt_mid h, if_neg h1, if_neg h2, wrap_mid h hs]
    obtain ⟨b, hb, hg⟩ := tok_l s hs t (pre ++ [c]) (mid_next h)
    by_cases h3 : ((L (⟨#[61, 59, 44, 34, 92]⟩ : ByteArray)).any fun x => decide ((x.toNat : Int) = (c.toNat : Int))) = true
    · rw [h3] at hh
      exact ⟨false, Ev.step step (Ev.call hh (Ev.pos rfl (Ev.now _))), fun e => by cases e⟩
    · rw [Bool.eq_false_iff.2 h3] at hh
      refine ⟨b, Ev.step step (Ev.call hh (Ev.neg (by decide) hb)), fun e => ⟨(hg e).1, fun x hx => ?_⟩⟩
      rcases List.mem_cons.1 hx with rfl | hx
      · have h4 : ∀ y ∈ L (⟨#[61, 59, 44, 34, 92]⟩ : ByteArray), (y.toNat : Int) ≠ (x.toNat : Int) := fun y hy e2 => h3 (List.any_eq_true.2 ⟨y, hy, decide_eq_true e2⟩)
        have m : ∀ y : UInt8, y ∈ ([61, 59, 44, 34, 92] : List UInt8) → (y.toNat : Int) ≠ (x.toNat : Int) := h4
        refine good_of ⟨fun e2 => m 59 (by decide) (by rw [e2]; rfl), fun e2 => m 61 (by decide) (by rw [e2]; rfl), by omega, fun e2 => m 34 (by decide) (by rw [e2]; rfl)⟩
      · exact (hg e).2 x hx
theorem tok (s : ByteArray) (hs : s.size ≤ 140737488351232) : ∃ b, Ev (fun k => laws_token.f k s) b ∧ (b = true → gtok (L s)) := tok_l s hs (L s) [] rfl
end Go.Proofs.Ytfbllodbcmcndaa.SpA
end
section
namespace Go.Proofs.Ytfbllodbcmcndaa.SpA
open Go.RowKit Go.Proofs.Ytfbllodbcmcndaa.Q Go.Proofs.YtfbllodbcmcndaaW.PrintWords Go.Proofs.YtfbllodbcmcndaaW.PrintLast Go.Proofs.YtfbllodbcmcndaaKit
set_option linter.unusedVariables false
set_option linter.unusedSimpArgs false
theorem short_l (ys xs : List ByteArray) (hx : xs.length ≤ 9223372036854775807) : ∀ (suf pre : List ByteArray), xs = pre ++ suf → Ev (fun k => laws_short.l0 k ys xs xs.length pre.length) (suf.all (fun s => decide (s.size ≤ 2000)) && decide (ys.length ≤ 60))
  | [], pre, h => by
    refine Ev.step (f := fun _ => some (decide ((ys.length : Int) ≤ 60))) (fun k => by simp only [laws_short.l0]; rw [if_neg (ln_not h)]) (Ev.same (Ev.now _) ?_)
    rw [List.all_nil, Bool.true_and]
    exact decide_eq_decide.2 (by omega)
  | p :: t, pre, h => by
    have e : rdOf ByteArray.empty xs pre.length = p := get_mid h _
    rw [List.all_cons]
    by_cases c : p.size ≤ 2000
    · rw [decide_eq_true c, Bool.true_and]
      refine Ev.step (fun k => ?_) (short_l ys xs hx t (pre ++ [p]) (lmid_next h))
      simp only [laws_short.l0]
      rw [if_pos (ln_mid h), if_pos (by omega), if_pos (ln_mid h), e, if_neg (by omega), wrap_lmid h hx]
    · rw [decide_eq_false c, Bool.false_and, Bool.false_and]
      refine Ev.step (f := fun _ => some false) (fun k => ?_) (Ev.now _)
      simp only [laws_short.l0]
      rw [if_pos (ln_mid h), if_pos (by omega), if_pos (ln_mid h), e, if_pos (by omega)]
def isWordB (c : UInt8) : Bool := !(decide ((Go.bits .or .u8 (c.toNat : Int) 32) < 97) || decide ((Go.bits .or .u8 (c.toNat : Int) 32) > 122)) || !(decide ((c.toNat : Int) < 48) || decide ((c.toNat : Int) > 57))
end Go.Proofs.Ytfbllodbcmcndaa.SpA
end
section
namespace Go.Proofs.Ytfbllodbcmcndaa.SpA
open Go.RowKit Go.Proofs.Ytfbllodbcmcndaa.Q Go.Proofs.YtfbllodbcmcndaaW.PrintWords Go.Proofs.YtfbllodbcmcndaaW.PrintLast Go.Proofs.YtfbllodbcmcndaaKit
set_option linter.unusedVariables false
set_option linter.unusedSimpArgs false
theorem fits11 (a0 a1 a2 a3 : ByteArray) (a4 a5 : Int) (a6 a7 a8 : Bool) : ∃ b, laws_zzFits11.f a0 a1 a2 a3 a4 a5 a6 a7 a8 = some b ∧ (b = true → a0.size ≤ 2147483647 ∧ a1.size ≤ 2147483647 ∧ a2.size ≤ 2147483647 ∧ a3.size ≤ 2147483647) := by
  unfold laws_zzFits11.f
  split
  · exact ⟨false, rfl, fun e => by cases e⟩
  split
  · exact ⟨false, rfl, fun e => by cases e⟩
  split
  · exact ⟨false, rfl, fun e => by cases e⟩
  split
  · exact ⟨false, rfl, fun e => by cases e⟩
  exact ⟨true, rfl, fun _ => by omega⟩
theorem ck_ab : impl_CookieText.f (⟨#[97]⟩ : ByteArray) (⟨#[98]⟩ : ByteArray) (⟨#[]⟩ : ByteArray) (⟨#[]⟩ : ByteArray) 0 0 false false false = some ⟨#[97, 61, 98]⟩ := by
  unfold impl_CookieText.f
  rw [if_pos (by decide)]
  rfl
theorem ck_len (k v d p : List UInt8) (ma ss : Int) (ho se pa : Bool) (hk : k.length ≤ 2000) (hv : v.length ≤ 2000) (hd : d.length ≤ 2000) (hp : p.length ≤ 3000) (hm : -9223372036854775808 ≤ ma ∧ ma ≤ 9223372036854775807) :
    (ckText k v ma d p ho se ss pa).length ≤ 20000 := by
  have h1 : (ckKey k).length ≤ 2001 := by unfold ckKey; split <;> simp <;> omega
  have h2 : (ckAge ma).length ≤ 40 := by
    have := decU_len 18 ma.toNat (by omega)
    unfold ckAge
    split
    · simp
    · split <;> simp <;> omega
  have h3 : (ckDom d).length ≤ 2010 := by unfold ckDom; split <;> simp <;> omega
  have h4 : (ckPath p).length ≤ 3010 := by unfold ckPath; split <;> simp <;> omega
  have h5 : (ckHo ho).length ≤ 40 := by unfold ckHo; split <;> simp
  have h6 : (ckSe se).length ≤ 40 := by unfold ckSe; split <;> simp
  have h7 : (ckSite ss).length ≤ 40 := by unfold ckSite; (repeat' split) <;> simp
  have h8 : (ckPa pa).length ≤ 40 := by unfold ckPa; split <;> simp
  unfold ckText
  simp only [List.length_append]
  omega
theorem short4 (a b c d : ByteArray) : Ev (fun k => laws_short.f k [a, b, c, d]) (decide (a.size ≤ 2000 ∧ b.size ≤ 2000 ∧ c.size ≤ 2000 ∧ d.size ≤ 2000)) :=
  Ev.same (short_l [a, b, c, d] [a, b, c, d] (by simp) [a, b, c, d] [] rfl) (by
    simp only [List.all_cons, List.all_nil, Bool.and_true, List.length_cons, List.length_nil]
    rw [show decide (0 + 1 + 1 + 1 + 1 ≤ 60) = true by decide, Bool.and_true]
    simp only [Bool.decide_and])
end Go.Proofs.Ytfbllodbcmcndaa.SpA
end
section
namespace Go.Proofs.Ytfbllodbcmcndaa.SpA
open Go.RowKit Go.Proofs.Ytfbllodbcmcndaa.Q Go.Proofs.YtfbllodbcmcndaaW.PrintWords Go.Proofs.YtfbllodbcmcndaaW.PrintLast Go.Proofs.YtfbllodbcmcndaaKit
set_option linter.unusedVariables false
set_option linter.unusedSimpArgs false
theorem begins_eq (a b : ByteArray) : laws_begins.f a b = some (decide (b.size ≤ a.size) && ((L a).take b.size == L b)) := by
  unfold laws_begins.f
  by_cases h : b.size ≤ a.size
  · rw [if_pos (by omega), if_pos (by omega), decide_eq_true h, Bool.true_and, tl, tl, L_extract]
    simp
  · rw [if_neg (by omega), decide_eq_false h, Bool.false_and]
theorem begins_yes (a b : ByteArray) (y : List UInt8) (h : L a = L b ++ y) : laws_begins.f a b = some true := by
  rw [begins_eq, decide_eq_true (by rw [size_L, size_L, h]; simp), Bool.true_and, h, size_L, List.take_left, beq_self_eq_true]
theorem stands_yes_l (a b : ByteArray) (hs : a.size ≤ 140737488351232) : ∀ (n : Nat) (suf pre : List UInt8), suf.length ≤ n → L a = pre ++ suf → (∃ x y, suf = x ++ L b ++ y) → Ev (fun k => laws_stands.l0 k a b ((a.size : Int) + 1) pre.length) true
  | n, suf, pre, hn, h, hxy => by
    have hsz : a.size = pre.length + suf.length := by rw [size_L, h, List.length_append]
    have hstep : ∀ k, laws_stands.l0 (k + 1) a b ((a.size : Int) + 1) pre.length = (laws_begins.f (a.extract (pre.length : Int).toNat a.size) b).bind fun t => if t = true then some true else laws_stands.l0 k a b ((a.size : Int) + 1) ((pre.length : Int) + 1) := fun k => by
      simp only [laws_stands.l0]
      rw [if_pos (by omega), if_pos (by omega), if_pos (by omega), wrap_id (x := (pre.length : Int) + 1) (by omega) (by omega)]
    have hE : L (a.extract (pre.length : Int).toNat a.size) = suf := by
      rw [L_extract, Int.toNat_natCast, h, List.drop_left, List.take_of_length_le (by omega)]
    cases hb : laws_begins.f (a.extract (pre.length : Int).toNat a.size) b with
    | none => rw [begins_eq] at hb; cases hb
    | some r =>
      cases r with
      | true =>
        exact Ev.step hstep (Ev.call (f := fun k t => if t = true then some true else laws_stands.l0 k a b ((a.size : Int) + 1) ((pre.length : Int) + 1)) (Ev.some hb) (Ev.pos rfl (Ev.now _)))
      | false =>
        obtain ⟨x, y, hx⟩ := hxy
        cases x with
        | nil =>
          rw [begins_yes _ b y (by rw [hE, hx]; rfl)] at hb
          cases hb
        | cons c x =>
          rw [List.cons_append, List.cons_append] at hx
          subst hx
          match n, hn with
          | n + 1, hn =>
          have ih := stands_yes_l a b hs n (x ++ L b ++ y) (pre ++ [c]) (by simp at hn ⊢; omega) (mid_next h) ⟨x, y, rfl⟩
          rw [show ((pre ++ [c]).length : Int) = (pre.length : Int) + 1 by simp] at ih
          exact Ev.step hstep (Ev.call (f := fun k t => if t = true then some true else laws_stands.l0 k a b ((a.size : Int) + 1) ((pre.length : Int) + 1)) (Ev.some hb) (Ev.neg (by decide) ih))
theorem stands_yes (a b : ByteArray) (hs : a.size ≤ 140737488351232) (x y : List UInt8) (h : L a = x ++ L b ++ y) : Ev (fun k => laws_stands.f k a b) true := by
  have := stands_yes_l a b hs (L a).length (L a) [] (Nat.le_refl _) rfl ⟨x, y, h⟩
  unfold laws_stands.f
  rw [wrap_id (by omega) (by omega)]
  exact this
end Go.Proofs.Ytfbllodbcmcndaa.SpA
end
section
namespace Go.Proofs.Ytfbllodbcmcndaa.SpA
open Go.RowKit Go.Proofs.Ytfbllodbcmcndaa.Q Go.Proofs.YtfbllodbcmcndaaW.PrintWords Go.Proofs.YtfbllodbcmcndaaW.PrintLast Go.Proofs.YtfbllodbcmcndaaKit
set_option linter.unusedVariables false
set_option linter.unusedSimpArgs false
theorem word_l (s : ByteArray) (hs : s.size ≤ 140737488351232) : ∀ (suf pre : List UInt8), L s = pre ++ suf → Ev (fun k => laws_word.l0 k s s.size pre.length) (suf.all isWordB && (L s != []))
  | [], pre, h => by
    refine Ev.step (f := fun _ => some (s.toList != [])) (fun k => by simp only [laws_word.l0]; rw [if_neg (sz_not h)]) (Ev.same (Ev.now _) ?_)
    rw [List.all_nil, Bool.true_and, tl]
  | c :: t, pre, h => by
    have ih := word_l s hs t (pre ++ [c]) (mid_next h)
    rw [List.all_cons]
    have hg : ∀ k, laws_word.l0 (k + 1) s s.size pre.length = if isWordB c = true then laws_word.l0 k s s.size (pre ++ [c]).length else some false := by
      intro k
      simp only [laws_word.l0]
      rw [if_pos (sz_mid h), if_pos (by omega), if_pos (sz_mid h), bt_mid h, wrap_mid h hs]
      unfold isWordB
      generalize Go.bits BinOp.or IntKind.u8 (c.toNat : Int) 32 = z
      by_cases h1 : z < 97
      · by_cases h2 : (c.toNat : Int) < 48
        · simp [h1, h2]
        · by_cases h3 : (c.toNat : Int) > 57 <;> simp [h1, h2, h3]
      · by_cases h4 : z > 122
        · by_cases h2 : (c.toNat : Int) < 48
          · simp [h1, h2, h4]
          · by_cases h3 : (c.toNat : Int) > 57 <;> simp [h1, h2, h3, h4]
        · simp [h1, h4]
    by_cases c1 : isWordB c = true
    · rw [c1, Bool.true_and]
      exact Ev.step (fun k => by rw [hg k, if_pos c1]) ih
    · rw [Bool.eq_false_iff.2 c1, Bool.false_and, Bool.false_and]
      exact Ev.step (f := fun _ => some false) (fun k => by rw [hg k, if_neg c1]) (Ev.now _)
theorem word (s : ByteArray) (hs : s.size ≤ 140737488351232) : Ev (fun k => laws_word.f k s) ((L s).all isWordB && (L s != [])) := word_l s hs (L s) [] rfl
end Go.Proofs.Ytfbllodbcmcndaa.SpA
end
section
namespace Go.Proofs.Ytfbllodbcmcndaa.Pure
open Go.RowKit Go.Proofs.Ytfbllodbcmcndaa.Q Go.Proofs.YtfbllodbcmcndaaW.PrintWords Go.Proofs.YtfbllodbcmcndaaW.PrintLast Go.Proofs.YtfbllodbcmcndaaKit Go.Proofs.Ytfbllodbcmcndaa.SpA
set_option linter.unusedVariables false
set_option linter.unusedSimpArgs false
abbrev blq (l : List UInt8) : ByteArray := ⟨l.toArray⟩
theorem L_blq (l : List UInt8) : L (blq l) = l := by simp [L, blq]
theorem low_eq (s : ByteArray) (h : s.size ≤ 140737488355328) : laws_low.f s = some (blq ((L s).map lowB)) := by unfold laws_low.f; rw [if_pos h]
theorem low_ho : (ckHo true).map lowB = [59, 32, 104, 116, 116, 112, 111, 110, 108, 121] := by decide +kernel
theorem low_se : (ckSe true).map lowB = [59, 32, 115, 101, 99, 117, 114, 101] := by decide +kernel
theorem low_dm : ([59, 32] ++ [100, 111, 109, 97, 105, 110] ++ [61] : List UInt8).map lowB = [59, 32, 100, 111, 109, 97, 105, 110, 61] := by decide +kernel
theorem low_dom (d : List UInt8) (h : d ≠ []) : (ckDom d).map lowB = [59, 32, 100, 111, 109, 97, 105, 110, 61] ++ d.map lowB := by
  unfold ckDom
  rw [if_neg h, List.map_append, low_dm]
theorem drop_cut (A R : List UInt8) (n : Nat) (h : n = A.length) : ((A ++ R).drop n).take ((A ++ R).length - n) = R := by
  subst h
  rw [List.drop_left, List.take_of_length_le (by rw [List.length_append]; omega)]
theorem FnCookieHead : StFnCookieHead.Pure := by
  intro a0 a1 a2 a3 a4 a5 a6 a7 a8 _ _ _ _ h4 h5
  have hb4 := bounds_i64 h4
  refine Ev.rounds ?_
  unfold laws_FnCookieHead.f
  obtain ⟨b0, hb0, hs0⟩ := fits11 a0 a1 a2 a3 a4 a5 a6 a7 a8
  simp only [hb0, Option.bind_some, ck_ab]
  cases b0 with
  | false => exact Ev.neg (by decide) (Ev.now _)
  | true =>
  obtain ⟨z0, z1, z2, z3⟩ := hs0 rfl
  refine Ev.pos rfl (Ev.pos (by rw [tl]) ?_)
  have HT : Ev (fun k => laws_FnCookieHead.j0 k true a0 a1 a2 a3 a4 a5 a6 a7 a8) true := Ev.step (f := fun _ => some true) (fun k => by simp only [laws_FnCookieHead.j0]; rw [if_pos trivial]) (Ev.now _)
  obtain ⟨b1, hb1, g1⟩ := tok a0 (by omega)
  refine Ev.call hb1 ?_
  cases b1 with
  | false => exact Ev.neg (by decide) HT
  | true =>
  obtain ⟨b2, hb2, g2⟩ := tok a1 (by omega)
  refine Ev.pos rfl (Ev.call hb2 ?_)
  cases b2 with
  | false => exact Ev.neg (by decide) HT
  | true =>
  refine Ev.pos rfl (Ev.call (short4 a0 a1 a2 a3) ?_)
  by_cases hsh : a0.size ≤ 2000 ∧ a1.size ≤ 2000 ∧ a2.size ≤ 2000 ∧ a3.size ≤ 2000
  rotate_left
  · exact Ev.neg (by rw [decide_eq_false hsh]; decide) HT
  refine Ev.pos (decide_eq_true hsh) ?_
  obtain ⟨s0, s1, s2, s3⟩ := hsh
  have n0 : L a0 ≠ [] := (g1 rfl).1
  have HF : Ev (fun k => laws_FnCookieHead.j0 k (a3.toList != ([] : List UInt8)) a0 a1 a2 a3 a4 a5 a6 a7 a8) true := by
    by_cases h3 : L a3 = []
    rotate_left
    · rw [show (a3.toList != ([] : List UInt8)) = true by rw [tl]; exact bne_iff_ne.2 h3]
      exact HT
    rw [show (a3.toList != ([] : List UInt8)) = false by rw [tl, h3]; decide]
    have hT : impl_CookieText.f a0 a1 a2 a3 a4 a5 a6 a7 a8 = some (blq (ckText (L a0) (L a1) a4 (L a2) [] a6 (a7 || decide (a5 = 4) || a8) a5 a8)) := by
      unfold impl_CookieText.f
      rw [if_pos ⟨⟨s0, s1, s2, s3⟩, hb4⟩, if_pos h3]
    have hlen := ck_len (L a0) (L a1) (L a2) [] a4 a5 a6 (a7 || decide (a5 = 4) || a8) a8 (by rw [← size_L]; exact s0) (by rw [← size_L]; exact s1) (by rw [← size_L]; exact s2) (by simp) hb4
    generalize hse : (a7 || decide (a5 = 4) || a8) = se at hT hlen
    have hsz : (blq (ckText (L a0) (L a1) a4 (L a2) [] a6 se a5 a8)).size ≤ 20000 := by rw [size_L, L_blq]; exact hlen
    have hB : L ((a0 ++ (⟨#[61]⟩ : ByteArray)) ++ a1) = L a0 ++ [61] ++ L a1 := by rw [L_append, L_append]
    have hBs : ((a0 ++ (⟨#[61]⟩ : ByteArray)) ++ a1).size = a0.size + 1 + a1.size := by rw [size_append, size_append]; rfl
    have hrest : ckText (L a0) (L a1) a4 (L a2) [] a6 se a5 a8 = (L a0 ++ [61] ++ L a1) ++ (ckAge a4 ++ ckDom (L a2) ++ ckHo a6 ++ ckSe se ++ ckSite a5 ++ ckPa a8) := by
      unfold ckText ckKey ckPath
      rw [if_neg n0, if_pos rfl]
      simp only [List.append_assoc, List.nil_append]
    generalize hRe : (ckAge a4 ++ ckDom (L a2) ++ ckHo a6 ++ ckSe se ++ ckSite a5 ++ ckPa a8) = R at hrest
    have hbeg : laws_begins.f (blq (ckText (L a0) (L a1) a4 (L a2) [] a6 se a5 a8)) ((a0 ++ (⟨#[61]⟩ : ByteArray)) ++ a1) = some true := begins_yes _ _ R (by rw [L_blq, hB, hrest])
    have hge : a0.size + 1 + a1.size ≤ (blq (ckText (L a0) (L a1) a4 (L a2) [] a6 se a5 a8)).size := by
      have : (blq (ckText (L a0) (L a1) a4 (L a2) [] a6 se a5 a8)).size = (ckText (L a0) (L a1) a4 (L a2) [] a6 se a5 a8).length := by rw [size_L, L_blq]
      rw [this, hrest, List.length_append, List.length_append, List.length_append, ← size_L a0, ← size_L a1, List.length_singleton]
      omega
    have hext : L ((blq (ckText (L a0) (L a1) a4 (L a2) [] a6 se a5 a8)).extract (a0.size + 1 + a1.size) (blq (ckText (L a0) (L a1) a4 (L a2) [] a6 se a5 a8)).size) = R := by
      rw [L_extract, size_L (blq _), L_blq, hrest]
      exact drop_cut _ _ _ (by rw [List.length_append, List.length_append, ← size_L, ← size_L]; rfl)
    have hRl : R.length ≤ 20000 := by
      rw [hrest, List.length_append] at hlen
      omega
    have hlow := low_eq ((blq (ckText (L a0) (L a1) a4 (L a2) [] a6 se a5 a8)).extract (a0.size + 1 + a1.size) (blq (ckText (L a0) (L a1) a4 (L a2) [] a6 se a5 a8)).size) (by rw [size_L, hext]; omega)
    rw [hext] at hlow
    have htz : (blq (R.map lowB)).size ≤ 140737488351232 := by rw [size_L, L_blq, List.length_map]; omega
    have S1 : a6 = true → Ev (fun k => laws_stands.f k (blq (R.map lowB)) (⟨#[59, 32, 104, 116, 116, 112, 111, 110, 108, 121]⟩ : ByteArray)) true := fun e => by
      subst e
      refine stands_yes _ _ htz ((ckAge a4 ++ ckDom (L a2)).map lowB) ((ckSe se ++ ckSite a5 ++ ckPa a8).map lowB) ?_
      rw [L_blq, ← hRe, show L (⟨#[59, 32, 104, 116, 116, 112, 111, 110, 108, 121]⟩ : ByteArray) = (ckHo true).map lowB from low_ho.symm]
      simp only [List.map_append, List.append_assoc]
    have S2 : L a2 ≠ [] → Ev (fun k => laws_stands.f k (blq (R.map lowB)) ((⟨#[59, 32, 100, 111, 109, 97, 105, 110, 61]⟩ : ByteArray) ++ blq ((L a2).map lowB))) true := fun e => by
      refine stands_yes _ _ htz ((ckAge a4).map lowB) ((ckHo a6 ++ ckSe se ++ ckSite a5 ++ ckPa a8).map lowB) ?_
      rw [L_blq, ← hRe, L_append, L_blq, show L (⟨#[59, 32, 100, 111, 109, 97, 105, 110, 61]⟩ : ByteArray) ++ (L a2).map lowB = (ckDom (L a2)).map lowB from (low_dom _ e).symm]
      simp only [List.map_append, List.append_assoc]
    have S3 : a7 = true → Ev (fun k => laws_stands.f k (blq (R.map lowB)) (⟨#[59, 32, 115, 101, 99, 117, 114, 101]⟩ : ByteArray)) true := fun e => by
      have : se = true := by rw [← hse, e]; rfl
      subst this
      refine stands_yes _ _ htz ((ckAge a4 ++ ckDom (L a2) ++ ckHo a6).map lowB) ((ckSite a5 ++ ckPa a8).map lowB) ?_
      rw [L_blq, ← hRe, show L (⟨#[59, 32, 115, 101, 99, 117, 114, 101]⟩ : ByteArray) = (ckSe true).map lowB from low_se.symm]
      simp only [List.map_append, List.append_assoc]
    have hls : (blq ((L a2).map lowB)).size = a2.size := by rw [size_L, L_blq, List.length_map, ← size_L]
    have S3' : Ev (fun k => if a7 = true then (laws_stands.f k (blq (R.map lowB)) (⟨#[59, 32, 115, 101, 99, 117, 114, 101]⟩ : ByteArray)).bind fun t => some t else some true) true := by
      by_cases e : a7 = true
      · exact Ev.pos e (Ev.call (S3 e) (Ev.now _))
      · exact Ev.neg e (Ev.now _)
    obtain ⟨F2, hF2⟩ : ∃ F : Nat → Option Bool, F = fun k => if a2.toList = ([] : List UInt8) then (if a7 = true then (laws_stands.f k (blq (R.map lowB)) (⟨#[59, 32, 115, 101, 99, 117, 114, 101]⟩ : ByteArray)).bind fun t => some t else some true) else
        (if 9 + (blq ((L a2).map lowB)).size ≤ 9223372036854775807 then (laws_stands.f k (blq (R.map lowB)) ((⟨#[59, 32, 100, 111, 109, 97, 105, 110, 61]⟩ : ByteArray) ++ blq ((L a2).map lowB))).bind fun t => if t = true then (if a7 = true then (laws_stands.f k (blq (R.map lowB)) (⟨#[59, 32, 115, 101, 99, 117, 114, 101]⟩ : ByteArray)).bind fun t => some t else some true) else some false else none) := ⟨_, rfl⟩
    have S2' : Ev F2 true := by
      rw [hF2]
      by_cases e : L a2 = []
      · exact Ev.pos (by rw [tl]; exact e) S3'
      · exact Ev.neg (by rw [tl]; exact e) (Ev.pos (by omega) (Ev.call (S2 e) (Ev.pos rfl S3')))
    have hlow2 := low_eq a2 (by omega)
    refine Ev.step (fun k => ?_) (f := fun k => if a6 = true then (laws_stands.f k (blq (R.map lowB)) (⟨#[59, 32, 104, 116, 116, 112, 111, 110, 108, 121]⟩ : ByteArray)).bind fun t => if t = true then F2 k else some false else F2 k) ?_
    · simp only [laws_FnCookieHead.j0]
      rw [if_neg (by decide), hT, Option.bind_some, if_pos (by omega), if_pos (by omega), hbeg, Option.bind_some, if_pos rfl, if_pos (by omega), if_pos (by omega), hlow, Option.bind_some, hlow2]
      rw [hF2]
      simp only [Option.bind_some]
    by_cases e : a6 = true
    · exact Ev.pos e (Ev.call (S1 e) (Ev.pos rfl S2'))
    · exact Ev.neg e S2'
  by_cases h2 : L a2 = []
  · exact Ev.pos (by rw [tl]; exact h2) HF
  · refine Ev.neg (by rw [tl]; exact h2) (Ev.call (word a2 (by omega)) ?_)
    cases ((L a2).all isWordB && (L a2 != [])) with
    | false => exact Ev.neg (by decide) HT
    | true => exact Ev.pos rfl HF
end Go.Proofs.Ytfbllodbcmcndaa.Pure
end
section
namespace Go.Proofs.Ytfbllodbcmcndaa.fnCookieHead
open Go.ChangeShapes Go.WideShapes Go.ChangeAt Go.RowKit
open Go.ChangeMaps (open_string shut_string)
set_option linter.unusedVariables false
theorem own : ownKnob Try.prog.godebug = none := by kernel_rfl
theorem laidOut : laidOutB Try.prog = true := by kernel_rfl
set_option maxRecDepth 100000 in
theorem lifted (os : Os) (started : os.Started) (H : Type) (enc : TypeId × Value → H) :
    ReturnsInHanded {} Try.checked os 6 .any (Rows.fnCookieHeadSpec.pre6 enc Try.prog Try.f6 Rows.fnCookieHeadRow.domain false) (Rows.fnCookieHeadSpec.post enc Try.prog Try.f6 false true false false) := by
  refine returnsInHanded_of_change_sized (C := Try.checked) own started (by kernel_rfl) Try.func6
    (ChangeSpec.witness6 (enc := enc) (C := Try.checked) false ⟨#[], #[.agg #[.string ByteArray.empty, .string ByteArray.empty, .string ByteArray.empty, .string ByteArray.empty, .int .i64 0, .int .i64 0, .bool false, .bool false, .bool false]], []⟩ 8 (by kernel_rfl) (by kernel_rfl) (by kernel_rfl) (by kernel_rfl)) ?_
  intro W base args ds gs before hval0 hW hcnd hsz0 _
  have hsz : (DataW.weightsEach Try.prog (Try.f6.params.toList ++ Rows.fnCookieHeadSpec.plain.varTypes Try.prog) (ds ++ gs)).all (· ≤ reachBytes) = true := hsz0
  have hval : ∀ (j : Nat) t v, Try.f6.params[j]? = some t → args[j]? = some v → Value.okWide Try.prog W .any base t v := hval0
  have hW' := hW
  obtain ⟨p, q, hA0, hV, rfl, hfz, hnd⟩ := hW
  have hA : DataW.TrodAll enc Try.prog W 0 (fun _ => true) true Try.f6.params.toList args.toList ds p := hA0
  rw [Try.params6] at hA hval hsz
  obtain ⟨v0, vs0, d0, ds0, p0, q0, hargs, rfl, rfl, h0, r0⟩ := trodAll_cons hA
  obtain ⟨rfl, rfl, rfl⟩ := trodAll_nil r0
  obtain rfl : args = #[v0] := by cases args; simp_all
  obtain ⟨rfl, rfl⟩ := trodVars_none hV
  obtain ⟨cs0, rfl, _⟩ := okWide_struct Try.underlying53 (hval 0 53 v0 rfl rfl)
  have k0 := h0
  have lt0 : ∀ x ∈ p0, x.block < W.heap.size := by obtain ⟨m, hm⟩ := k0; exact DataW.trod_lt m _ _ _ hm
  obtain ⟨a0_0, a0_1, a0_2, a0_3, a0_4, a0_5, a0_6, a0_7, a0_8, e0, u0_0, u0_1, u0_2, u0_3, u0_4, u0_5⟩ : ∃ (a0_0 : ByteArray) (a0_1 : ByteArray) (a0_2 : ByteArray) (a0_3 : ByteArray) (a0_4 : Int) (a0_5 : Int) (a0_6 : Bool) (a0_7 : Bool) (a0_8 : Bool), cs0 = #[.string a0_0, .string a0_1, .string a0_2, .string a0_3, .int .i64 a0_4, .int .i64 a0_5, .bool a0_6, .bool a0_7, .bool a0_8] ∧ (a0_0.size ≤ maxLen) ∧ (a0_1.size ≤ maxLen) ∧ (a0_2.size ≤ maxLen) ∧ (a0_3.size ≤ maxLen) ∧ ((Lit.int .i64 a0_4).wf = true) ∧ ((Lit.int .i64 a0_5).wf = true) := by
    obtain ⟨fuel, hf⟩ := h0
    obtain ⟨a0_0, a0_1, a0_2, a0_3, a0_4, a0_5, a0_6, a0_7, a0_8, e, u0_0, u0_1, u0_2, u0_3, u0_4, u0_5⟩ := StFnCookieHead.agg53 fuel _ _ hf
    exact ⟨a0_0, a0_1, a0_2, a0_3, a0_4, a0_5, a0_6, a0_7, a0_8, Array.toList_inj.1 e, u0_0, u0_1, u0_2, u0_3, u0_4, u0_5⟩
  subst e0
  clear hA0 hval0 hsz0 hsz
  obtain ⟨k, hk⟩ := Pure.FnCookieHead a0_0 a0_1 a0_2 a0_3 a0_4 a0_5 a0_6 a0_7 a0_8 u0_0 u0_1 u0_2 u0_3 u0_4 u0_5
  refine (Go.Proofs.Ytfbllodbcmcndaa.Q.laws_FnCookieHead.calls k a0_0 a0_1 a0_2 a0_3 a0_4 a0_5 a0_6 a0_7 a0_8 true W  hk).mono fun e W' hh => ?_
  obtain ⟨he, bel0⟩ := hh
  have bel : Below W.heap.size W W' := bel0
  subst he
  exact ⟨_, rfl, _, _, _, [], _, [], hW', trodAll_mk1 (shut_bool Try.underlying4 _), (trodAll_cons_mk (Below.trod laidOut (by kernel_rfl) (of_decide_eq_true (by kernel_rfl)) k0 bel lt0) trodAll_mk0), rfl, bel.frame _, fun h => by cases h⟩
theorem over : Rows.fnCookieHeadRow.holds Try.pinned (OpenSpec.ofChange Rows.fnCookieHeadSpec) :=
  OpenClaim.holds_of_wide 6 Try.f6 rfl rfl rfl rfl rfl rfl rfl ⟨rfl, rfl, rfl, rfl, rfl⟩ rfl rfl rfl rfl rfl (by kernel_rfl) Try.func6 (by kernel_rfl)
    (of_decide_eq_true (by kernel_rfl)) (by unfold Func.isWrapper; first | (rw [if_pos (by decide +kernel)]; kernel_rfl) | (rw [if_neg (by decide +kernel)]; exact ⟨rfl, rfl⟩))
    (fun os started H enc _ => lifted os started H enc)
theorem proved : Rows.FnCookieHeadSaid := over
#print axioms proved
end Go.Proofs.Ytfbllodbcmcndaa.fnCookieHead
namespace Go.Proofs.Ytfbllodbcmcndaa
theorem fnCookieHead_holds : Rows.FnCookieHeadSaid := fnCookieHead.proved
end Go.Proofs.Ytfbllodbcmcndaa
end
