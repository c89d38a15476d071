/- FnCookieSays: the law's function, called with any arguments, returns true and leaves its arguments as they were: every input, no condition. Part 12 of 12. -/
import Derived.Test.YtfbllodbcmcndaaZFnCookieSays6
import Derived.Test.YtfbllodbcmcndaaZFnCookieSays7
import Derived.Test.YtfbllodbcmcndaaZFnCookieSays8
import Derived.Test.YtfbllodbcmcndaaZFnCookieSays9
import Derived.Test.YtfbllodbcmcndaaZFnCookieSays10
import Derived.Test.YtfbllodbcmcndaaRows
import Derived.WalkKit
import Derived.ProofKit
import Derived.OpenShut
import Derived.ShutString
import Derived.ChangeOld
import Derived.Below
import Derived.SizedLaws
section
namespace Go.Proofs.Ytfbllodbcmcndaa.Pure
open Go.RowKit Go.Proofs.Ytfbllodbcmcndaa.Q Go.Proofs.YtfbllodbcmcndaaW.PrintWords Go.Proofs.YtfbllodbcmcndaaW.PrintLast Go.Proofs.YtfbllodbcmcndaaKit Go.Proofs.Ytfbllodbcmcndaa.SpA
set_option linter.unusedVariables false
set_option linter.unusedSimpArgs false
abbrev blw (l : List UInt8) : ByteArray := ⟨l.toArray⟩
theorem L_blw (l : List UInt8) : L (blw l) = l := by simp [L, blw]
theorem spec_path (s : ByteArray) (hs : s.size ≤ 2000) : ∃ r, Ev (fun k => spec_CleanPath.f k s) r ∧ (r.2 = 1 → L r.1 = norm (L s)) := by
  obtain ⟨b, hb⟩ := sound s (by omega)
  have hl := dec_len (L s).length (L s) (Nat.le_refl _)
  rw [← size_L] at hl
  obtain ⟨r, hr, hr1⟩ := cleaned (bl (dec (L s))) (by rw [size_L, L_bl]; omega)
  cases b with
  | false => exact ⟨(⟨#[]⟩, 2), Ev.call hb (Ev.neg (by simp) (Ev.now _)), fun e => absurd e (by decide)⟩
  | true => exact ⟨r, Ev.call hb (Ev.pos rfl (Ev.call (decoded s (by omega)) (Ev.call hr (Ev.now _)))), fun e => by rw [hr1 e, L_bl, norm_dec]⟩
theorem xpos {α : Type} {c : Prop} [Decidable c] {f g : Nat → Option α} {P : α → Prop} (h : c) (k : ∃ r, Ev f r ∧ P r) : ∃ r, Ev (fun n => if c then f n else g n) r ∧ P r := let ⟨r, a, b⟩ := k; ⟨r, Ev.pos h a, b⟩
theorem xneg {α : Type} {c : Prop} [Decidable c] {f g : Nat → Option α} {P : α → Prop} (h : ¬ c) (k : ∃ r, Ev g r ∧ P r) : ∃ r, Ev (fun n => if c then f n else g n) r ∧ P r := let ⟨r, a, b⟩ := k; ⟨r, Ev.neg h a, b⟩
theorem xcall {α β : Type} {g : Nat → Option α} {f : Nat → α → Option β} {a : α} {P : β → Prop} (h : Ev g a) (k : ∃ r, Ev (fun n => f n a) r ∧ P r) : ∃ r, Ev (fun n => (g n).bind fun x => f n x) r ∧ P r := let ⟨r, a, b⟩ := k; ⟨r, Ev.call h a, b⟩
theorem part6 (x a0 a1 a2 a3 : ByteArray) (a4 a5 : Int) (a6 a7 a8 : Bool) (hx : x.size ≤ 100000) : ∃ r, Ev (fun k => spec_CookieText.j6 k x a0 a1 a2 a3 a4 a5 a6 a7 a8) (r, 1) ∧ L r = L x ++ ckSite a5 := by
  have base : ∀ (z : ByteArray), ckSite a5 = L z → z.size ≤ 100 → ((∀ k, spec_CookieText.j6 (k + 1) x a0 a1 a2 a3 a4 a5 a6 a7 a8 = some (x ++ z, 1)) → ∃ r, Ev (fun k => spec_CookieText.j6 k x a0 a1 a2 a3 a4 a5 a6 a7 a8) (r, 1) ∧ L r = L x ++ ckSite a5) := fun z hz _ hk =>
    ⟨x ++ z, Ev.step (f := fun _ => some (x ++ z, 1)) hk (Ev.now _), by rw [L_append, hz]⟩
  by_cases c1 : a5 = 1
  · refine base ⟨#[59, 32, 83, 97, 109, 101, 83, 105, 116, 101]⟩ (by unfold ckSite; rw [if_pos c1]; rfl) (by decide) fun k => ?_
    simp only [spec_CookieText.j6]
    rw [if_pos c1, if_pos (by omega)]
  by_cases c2 : a5 = 2
  · refine base ⟨#[59, 32, 83, 97, 109, 101, 83, 105, 116, 101, 61, 76, 97, 120]⟩ (by unfold ckSite; rw [if_neg c1, if_pos c2]; rfl) (by decide) fun k => ?_
    simp only [spec_CookieText.j6]
    rw [if_neg c1, if_pos c2, if_pos (by omega)]
  by_cases c3 : a5 = 3
  · refine base ⟨#[59, 32, 83, 97, 109, 101, 83, 105, 116, 101, 61, 83, 116, 114, 105, 99, 116]⟩ (by unfold ckSite; rw [if_neg c1, if_neg c2, if_pos c3]; rfl) (by decide) fun k => ?_
    simp only [spec_CookieText.j6]
    rw [if_neg c1, if_neg c2, if_pos c3, if_pos (by omega)]
  by_cases c4 : a5 = 4
  · refine base ⟨#[59, 32, 83, 97, 109, 101, 83, 105, 116, 101, 61, 78, 111, 110, 101]⟩ (by unfold ckSite; rw [if_neg c1, if_neg c2, if_neg c3, if_pos c4]; rfl) (by decide) fun k => ?_
    simp only [spec_CookieText.j6]
    rw [if_neg c1, if_neg c2, if_neg c3, if_pos c4, if_pos (by omega)]
  refine ⟨x, Ev.step (f := fun _ => some (x, 1)) (fun k => ?_) (Ev.now _), by unfold ckSite; rw [if_neg c1, if_neg c2, if_neg c3, if_neg c4, List.append_nil]⟩
  simp only [spec_CookieText.j6]
  rw [if_neg c1, if_neg c2, if_neg c3, if_neg c4]
theorem part5 (x a0 a1 a2 a3 : ByteArray) (a4 a5 : Int) (b a6 a7 a8 : Bool) (hx : x.size ≤ 90000) : ∃ r, Ev (fun k => spec_CookieText.j5 k x b a0 a1 a2 a3 a4 a5 a6 a7 a8) (r, 1) ∧ L r = L x ++ ckSe b ++ ckSite a5 := by
  cases b with
  | true =>
    obtain ⟨r, h1, h2⟩ := part6 (x ++ ⟨#[59, 32, 115, 101, 99, 117, 114, 101]⟩) a0 a1 a2 a3 a4 a5 a6 a7 a8 (by rw [size_append]; show x.size + 8 ≤ _; omega)
    refine ⟨r, Ev.step (fun k => ?_) h1, by rw [h2, L_append]; rfl⟩
    simp only [spec_CookieText.j5]
    rw [if_pos trivial, if_pos (by omega)]
  | false =>
    obtain ⟨r, h1, h2⟩ := part6 x a0 a1 a2 a3 a4 a5 a6 a7 a8 (by omega)
    refine ⟨r, Ev.step (fun k => ?_) h1, by rw [h2]; simp [ckSe]⟩
    simp only [spec_CookieText.j5]
    rw [if_neg (by decide)]
theorem part4 (x a0 a1 a2 a3 : ByteArray) (a4 a5 : Int) (a6 a7 a8 : Bool) (hx : x.size ≤ 90000) : ∃ r, Ev (fun k => spec_CookieText.j4 k x a0 a1 a2 a3 a4 a5 a6 a7 a8) (r, 1) ∧ L r = L x ++ ckSe (a7 || decide (a5 = 4)) ++ ckSite a5 := by
  obtain ⟨r, h1, h2⟩ := part5 x a0 a1 a2 a3 a4 a5 (a7 || decide (a5 = 4)) a6 a7 a8 hx
  refine ⟨r, Ev.step (fun k => ?_) h1, h2⟩
  simp only [spec_CookieText.j4]
  cases a7 with
  | true => rw [if_pos rfl]; rfl
  | false => rw [if_neg (by decide)]; rfl
theorem part3 (x a0 a1 a2 a3 : ByteArray) (a4 a5 : Int) (a6 a7 a8 : Bool) (hx : x.size ≤ 80000) : ∃ r, Ev (fun k => spec_CookieText.j3 k x a0 a1 a2 a3 a4 a5 a6 a7 a8) (r, 1) ∧ L r = L x ++ ckHo a6 ++ ckSe (a7 || decide (a5 = 4)) ++ ckSite a5 := by
  cases a6 with
  | true =>
    obtain ⟨r, h1, h2⟩ := part4 (x ++ ⟨#[59, 32, 72, 116, 116, 112, 79, 110, 108, 121]⟩) a0 a1 a2 a3 a4 a5 true a7 a8 (by rw [size_append]; show x.size + 10 ≤ _; omega)
    refine ⟨r, Ev.step (fun k => ?_) h1, by rw [h2, L_append]; rfl⟩
    simp only [spec_CookieText.j3]
    rw [if_pos trivial, if_pos (by omega)]
  | false =>
    obtain ⟨r, h1, h2⟩ := part4 x a0 a1 a2 a3 a4 a5 false a7 a8 (by omega)
    refine ⟨r, Ev.step (fun k => ?_) h1, by rw [h2]; simp [ckHo]⟩
    simp only [spec_CookieText.j3]
    rw [if_neg (by decide)]
theorem part2 (x a0 a1 a2 a3 : ByteArray) (a4 a5 : Int) (a6 a7 a8 : Bool) (hx : x.size ≤ 70000) (h3 : a3.size ≤ 2000) : ∃ r, Ev (fun k => spec_CookieText.j2 k x a0 a1 a2 a3 a4 a5 a6 a7 a8) (r, 1) ∧ L r = L x ++ ckPath (L a3) ++ ckHo a6 ++ ckSe (a7 || decide (a5 = 4)) ++ ckSite a5 := by
  by_cases h : L a3 = []
  · obtain ⟨r, h1, h2⟩ := part3 x a0 a1 a2 a3 a4 a5 a6 a7 a8 (by omega)
    refine ⟨r, Ev.step (fun k => ?_) h1, by rw [h2]; unfold ckPath; rw [if_pos h, List.append_nil]⟩
    simp only [spec_CookieText.j2]
    rw [if_pos (by rw [tl]; exact h)]
  · obtain ⟨r, h1, h2⟩ := part3 (x ++ ((⟨#[59, 32, 112, 97, 116, 104, 61]⟩ : ByteArray) ++ a3)) a0 a1 a2 a3 a4 a5 a6 a7 a8 (by rw [size_append, size_append]; show x.size + (7 + a3.size) ≤ _; omega)
    refine ⟨r, Ev.step (fun k => ?_) h1, by rw [h2, L_append, L_append]; unfold ckPath; rw [if_neg h]; rfl⟩
    simp only [spec_CookieText.j2]
    rw [if_neg (by rw [tl]; exact h), if_pos (by omega), if_pos (by omega)]
theorem part1 (x a0 a1 a2 a3 : ByteArray) (a4 a5 : Int) (a6 a7 a8 : Bool) (hx : x.size ≤ 60000) (h2 : a2.size ≤ 2000) (h3 : a3.size ≤ 2000) : ∃ r, Ev (fun k => spec_CookieText.j1 k x a0 a1 a2 a3 a4 a5 a6 a7 a8) (r, 1) ∧ L r = L x ++ ckDom (L a2) ++ ckPath (L a3) ++ ckHo a6 ++ ckSe (a7 || decide (a5 = 4)) ++ ckSite a5 := by
  by_cases h : L a2 = []
  · obtain ⟨r, h1, he⟩ := part2 x a0 a1 a2 a3 a4 a5 a6 a7 a8 (by omega) h3
    refine ⟨r, Ev.step (fun k => ?_) h1, by rw [he]; unfold ckDom; rw [if_pos h, List.append_nil]⟩
    simp only [spec_CookieText.j1]
    rw [if_pos (by rw [tl]; exact h)]
  · obtain ⟨r, h1, he⟩ := part2 (x ++ ((⟨#[59, 32, 100, 111, 109, 97, 105, 110, 61]⟩ : ByteArray) ++ a2)) a0 a1 a2 a3 a4 a5 a6 a7 a8 (by rw [size_append, size_append]; show x.size + (9 + a2.size) ≤ _; omega) h3
    refine ⟨r, Ev.step (fun k => ?_) h1, by rw [he, L_append, L_append]; unfold ckDom; rw [if_neg h]; rfl⟩
    simp only [spec_CookieText.j1]
    rw [if_neg (by rw [tl]; exact h), if_pos (by omega), if_pos (by omega)]
theorem part0 (a0 a1 a2 a3 : ByteArray) (a4 a5 : Int) (a6 a7 : Bool) (h0 : a0.size ≤ 2000) (h1 : a1.size ≤ 2000) (h2 : a2.size ≤ 2000) (h3 : a3.size ≤ 2000) (hm : 0 ≤ a4 ∧ a4 ≤ 9223372036854775807) (hn : L a0 ≠ []) :
    ∃ r, Ev (fun k => spec_CookieText.j0 k false a0 a1 a2 a3 a4 a5 a6 a7 false) (r, 1) ∧ L r = ckText (L a0) (L a1) a4 (L a2) (L a3) a6 (a7 || decide (a5 = 4) || false) a5 false := by
  have hk : L ((a0 ++ (⟨#[61]⟩ : ByteArray)) ++ a1) = ckKey (L a0) ++ L a1 := by rw [L_append, L_append]; unfold ckKey; rw [if_neg hn]
  have hks : ((a0 ++ (⟨#[61]⟩ : ByteArray)) ++ a1).size = a0.size + 1 + a1.size := by rw [size_append, size_append]; rfl
  rw [Bool.or_false]
  by_cases h : a4 > 0
  · obtain ⟨n, rfl⟩ : ∃ n : Nat, a4 = n := ⟨a4.toNat, by omega⟩
    obtain ⟨s, hs, he⟩ := decimal_ev 18 n (by omega) (by omega) (by omega)
    have hsz : s.size ≤ 19 := by rw [size_L, he]; exact decU_len 18 n (by omega)
    obtain ⟨r, g1, g2⟩ := part1 (((a0 ++ (⟨#[61]⟩ : ByteArray)) ++ a1) ++ ((⟨#[59, 32, 109, 97, 120, 45, 97, 103, 101, 61]⟩ : ByteArray) ++ s)) a0 a1 a2 a3 (n : Int) a5 a6 a7 false (by rw [size_append, hks, size_append]; show a0.size + 1 + a1.size + (10 + s.size) ≤ _; omega) h2 h3
    refine ⟨r, Ev.step (fun k => ?_) (Ev.call (f := fun k t => if 10 + t.size ≤ 9223372036854775807 then if a0.size + 1 + a1.size + (10 + t.size) ≤ 9223372036854775807 then spec_CookieText.j1 k (((a0 ++ (⟨#[61]⟩ : ByteArray)) ++ a1) ++ ((⟨#[59, 32, 109, 97, 120, 45, 97, 103, 101, 61]⟩ : ByteArray) ++ t)) a0 a1 a2 a3 (n : Int) a5 a6 a7 false else none else none) hs (Ev.pos (by omega) (Ev.pos (by omega) g1))), ?_⟩
    · simp only [spec_CookieText.j0]
      rw [if_neg (by decide), if_pos (by omega), if_pos (by omega), if_pos h]
    · rw [g2, L_append, hk, L_append, he]
      unfold ckText ckAge ckPa
      rw [if_neg (by omega), if_neg (by omega), if_neg (by decide), Int.toNat_natCast]
      simp only [List.append_assoc, List.append_nil]
      rfl
  · obtain ⟨r, g1, g2⟩ := part1 ((a0 ++ (⟨#[61]⟩ : ByteArray)) ++ a1) a0 a1 a2 a3 a4 a5 a6 a7 false (by omega) h2 h3
    refine ⟨r, Ev.step (fun k => ?_) g1, ?_⟩
    · simp only [spec_CookieText.j0]
      rw [if_neg (by decide), if_pos (by omega), if_pos (by omega), if_neg h]
    · rw [g2, hk]
      unfold ckText ckAge ckPa
      rw [if_pos (by omega), if_neg (by decide)]
      simp only [List.append_assoc, List.append_nil, List.nil_append]
theorem FnCookieSays : StFnCookieSays.Pure := by
  intro a0 a1 a2 a3 a4 a5 a6 a7 a8 _ _ _ _ h4 h5
  have hb4 := bounds_i64 h4
  refine Ev.rounds ?_
  unfold laws_FnCookieSays.f
  obtain ⟨b0, hb0, hs0⟩ := fits11 a0 a1 a2 a3 a4 a5 a6 a7 a8
  simp only [hb0, Option.bind_some, ck_ab]
  cases b0 with
  | false => exact Ev.neg (by decide) (Ev.now _)
  | true =>
  refine Ev.pos rfl (Ev.pos (by rw [tl]) (Ev.call (short4 a0 a1 a2 a3) ?_))
  by_cases hsh : a0.size ≤ 2000 ∧ a1.size ≤ 2000 ∧ a2.size ≤ 2000 ∧ a3.size ≤ 2000
  rotate_left
  · exact Ev.neg (by rw [decide_eq_false hsh]; decide) (Ev.now _)
  refine Ev.pos (decide_eq_true hsh) ?_
  obtain ⟨s0, s1, s2, s3⟩ := hsh
  have hT : impl_CookieText.f a0 a1 a2 a3 a4 a5 a6 a7 a8 = some (blw (ckText (L a0) (L a1) a4 (L a2) (if L a3 = [] then [] else norm (L a3)) a6 (a7 || decide (a5 = 4) || a8) a5 a8)) := by
    unfold impl_CookieText.f
    rw [if_pos ⟨⟨s0, s1, s2, s3⟩, hb4⟩]
  have hS : ∃ r : ByteArray × Int, Ev (fun k => spec_CookieText.f k a0 a1 a2 a3 a4 a5 a6 a7 a8) r ∧ (r.2 = 1 → L r.1 = ckText (L a0) (L a1) a4 (L a2) (if L a3 = [] then [] else norm (L a3)) a6 (a7 || decide (a5 = 4) || a8) a5 a8) := by
    have OP : Ev (fun k => spec_CookieText.j0 k true a0 a1 a2 a3 a4 a5 a6 a7 a8) ((⟨#[]⟩ : ByteArray), 2) := Ev.step (f := fun _ => some ((⟨#[]⟩ : ByteArray), 2)) (fun k => by simp only [spec_CookieText.j0]; rw [if_pos trivial]) (Ev.now _)
    have no : ∀ {F : Nat → Option (ByteArray × Int)}, Ev F ((⟨#[]⟩ : ByteArray), 2) → ∃ r : ByteArray × Int, Ev F r ∧ (r.2 = 1 → L r.1 = ckText (L a0) (L a1) a4 (L a2) (if L a3 = [] then [] else norm (L a3)) a6 (a7 || decide (a5 = 4) || a8) a5 a8) := fun h => ⟨_, h, fun e => absurd e (by decide)⟩
    obtain ⟨p, hp, hp1⟩ := spec_path a3 s3
    obtain ⟨t0, ht0, g0⟩ := stok a0 (by omega)
    obtain ⟨t1, ht1, g1⟩ := stok a1 (by omega)
    obtain ⟨t2, ht2, g2⟩ := stok a2 (by omega)
    unfold spec_CookieText.f
    refine xcall hp (xcall ht0 ?_)
    cases t0 with
    | false => exact xneg (by decide) (no OP)
    | true =>
    refine xpos rfl (xcall ht1 ?_)
    cases t1 with
    | false => exact xneg (by decide) (no OP)
    | true =>
    have hn := (g0 rfl).1
    have tail : (if L a3 = [] then [] else norm (L a3)) = L a3 → ∃ r : ByteArray × Int, Ev (fun k => if a8 = true then spec_CookieText.j0 k true a0 a1 a2 a3 a4 a5 a6 a7 a8 else if a4 < 0 then spec_CookieText.j0 k true a0 a1 a2 a3 a4 a5 a6 a7 a8 else if a5 < 0 then spec_CookieText.j0 k true a0 a1 a2 a3 a4 a5 a6 a7 a8 else spec_CookieText.j0 k (decide (a5 > 4)) a0 a1 a2 a3 a4 a5 a6 a7 a8) r ∧ (r.2 = 1 → L r.1 = ckText (L a0) (L a1) a4 (L a2) (if L a3 = [] then [] else norm (L a3)) a6 (a7 || decide (a5 = 4) || a8) a5 a8) := by
      intro hpe
      cases a8 with
      | true => exact xpos rfl (no OP)
      | false =>
      refine xneg (by decide) ?_
      by_cases c4 : a4 < 0
      · exact xpos c4 (no OP)
      refine xneg c4 ?_
      by_cases c5 : a5 < 0
      · exact xpos c5 (no OP)
      refine xneg c5 ?_
      by_cases c6 : a5 > 4
      · rw [decide_eq_true c6]
        exact no OP
      · rw [decide_eq_false c6]
        obtain ⟨r, q1, q2⟩ := part0 a0 a1 a2 a3 a4 a5 a6 a7 s0 s1 s2 s3 (by omega) hn
        exact ⟨(r, 1), q1, fun _ => by rw [hpe]; exact q2⟩
    have path : ∃ r : ByteArray × Int, Ev (fun k => if a3.toList = ([] : List UInt8) then (if a8 = true then spec_CookieText.j0 k true a0 a1 a2 a3 a4 a5 a6 a7 a8 else if a4 < 0 then spec_CookieText.j0 k true a0 a1 a2 a3 a4 a5 a6 a7 a8 else if a5 < 0 then spec_CookieText.j0 k true a0 a1 a2 a3 a4 a5 a6 a7 a8 else spec_CookieText.j0 k (decide (a5 > 4)) a0 a1 a2 a3 a4 a5 a6 a7 a8) else (if p.2 = 1 then (if p.1.toList = a3.toList then ((spec_quoted.f k p.1 (⟨#[47]⟩ : ByteArray) (⟨#[]⟩ : ByteArray)).bind fun t => if t.toList = p.1.toList then (if a8 = true then spec_CookieText.j0 k true a0 a1 a2 a3 a4 a5 a6 a7 a8 else if a4 < 0 then spec_CookieText.j0 k true a0 a1 a2 a3 a4 a5 a6 a7 a8 else if a5 < 0 then spec_CookieText.j0 k true a0 a1 a2 a3 a4 a5 a6 a7 a8 else spec_CookieText.j0 k (decide (a5 > 4)) a0 a1 a2 a3 a4 a5 a6 a7 a8) else spec_CookieText.j0 k true a0 a1 a2 a3 a4 a5 a6 a7 a8) else spec_CookieText.j0 k true a0 a1 a2 a3 a4 a5 a6 a7 a8) else spec_CookieText.j0 k true a0 a1 a2 a3 a4 a5 a6 a7 a8)) r ∧ (r.2 = 1 → L r.1 = ckText (L a0) (L a1) a4 (L a2) (if L a3 = [] then [] else norm (L a3)) a6 (a7 || decide (a5 = 4) || a8) a5 a8) := by
      by_cases e3 : L a3 = []
      · exact xpos (by rw [tl]; exact e3) (tail (by rw [if_pos e3, e3]))
      refine xneg (by rw [tl]; exact e3) ?_
      by_cases c1 : p.2 = 1
      rotate_left
      · exact xneg c1 (no OP)
      refine xpos c1 ?_
      by_cases c2 : p.1.toList = a3.toList
      rotate_left
      · exact xneg c2 (no OP)
      refine xpos c2 ?_
      have e1 : p.1 = a3 := tl_eq.1 c2
      obtain ⟨q, hq⟩ := quoted_any p.1 (by rw [e1]; omega)
      refine xcall hq ?_
      by_cases c3 : q.toList = p.1.toList
      · exact xpos c3 (tail (by rw [if_neg e3, ← hp1 c1, e1]))
      · exact xneg c3 (no OP)
    by_cases e2 : L a2 = []
    · exact xpos rfl (xpos (by rw [tl]; exact e2) path)
    · refine xpos rfl (xneg (by rw [tl]; exact e2) (xcall ht2 ?_))
      cases t2 with
      | false => exact xneg (by decide) (no OP)
      | true => exact xpos rfl path
  obtain ⟨r, hr, hy⟩ := hS
  refine Ev.call hr ?_
  by_cases c : r.2 = 1
  · refine Ev.pos c (Ev.call (Ev.some hT) (Ev.same (Ev.now _) ?_))
    rw [tl, tl, L_blw, hy c, beq_self_eq_true]
  · exact Ev.neg c (Ev.now _)
end Go.Proofs.Ytfbllodbcmcndaa.Pure
end
section
namespace Go.Proofs.Ytfbllodbcmcndaa.fnCookieSays
open Go.ChangeShapes Go.WideShapes Go.ChangeAt Go.RowKit
open Go.ChangeMaps (open_string shut_string)
set_option linter.unusedVariables false
theorem own : ownKnob Try.prog.godebug = none := by kernel_rfl
theorem laidOut : laidOutB Try.prog = true := by kernel_rfl
set_option maxRecDepth 100000 in
theorem lifted (os : Os) (started : os.Started) (H : Type) (enc : TypeId × Value → H) :
    ReturnsInHanded {} Try.checked os 7 .any (Rows.fnCookieSaysSpec.pre6 enc Try.prog Try.f7 Rows.fnCookieSaysRow.domain false) (Rows.fnCookieSaysSpec.post enc Try.prog Try.f7 false true false false) := by
  refine returnsInHanded_of_change_sized (C := Try.checked) own started (by kernel_rfl) Try.func7
    (ChangeSpec.witness6 (enc := enc) (C := Try.checked) false ⟨#[], #[.agg #[.string ByteArray.empty, .string ByteArray.empty, .string ByteArray.empty, .string ByteArray.empty, .int .i64 0, .int .i64 0, .bool false, .bool false, .bool false]], []⟩ 8 (by kernel_rfl) (by kernel_rfl) (by kernel_rfl) (by kernel_rfl)) ?_
  intro W base args ds gs before hval0 hW hcnd hsz0 _
  have hsz : (DataW.weightsEach Try.prog (Try.f7.params.toList ++ Rows.fnCookieSaysSpec.plain.varTypes Try.prog) (ds ++ gs)).all (· ≤ reachBytes) = true := hsz0
  have hval : ∀ (j : Nat) t v, Try.f7.params[j]? = some t → args[j]? = some v → Value.okWide Try.prog W .any base t v := hval0
  have hW' := hW
  obtain ⟨p, q, hA0, hV, rfl, hfz, hnd⟩ := hW
  have hA : DataW.TrodAll enc Try.prog W 0 (fun _ => true) true Try.f7.params.toList args.toList ds p := hA0
  rw [Try.params7] at hA hval hsz
  obtain ⟨v0, vs0, d0, ds0, p0, q0, hargs, rfl, rfl, h0, r0⟩ := trodAll_cons hA
  obtain ⟨rfl, rfl, rfl⟩ := trodAll_nil r0
  obtain rfl : args = #[v0] := by cases args; simp_all
  obtain ⟨rfl, rfl⟩ := trodVars_none hV
  obtain ⟨cs0, rfl, _⟩ := okWide_struct Try.underlying53 (hval 0 53 v0 rfl rfl)
  have k0 := h0
  have lt0 : ∀ x ∈ p0, x.block < W.heap.size := by obtain ⟨m, hm⟩ := k0; exact DataW.trod_lt m _ _ _ hm
  obtain ⟨a0_0, a0_1, a0_2, a0_3, a0_4, a0_5, a0_6, a0_7, a0_8, e0, u0_0, u0_1, u0_2, u0_3, u0_4, u0_5⟩ : ∃ (a0_0 : ByteArray) (a0_1 : ByteArray) (a0_2 : ByteArray) (a0_3 : ByteArray) (a0_4 : Int) (a0_5 : Int) (a0_6 : Bool) (a0_7 : Bool) (a0_8 : Bool), cs0 = #[.string a0_0, .string a0_1, .string a0_2, .string a0_3, .int .i64 a0_4, .int .i64 a0_5, .bool a0_6, .bool a0_7, .bool a0_8] ∧ (a0_0.size ≤ maxLen) ∧ (a0_1.size ≤ maxLen) ∧ (a0_2.size ≤ maxLen) ∧ (a0_3.size ≤ maxLen) ∧ ((Lit.int .i64 a0_4).wf = true) ∧ ((Lit.int .i64 a0_5).wf = true) := by
    obtain ⟨fuel, hf⟩ := h0
    obtain ⟨a0_0, a0_1, a0_2, a0_3, a0_4, a0_5, a0_6, a0_7, a0_8, e, u0_0, u0_1, u0_2, u0_3, u0_4, u0_5⟩ := StFnCookieSays.agg53 fuel _ _ hf
    exact ⟨a0_0, a0_1, a0_2, a0_3, a0_4, a0_5, a0_6, a0_7, a0_8, Array.toList_inj.1 e, u0_0, u0_1, u0_2, u0_3, u0_4, u0_5⟩
  subst e0
  clear hA0 hval0 hsz0 hsz
  obtain ⟨k, hk⟩ := Pure.FnCookieSays a0_0 a0_1 a0_2 a0_3 a0_4 a0_5 a0_6 a0_7 a0_8 u0_0 u0_1 u0_2 u0_3 u0_4 u0_5
  refine (Go.Proofs.Ytfbllodbcmcndaa.Q.laws_FnCookieSays.calls k a0_0 a0_1 a0_2 a0_3 a0_4 a0_5 a0_6 a0_7 a0_8 true W  hk).mono fun e W' hh => ?_
  obtain ⟨he, bel0⟩ := hh
  have bel : Below W.heap.size W W' := bel0
  subst he
  exact ⟨_, rfl, _, _, _, [], _, [], hW', trodAll_mk1 (shut_bool Try.underlying4 _), (trodAll_cons_mk (Below.trod laidOut (by kernel_rfl) (of_decide_eq_true (by kernel_rfl)) k0 bel lt0) trodAll_mk0), rfl, bel.frame _, fun h => by cases h⟩
theorem over : Rows.fnCookieSaysRow.holds Try.pinned (OpenSpec.ofChange Rows.fnCookieSaysSpec) :=
  OpenClaim.holds_of_wide 7 Try.f7 rfl rfl rfl rfl rfl rfl rfl ⟨rfl, rfl, rfl, rfl, rfl⟩ rfl rfl rfl rfl rfl (by kernel_rfl) Try.func7 (by kernel_rfl)
    (of_decide_eq_true (by kernel_rfl)) (by unfold Func.isWrapper; first | (rw [if_pos (by decide +kernel)]; kernel_rfl) | (rw [if_neg (by decide +kernel)]; exact ⟨rfl, rfl⟩))
    (fun os started H enc _ => lifted os started H enc)
theorem proved : Rows.FnCookieSaysSaid := over
#print axioms proved
end Go.Proofs.Ytfbllodbcmcndaa.fnCookieSays
namespace Go.Proofs.Ytfbllodbcmcndaa
theorem fnCookieSays_holds : Rows.FnCookieSaysSaid := fnCookieSays.proved
end Go.Proofs.Ytfbllodbcmcndaa
end
