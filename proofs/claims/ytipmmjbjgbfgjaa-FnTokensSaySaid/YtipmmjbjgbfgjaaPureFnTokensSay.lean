/- The pure statement of FnTokensSay: a text's tokens are those of the reference, with the end behind them. -/
import Derived.Test.YtipmmjbjgbfgjaaQ3
import Derived.Test.YtipmmjbjgbfgjaaQ7
import Derived.Test.YtipmmjbjgbfgjaaQ8
import Derived.Test.YtipmmjbjgbfgjaaSpTokS
import Derived.Test.YtipmmjbjgbfgjaaSpSht
namespace Go.Proofs.Ytipmmjbjgbfgjaa.Pure
open Go.RowKit Go.Proofs.Ytipmmjbjgbfgjaa.Q Go.Proofs.YtipmmjbjgbfgjaaW.PrintWords Go.Proofs.YtipmmjbjgbfgjaaW.PrintLast Go.Proofs.YtipmmjbjgbfgjaaKit Go.Proofs.Ytipmmjbjgbfgjaa.SpA
set_option linter.unusedVariables false
set_option linter.unusedSimpArgs false
theorem late {α : Type} {f g : Nat → Option α} {r : α} (K : Nat) (h : ∀ k, K ≤ k → f (k + 1) = g k) (hg : Ev g r) : Ev f r := by
  obtain ⟨K2, h2⟩ := hg
  refine ⟨max K K2 + 1, fun k hk => ?_⟩
  obtain ⟨k', rfl⟩ : ∃ k', k = k' + 1 := ⟨k - 1, by omega⟩
  rw [h k' (by omega)]
  exact h2 k' (by omega)
def g1 (x : Tk) : Int × List UInt8 := (x.k, L x.t)
def g2 (x : S57) : Int × List UInt8 := (x.f0, L x.f1)
def g6 (x : S56) : Int × List UInt8 := (x.f0, L x.f1)
theorem hpq_isLD (s : ByteArray) : ∀ n, isLe (chAt s n) = true → isLD (chAt s n) = true := fun n h => by
  unfold isLD
  rw [(cls_le s n h).2.2]
  rfl
theorem tok_len (s : ByteArray) : ∀ d n, s.size - n = d → n ≤ s.size → (toks s n).length ≤ d + 1 := by
  intro d
  induction d using Nat.strongRecOn with
  | ind d ih =>
    intro n hd hn
    by_cases hk : (nextTk s n).1.k = 0
    · rw [toks_end s n (by omega) hk]; simp
    · have ha := nextTk_adv s n hk
      rw [toks_go s n (by omega) hk]
      have := ih (s.size - (nextTk s n).2) (by omega) (nextTk s n).2 rfl ha.2
      simp only [List.length_cons]
      omega
theorem lookT_is (t : ByteArray) : lookT t = if t.toList = ([101, 108, 115, 101] : List UInt8) then 9 else 8 := by
  unfold lookT iristoken_LookupIdent.f
  split <;> rfl
theorem nq1 {i j : Nat} (h : i < j) : ((j - i : Nat) : Int) > 0 := by omega
theorem nq7 {a i n : Nat} (h1 : a ≤ i) (h2 : i ≤ n) (h3 : n ≤ 2000) : a < 3518437208883 := by omega
theorem nq8 {n i j d : Nat} (h1 : n - i = d) (h2 : i < j) (h3 : i < n) : n - j < d := by omega
theorem say_l0 (s : ByteArray) (hs : s.size ≤ 2000) : ∀ d i (acc : List S57), s.size - i = d → i ≤ s.size → acc.length ≤ i →
    ∃ r, Ev (fun k => spec_Tokens.l0 k s acc (i : Int)) r ∧ (r.2 = 1 → chAt s i ≠ 95 ∧ ∃ rest, r.1 = acc ++ rest ∧ (toks s i).map g1 = rest.map g2 ++ [(0, [])]) := by
  intro d
  induction d using Nat.strongRecOn with
  | ind d ih =>
    intro i acc hd hi ha
    by_cases he : i = s.size
    · subst he
      refine ⟨(acc, 1), Ev.step (f := fun _ => some (acc, 1)) (fun k => ?_) (Ev.now _), fun _ => ⟨by rw [ch_out s _ (by omega)]; decide, [], by simp, by rw [toks_at_end]; rfl⟩⟩
      simp only [spec_Tokens.l0]
      rw [if_neg (by omega)]
    have hlt : i < s.size := by omega
    have hb : bt s (i : Int) = chAt s i := bt_ch s i hlt
    obtain ⟨K1, hw⟩ := word_ev s i hi (by omega)
    obtain ⟨K2, hn⟩ := num_ev s i hi (by omega)
    simp only at hw hn
    have two : ∀ K, (∀ k, K ≤ k → spec_Tokens.l0 (k + 1) s acc (i : Int) = some ([], 2)) → ∃ r, Ev (fun k => spec_Tokens.l0 k s acc (i : Int)) r ∧ (r.2 = 1 → chAt s i ≠ 95 ∧ ∃ rest, r.1 = acc ++ rest ∧ (toks s i).map g1 = rest.map g2 ++ [(0, [])]) := fun K h =>
      ⟨([], 2), late (g := fun _ => some ([], 2)) K h (Ev.now _), fun e => absurd e (by decide)⟩
    by_cases h32 : chAt s i = 32
    · obtain ⟨r, hr, hi1⟩ := ih (s.size - (i + 1)) (by omega) (i + 1) acc rfl (by omega) (by omega)
      refine ⟨r, late 0 (fun k _ => ?_) hr, fun e => ?_⟩
      · simp only [spec_Tokens.l0]
        rw [if_pos (by omega), if_pos (by omega), hb, sgn_eq, Option.bind_some, if_pos h32, show wrap64 ((i : Int) + 1) = ((i + 1 : Nat) : Int) by rw [wrap_id (by omega) (by omega)]; rfl]
      · obtain ⟨_, rest, e1, e2⟩ := hi1 e
        refine ⟨by rw [h32]; decide, rest, e1, ?_⟩
        rw [toks_ws (by rw [h32]; decide)]
        exact e2
    by_cases hle : isLe (chAt s i) = true
    · have hgt := skipTo_gt (P := isLe) isLe0 hle
      have hle2 := skipTo_le (P := isLe) isLe0 hi
      have hend := skip_end (P := isLe) isLe0 s i
      obtain ⟨j, hj⟩ : ∃ j, j = skipTo isLe s i := ⟨_, rfl⟩
      rw [← hj] at hw hgt hle2 hend
      have hji : wrap64 ((i : Int) + ((j - i : Nat) : Int)) = (j : Int) := by rw [wrap_id (by omega) (by omega)]; omega
      obtain ⟨K3, hn3⟩ := num_ev s j hle2 (by omega)
      simp only at hn3
      by_cases hdj : isDg (chAt s j) = true
      · have hp := skipTo_gt (P := isDg) isDg0 hdj
        refine two (max K1 K3) fun k hk => ?_
        have e1 := hw k (by omega)
        have e3 := hn3 k (by omega)
        simp only [spec_Tokens.l0]
        rw [if_pos (by omega), if_pos (by omega), hb, sgn_eq, Option.bind_some, if_neg h32, if_pos (by omega)]
        simp only [Int.toNat_natCast]
        rw [e1, Option.bind_some, if_pos (by omega), Option.bind_some, hji, if_pos (by omega), if_pos (by omega), Int.toNat_natCast]
        by_cases helse : (s.extract i j).toList = ([101, 108, 115, 101] : List UInt8)
        · rw [if_pos helse, if_pos (by omega), e3, Option.bind_some, if_pos (by omega)]
        · rw [if_neg helse, if_pos (by omega), e3, Option.bind_some, if_pos (by omega)]
      · have hdj' : isDg (chAt s j) = false := by simpa using hdj
        have hz := skip_stop (P := isDg) (s := s) (n := j) hdj'
        rw [hz, Nat.sub_self] at hn3
        obtain ⟨r, hr, hi1⟩ := ih (s.size - j) (by omega) j (acc ++ [⟨lookT (s.extract i j), s.extract i j, i, wrap64 ((j : Int) - 1)⟩]) rfl hle2 (by simp; omega)
        refine ⟨r, late (max K1 K3) (fun k hk => ?_) hr, fun e => ?_⟩
        · have e1 := hw k (by omega)
          have e3 := hn3 k (by omega)
          simp only [spec_Tokens.l0]
          rw [if_pos (by omega), if_pos (by omega), hb, sgn_eq, Option.bind_some, if_neg h32, if_pos (by omega)]
          simp only [Int.toNat_natCast]
          rw [e1, Option.bind_some, if_pos (by omega), Option.bind_some, hji, if_pos (by omega), if_pos (by omega), Int.toNat_natCast, lookT_is]
          by_cases helse : (s.extract i j).toList = ([101, 108, 115, 101] : List UInt8)
          · rw [if_pos helse, if_pos (by omega), e3, Option.bind_some, if_neg (by omega), if_pos (by omega), if_pos helse]
          · rw [if_neg helse, if_pos (by omega), e3, Option.bind_some, if_neg (by omega), if_pos (by omega), if_neg helse]
        · obtain ⟨h95, rest, e1, e2⟩ := hi1 e
          have c1 := cls_le s i hle
          have hq : isLD (chAt s j) = false := by
            unfold isLD
            rw [lt_le, hend, hdj', decide_eq_false h95]
            rfl
          have hsk : skipTo isLD s i = j := by rw [hj]; exact skip_wider isLe0 isLD0 s (hpq_isLD s) _ i rfl (by rw [← hj]; exact hq)
          have hnx := next_name c1.1 c1.2.1 c1.2.2
          rw [hsk] at hnx
          have hgo := toks_go s i (by omega) (by rw [hnx, tokAt_k]; exact lookT_ne _)
          refine ⟨le95 s i hle, ⟨lookT (s.extract i j), s.extract i j, i, wrap64 ((j : Int) - 1)⟩ :: rest, by rw [e1]; simp, ?_⟩
          rw [hgo, hnx, List.map_cons, List.map_cons, e2, List.cons_append]
          congr 1
          simp only [g1, g2, tokAt_k, tokAt_t]
    have hle' : isLe (chAt s i) = false := by simpa using hle
    have hw0 := skip_stop (P := isLe) (s := s) (n := i) hle'
    rw [hw0, Nat.sub_self] at hw
    by_cases hdg : isDg (chAt s i) = true
    · have hgt := skipTo_gt (P := isDg) isDg0 hdg
      have hle2 := skipTo_le (P := isDg) isDg0 hi
      obtain ⟨j, hj⟩ : ∃ j, j = skipTo isDg s i := ⟨_, rfl⟩
      rw [← hj] at hn hgt hle2
      have q1 : ((j - i : Nat) : Int) > 0 := nq1 hgt
      have q2 : (0 : Int) ≤ (j : Int) := Int.natCast_nonneg j
      have q3 : (j : Int) ≤ (s.size : Int) := Int.ofNat_le.2 hle2
      have q5 : ¬ ((0 : Nat) : Int) > 0 := by decide
      have q6 : (i : Int) ≤ (j : Int) := Int.ofNat_le.2 (Nat.le_of_lt hgt)
      have q7 : acc.length < 3518437208883 := nq7 ha hi hs
      have q8 : s.size - j < d := nq8 hd hgt hlt
      have q9 : acc.length + 1 ≤ j := Nat.lt_of_le_of_lt ha hgt
      have hji : wrap64 ((i : Int) + ((j - i : Nat) : Int)) = (j : Int) := by rw [wrap_id (by omega) (by omega)]; omega
      obtain ⟨K3, hw3⟩ := word_ev s j hle2 (by omega)
      simp only at hw3
      by_cases hlj : isLe (chAt s j) = true
      · have hp := skipTo_gt (P := isLe) isLe0 hlj
        have q4 : ((skipTo isLe s j - j : Nat) : Int) > 0 := nq1 hp
        refine two (max (max K1 K2) K3) fun k hk => ?_
        have e1 := hw k (by omega)
        have e2 := hn k (by omega)
        have e3 := hw3 k (by omega)
        simp only [spec_Tokens.l0]
        rw [if_pos (by omega), if_pos (by omega), hb, sgn_eq, Option.bind_some, if_neg h32, if_pos (by omega)]
        simp only [Int.toNat_natCast]
        rw [e1, Option.bind_some, if_neg q5, e2, Option.bind_some, if_pos q1, Option.bind_some, hji, if_pos q2, if_pos q3, Int.toNat_natCast, e3, Option.bind_some, if_pos q4]
      · have hlj' : isLe (chAt s j) = false := by simpa using hlj
        have hz := skip_stop (P := isLe) (s := s) (n := j) hlj'
        rw [hz, Nat.sub_self] at hw3
        obtain ⟨r, hr, hi1⟩ := ih (s.size - j) q8 j (acc ++ [⟨10, s.extract i j, i, wrap64 ((j : Int) - 1)⟩]) rfl hle2 (by simpa using q9)
        refine ⟨r, late (max (max K1 K2) K3) (fun k hk => ?_) hr, fun e => ?_⟩
        · have e1 := hw k (by omega)
          have e2 := hn k (by omega)
          have e3 := hw3 k (by omega)
          simp only [spec_Tokens.l0]
          rw [if_pos (by omega), if_pos (by omega), hb, sgn_eq, Option.bind_some, if_neg h32, if_pos (by omega)]
          simp only [Int.toNat_natCast]
          rw [e1, Option.bind_some, if_neg q5, e2, Option.bind_some, if_pos q1, Option.bind_some, hji, if_pos q2, if_pos q3, Int.toNat_natCast, e3, Option.bind_some, if_neg q5, if_pos q6, if_pos q7]
        · obtain ⟨h95, rest, e1, e2⟩ := hi1 e
          have c1 := cls_dg s i hdg
          have hnx := next_num c1.1 c1.2.1 c1.2.2 hdg
          rw [← hj] at hnx
          have hgo := toks_go s i (by omega) (by rw [hnx, tokAt_k]; decide)
          refine ⟨dg95 s i hdg, ⟨10, s.extract i j, i, wrap64 ((j : Int) - 1)⟩ :: rest, by rw [e1]; simp, ?_⟩
          rw [hgo, hnx, List.map_cons, List.map_cons, e2, List.cons_append]
          congr 1
          simp only [g1, g2, tokAt_k, tokAt_t]
    have hdg' : isDg (chAt s i) = false := by simpa using hdg
    have hn0 := skip_stop (P := isDg) (s := s) (n := i) hdg'
    rw [hn0, Nat.sub_self] at hn
    by_cases hsg : sgn (chAt s i) = 0
    · refine two (max K1 K2) fun k hk => ?_
      have e1 := hw k (by omega)
      have e2 := hn k (by omega)
      simp only [spec_Tokens.l0]
      rw [if_pos (by omega), if_pos (by omega), hb, sgn_eq, Option.bind_some, if_neg h32, if_pos (by omega)]
      simp only [Int.toNat_natCast]
      rw [e1, Option.bind_some, if_neg (by omega), e2, Option.bind_some, if_neg (by omega), if_pos hsg]
    · have hw1 : wrap64 ((i : Int) + 1) = ((i + 1 : Nat) : Int) := by rw [wrap_id (by omega) (by omega)]; rfl
      obtain ⟨r, hr, hi1⟩ := ih (s.size - (i + 1)) (by omega) (i + 1) (acc ++ [⟨sgn (chAt s i), s.extract i (i + 1), i, wrap64 (((i + 1 : Nat) : Int) - 1)⟩]) rfl (by omega) (by simp; omega)
      refine ⟨r, late (max K1 K2) (fun k hk => ?_) hr, fun e => ?_⟩
      · have e1 := hw k (by omega)
        have e2 := hn k (by omega)
        simp only [spec_Tokens.l0]
        rw [if_pos (by omega), if_pos (by omega), hb, sgn_eq, Option.bind_some, if_neg h32, if_pos (by omega)]
        simp only [Int.toNat_natCast]
        rw [e1, Option.bind_some, if_neg (by omega), e2, Option.bind_some, if_neg (by omega), if_neg hsg, hw1, if_pos (by omega), if_pos (by omega), if_pos (by omega), Int.toNat_natCast]
      · obtain ⟨h95, rest, e1, e2⟩ := hi1 e
        obtain ⟨c1, c2, c3, c4, c5⟩ := cls_sgn s i hsg
        have hnx := next_sign c1 (by rw [c2]; exact hsg) (by rw [c2]; exact c3)
        have hgo := toks_go s i (by omega) (by rw [hnx, tokAt_k, c2]; exact hsg)
        have hl : i < (L s).length := by rw [← size_L]; exact hlt
        have htx : L (s.extract i (i + 1)) = [(chAt s i).toNat.toUInt8] := by
          rw [L_extract, List.drop_eq_getElem_cons hl, show i + 1 - i = 1 by omega, ch_at s i hl]
          simp
        refine ⟨c5, ⟨sgn (chAt s i), s.extract i (i + 1), i, wrap64 (((i + 1 : Nat) : Int) - 1)⟩ :: rest, by rw [e1]; simp, ?_⟩
        rw [hgo, hnx, List.map_cons, List.map_cons, e2, List.cons_append]
        congr 1
        simp only [g1, g2, tokAt_k, tokAt_t]
        rw [c2, c4, htx]
theorem say_l1 (xs : List S57) (ys : List S56) (hx : xs.length ≤ 4294967296) (hm : ys.map g6 = xs.map g2 ++ [(0, [])]) : ∀ d n, xs.length - n = d → n ≤ xs.length → Ev (fun k => laws_FnTokensSay.l0 k xs ys (xs.length : Int) (n : Int)) true := by
  have hl : ys.length = xs.length + 1 := by have := congrArg List.length hm; simpa using this
  intro d
  induction d with
  | zero =>
    intro n hd hn
    refine Ev.step (f := fun _ => some true) (fun k => ?_) (Ev.now _)
    simp only [laws_FnTokensSay.l0]
    rw [if_neg (by omega)]
  | succ d ih =>
    intro n hd hn
    have e : (ys.map g6)[n]? = (xs.map g2 ++ [(0, [])])[n]? := by rw [hm]
    rw [List.getElem?_append_left (by simp; omega), List.getElem?_map, List.getElem?_map, List.getElem?_eq_getElem (by omega), List.getElem?_eq_getElem (by omega)] at e
    have e' := Option.some.inj e
    have r6 : rd_T56 ys (n : Int) = ys[n]'(by omega) := by unfold rd_T56; rw [Int.toNat_natCast, List.getD_eq_getElem?_getD, List.getElem?_eq_getElem (by omega)]; rfl
    have r7 : rd_T57 xs (n : Int) = xs[n]'(by omega) := by unfold rd_T57; rw [Int.toNat_natCast, List.getD_eq_getElem?_getD, List.getElem?_eq_getElem (by omega)]; rfl
    have hw : wrap64 ((n : Int) + 1) = ((n + 1 : Nat) : Int) := by rw [wrap_id (by omega) (by omega)]; rfl
    refine Ev.step (fun k => ?_) (ih (n + 1) (by omega) (by omega))
    simp only [laws_FnTokensSay.l0]
    rw [if_pos (by omega), if_pos (by omega), if_pos (by omega), if_pos (by omega), r6, r7, if_pos (show (ys[n]'(by omega)).f0 = (xs[n]'(by omega)).f0 from congrArg Prod.fst e'), if_pos (by rw [tl, tl]; exact congrArg Prod.snd e'), hw]
theorem FnTokensSay : laws_FnTokensSay.Pure := by
  intro s hs
  refine Ev.rounds ?_
  unfold laws_FnTokensSay.f
  by_cases h : (s.size : Int) > 2147483647
  · exact Ev.pos h (Ev.now _)
  have hid : (((toks ⟨#[123, 105, 100, 125]⟩ 0).map toS).length : Int) = 4 := by
    have := congrArg List.length id_toks
    rw [List.length_map] at this ⊢
    rw [this]
    rfl
  refine Ev.neg h (Ev.call (Ev.some (tokens_eq _ (by decide))) (Ev.pos hid (Ev.call (short1 s) ?_)))
  by_cases h2 : s.size ≤ 2000
  · rw [decide_eq_true h2]
    obtain ⟨r, hr, hi⟩ := say_l0 s h2 s.size 0 [] rfl (by omega) (Nat.le_refl _)
    refine Ev.pos rfl (Ev.call (f := fun k (bt137 : List S57 × Int) => _) hr ?_)
    by_cases h3 : r.2 = 1
    · obtain ⟨_, rest, e1, e2⟩ := hi h3
      rw [List.nil_append] at e1
      have hm : ((toks s 0).map toS).map g6 = r.1.map g2 ++ [(0, [])] := by
        rw [e1, ← e2, List.map_map]
        rfl
      have hl : ((toks s 0).map toS).length = r.1.length + 1 := by have := congrArg List.length hm; simpa using this
      have hrl := tok_len s s.size 0 rfl (by omega)
      have hl' := hl
      rw [List.length_map] at hl'
      refine Ev.pos h3 (Ev.call (Ev.some (tokens_eq s (by omega))) (Ev.pos ?_ (Ev.pos (by omega) (Ev.pos (by omega) ?_))))
      · rw [wrap_id (by omega) (by omega)]; omega
      · have e : (((toks s 0).map toS).map g6)[r.1.length]? = (r.1.map g2 ++ [(0, [])])[r.1.length]? := by rw [hm]
        rw [List.getElem?_append_right (by simp), List.getElem?_map, List.getElem?_eq_getElem (by omega)] at e
        simp only [List.length_map, Nat.sub_self, List.getElem?_cons_zero, Option.map_some] at e
        have e' := Option.some.inj e
        have r6 : rd_T56 ((toks s 0).map toS) (r.1.length : Int) = ((toks s 0).map toS)[r.1.length]'(by omega) := by unfold rd_T56; rw [Int.toNat_natCast, List.getD_eq_getElem?_getD, List.getElem?_eq_getElem (by omega)]; rfl
        have e0 := congrArg Prod.fst e'
        have hb : ((rd_T56 ((toks s 0).map toS) (r.1.length : Int)).f0 != 0) = false := by rw [r6]; simpa [g6] using e0
        rw [hb]
        refine Ev.step (fun k => ?_) (say_l1 r.1 _ (by omega) hm r.1.length 0 rfl (by omega))
        simp only [laws_FnTokensSay.j0]
        rw [if_neg (by decide)]
        rfl
    · exact Ev.neg h3 (Ev.now _)
  · rw [decide_eq_false h2]
    exact Ev.neg (by simp) (Ev.now _)
end Go.Proofs.Ytipmmjbjgbfgjaa.Pure
