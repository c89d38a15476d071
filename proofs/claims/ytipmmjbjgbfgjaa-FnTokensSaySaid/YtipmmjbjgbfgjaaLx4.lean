/- The next token. -/
import Derived.Test.YtipmmjbjgbfgjaaLx3
namespace Go.Proofs.Ytipmmjbjgbfgjaa.Q
open Go.RowKit Go.Proofs.YtipmmjbjgbfgjaaW.PrintWords Go.Proofs.YtipmmjbjgbfgjaaW.PrintLast Go.Proofs.YtipmmjbjgbfgjaaW.PrintMore
set_option linter.unusedVariables false
set_option linter.unusedSimpArgs false
/-- The lexer stands at m; the result's block holds a, b, c, d; nothing else of what was there has turned. -/
structure NS (w W : World) (g g6 : Nat) (s : ByteArray) (m : Nat) (a b c d : Value) : Prop where
  ln : LN W g s m
  z : W.heap[g6]? = some (.cells #[a, b, c, d] 76 (0, 0))
  o : Onl g w W
  ne : g6 ≠ g
  ge : w.heap.size ≤ g6
section
variable {w W W' : World} {g g6 m m' : Nat} {s : ByteArray} {a b c d : Value}
theorem onl6 (h : Onl g w W) (hg : w.heap.size ≤ g6) (j : Nat) (u : Value) : Onl g w (W.setCell ⟨g6, j, none⟩ u) :=
  ⟨h.os, h.tape, h.output, by simpa [World.setCell] using h.size, fun k hk hn => (Below.heap_setCell W ⟨g6, j, none⟩ u k (by show k ≠ g6; omega)).trans (h.block k hk hn)⟩
theorem NS.drewN (h : NS w W g g6 s m a b c d) (n : Nat) : NS w (W.drewN n) g g6 s m a b c d := ⟨h.ln.heap rfl, h.z, h.o.drewN n, h.ne, h.ge⟩
theorem NS.drew (h : NS w W g g6 s m a b c d) : NS w W.drew g g6 s m a b c d := ⟨h.ln.heap rfl, h.z, h.o.drew, h.ne, h.ge⟩
theorem NS.step (h : NS w W g g6 s m a b c d) (hl : LN W' g s m') (ho : Onl g W W') : NS w W' g g6 s m' a b c d :=
  ⟨hl, (ho.block g6 (Array.getElem?_eq_some_iff.1 h.z).1 h.ne).trans h.z, h.o.trans ho, h.ne, h.ge⟩
theorem NS.below (h : NS w W g g6 s m a b c d) (hb : Below W.heap.size W W') : NS w W' g g6 s m a b c d := h.step (h.ln.below hb) (Onl.of_below hb)
theorem NS.setj (h : NS w W g g6 s m a b c d) (j : Nat) (u : Value) : (W.setCell ⟨g6, j, none⟩ u).heap[g6]? = some (.cells ((#[a, b, c, d] : Array Value).setIfInBounds j u) 76 (0, 0)) := by
  simp only [World.setCell, Array.getElem?_modify, if_pos]
  rw [h.z]
  rfl
theorem NS.set0 (h : NS w W g g6 s m a b c d) (u : Value) : NS w (W.setCell ⟨g6, 0, none⟩ u) g g6 s m u b c d := ⟨LX.far h.ln h.ne u, h.setj 0 u, onl6 h.o h.ge 0 u, h.ne, h.ge⟩
theorem NS.set1 (h : NS w W g g6 s m a b c d) (u : Value) : NS w (W.setCell ⟨g6, 1, none⟩ u) g g6 s m a u c d := ⟨LX.far h.ln h.ne u, h.setj 1 u, onl6 h.o h.ge 1 u, h.ne, h.ge⟩
theorem NS.set2 (h : NS w W g g6 s m a b c d) (u : Value) : NS w (W.setCell ⟨g6, 2, none⟩ u) g g6 s m a b u d := ⟨LX.far h.ln h.ne u, h.setj 2 u, onl6 h.o h.ge 2 u, h.ne, h.ge⟩
theorem NS.set3 (h : NS w W g g6 s m a b c d) (u : Value) : NS w (W.setCell ⟨g6, 3, none⟩ u) g g6 s m a b c u := ⟨LX.far h.ln h.ne u, h.setj 3 u, onl6 h.o h.ge 3 u, h.ne, h.ge⟩
theorem NS.all (h : NS w W g g6 s m a b c d) (a' b' c' d' : Value) : NS w ((((W.setCell ⟨g6, 0, none⟩ a').setCell ⟨g6, 1, none⟩ b').setCell ⟨g6, 2, none⟩ c').setCell ⟨g6, 3, none⟩ d') g g6 s m a' b' c' d' := (((h.set0 a').set1 b').set2 c').set3 d'
theorem NS.c0 (h : NS w W g g6 s m a b c d) : W.cell? ⟨g6, 0, none⟩ = some a := by unfold World.cell?; rw [h.z]; rfl
theorem NS.c1 (h : NS w W g g6 s m a b c d) : W.cell? ⟨g6, 1, none⟩ = some b := by unfold World.cell?; rw [h.z]; rfl
theorem NS.c2 (h : NS w W g g6 s m a b c d) : W.cell? ⟨g6, 2, none⟩ = some c := by unfold World.cell?; rw [h.z]; rfl
theorem NS.c3 (h : NS w W g g6 s m a b c d) : W.cell? ⟨g6, 3, none⟩ = some d := by unfold World.cell?; rw [h.z]; rfl
theorem NS.f (h : NS w W g g6 s m a b c d) (j : Nat) : W.frozen? ⟨g6, j, none⟩ = false := by unfold World.frozen?; rw [h.z]; simp
end
def resT (c : Int) : Int := (irislexer_resolveTokenType.f c).getD 8
theorem resT_eq (c : Int) : irislexer_resolveTokenType.f c = some (resT c) := by
  unfold resT irislexer_resolveTokenType.f
  repeat' split
  all_goals rfl
def lookT (t : ByteArray) : Int := (iristoken_LookupIdent.f t).getD 8
theorem lookT_eq (t : ByteArray) : iristoken_LookupIdent.f t = some (lookT t) := by
  unfold lookT iristoken_LookupIdent.f
  split <;> rfl
/-- The token that begins behind the blanks at n, and where the lexer stands behind it. -/
def nextTk (s : ByteArray) (n : Nat) : Tk × Nat :=
  if resT (chAt s (skipTo isWs s n)) = 0 then (⟨0, ⟨#[]⟩, 0, 0⟩, skipTo isWs s n + 1)
  else if resT (chAt s (skipTo isWs s n)) = 8 then
    (if isLt (chAt s (skipTo isWs s n)) = true then (tokAt (lookT (s.extract (skipTo isWs s n) (skipTo isLD s (skipTo isWs s n)))) (s.extract (skipTo isWs s n) (skipTo isLD s (skipTo isWs s n))) (skipTo isLD s (skipTo isWs s n)), skipTo isLD s (skipTo isWs s n))
     else if isDg (chAt s (skipTo isWs s n)) = true then (tokAt 10 (s.extract (skipTo isWs s n) (skipTo isDg s (skipTo isWs s n))) (skipTo isDg s (skipTo isWs s n)), skipTo isDg s (skipTo isWs s n))
     else (tokAt 1 (Utf8.encode (chAt s (skipTo isWs s n))) (skipTo isWs s n), skipTo isWs s n + 1))
  else (tokAt (resT (chAt s (skipTo isWs s n))) (Utf8.encode (chAt s (skipTo isWs s n))) (skipTo isWs s n), skipTo isWs s n + 1)
theorem skipN_le (P : Int → Bool) (h0 : P 0 = false) (s : ByteArray) : ∀ f n, n ≤ s.size → skipN P s f n ≤ s.size
  | 0, n, h => h
  | f + 1, n, h => by
    rw [skipN]
    split
    · rename_i hc
      exact skipN_le P h0 s f (n + 1) (ch_in h0 hc)
    · exact h
theorem skipTo_le {P : Int → Bool} (h0 : P 0 = false) {s : ByteArray} {n : Nat} (h : n ≤ s.size) : skipTo P s n ≤ s.size := skipN_le P h0 s _ n h
theorem skipTo_far {P : Int → Bool} {s : ByteArray} {n : Nat} (h : s.size ≤ n) : skipTo P s n = n := by unfold skipTo; rw [show s.size - n = 0 by omega]; rfl
theorem skipTo_bound {P : Int → Bool} (h0 : P 0 = false) {s : ByteArray} {n B : Nat} (h : n ≤ B) (hs : s.size ≤ B) : skipTo P s n ≤ B := by
  by_cases hc : n ≤ s.size
  · exact Nat.le_trans (skipTo_le h0 hc) hs
  · rw [skipTo_far (by omega)]; exact h
set_option maxHeartbeats 16000000 in
set_option maxRecDepth 100000 in
theorem nextToken_calls (w : World) (g : Nat) (s : ByteArray) (n : Nat) (h : LN w g s n) (hs : s.size ≤ 2147483647) (hn : n ≤ 4611686018427387900) (T : Tk) (n' : Nat) (hT : nextTk s n = (T, n')) :
    Calls Try.prog 75 #[.pointer (some ⟨g, 0, none⟩)] w fun e w' => e = .returned (.agg #[.int .i64 T.k, .string T.t, .int .i64 T.a, .int .i64 T.z]) ∧ LN w' g s n' ∧ Onl g w w' := by
  have HTT := Aside0.mk hT
  obtain ⟨m, hm⟩ : ∃ m, m = skipTo isWs s n := ⟨_, rfl⟩
  obtain ⟨x3, hx3⟩ : ∃ x3, x3 = chAt s m := ⟨_, rfl⟩
  obtain ⟨ty, hty⟩ : ∃ ty, ty = resT x3 := ⟨_, rfl⟩
  have HM := Aside0.mk hm
  have HX := Aside0.mk hx3
  have HTY := Aside0.mk hty
  have HMB : Aside0 (m ≤ 4611686018427387900) := ⟨by rw [hm]; exact skipTo_bound (by decide) hn (by omega)⟩
  have HS := Aside0.mk hs
  have hg := LX.lt h
  obtain ⟨W1, hW1⟩ : ∃ W1, W1 = w.alloc (.cells #[.int .i64 0, .string ⟨#[]⟩, .int .i64 0, .int .i64 0] 76) := ⟨_, rfl⟩
  obtain ⟨g6, hg6⟩ : ∃ g6, g6 = w.heap.size := ⟨_, rfl⟩
  have N1 : Aside0 (NS w W1 g g6 s n (.int .i64 0) (.string ⟨#[]⟩) (.int .i64 0) (.int .i64 0)) := ⟨⟨by rw [hW1]; exact LX.alloc h _, by rw [hW1, hg6]; exact heap_alloc_new w _, by rw [hW1]; exact (Onl.refl g w).alloc _, by omega, by omega⟩⟩
  clear hT hm hx3 hty hs hn hg h
  go_enter Try.func75, Try.ntmps75
  go_upto_region 1 with (fail)
  rw [← hg6, ← hW1]
  clear hW1 hg6
  go_wp2_with (fail)
  refine (skipWs_calls _ g s n N1.out.ln HS.out).mono ?_
  rintro e w2 ⟨rfl, hl2, ho2⟩
  have N2 := Aside0.mk (N1.out.step hl2 ho2)
  rw [← HM.out] at N2
  clear hl2 ho2 N1
  have f3 := LX.c3 N2.out.ln
  rw [← HX.out] at f3
  go_wp2_with (fail)
  refine (irislexer_resolveTokenType.calls x3 ty _ (by rw [HTY.out]; exact resT_eq x3)).mono ?_
  rintro e w3 ⟨rfl, ⟨nd, rfl⟩⟩
  obtain ⟨W3, hW3⟩ : ∃ W3, W3 = w2.drewN nd := ⟨_, rfl⟩
  have N3 : Aside0 (NS w W3 g g6 s m (.int .i64 0) (.string ⟨#[]⟩) (.int .i64 0) (.int .i64 0)) := ⟨by rw [hW3]; exact N2.out.drewN nd⟩
  rw [← hW3]
  clear hW3 f3 N2
  have f3 := LX.c3 N3.out.ln
  rw [← HX.out] at f3
  have zc0 := N3.out.c0
  have zc1 := N3.out.c1
  have zc2 := N3.out.c2
  have zc3 := N3.out.c3
  have zf0 := N3.out.f 0
  have zf1 := N3.out.f 1
  have zf2 := N3.out.f 2
  have zf3 := N3.out.f 3
  have hfar := LX.c3 (N3.out.set0 (.int .i64 ty)).ln
  rw [← HX.out] at hfar
  by_cases h0 : ty = 0
  · have b0 : (ty == 0) = true := beq_iff_eq.2 h0
    have HE : Aside0 (T = ⟨0, ⟨#[]⟩, 0, 0⟩ ∧ n' = m + 1) := ⟨by
      have := HTT.out
      unfold nextTk at this
      rw [← HM.out, ← HX.out, ← HTY.out, if_pos h0] at this
      exact ⟨(congrArg Prod.fst this).symm, (congrArg Prod.snd this).symm⟩⟩
    have HTY0 := Aside0.mk h0
    clear h0
    go_wp2_with (fail)
    refine (readNext_calls _ g s m ((N3.out.set0 (.int .i64 ty)).set1 (.string ⟨#[]⟩)).ln (by have := HMB.out; omega)).mono ?_
    rintro e w4 ⟨rfl, hl4, ho4⟩
    have N4 := Aside0.mk (((N3.out.set0 (.int .i64 ty)).set1 (.string ⟨#[]⟩)).step hl4 ho4)
    clear hl4 ho4
    go_wp2_with (fail)
    refine bodyPost_ret (results_cell_row rfl _ _ g6 76 _ (0, 0) _ rfl N4.out.z Try.underlying76 rfl (by kernel_rfl)) rfl ?_
    rw [HE.out.1, HE.out.2]
    exact ⟨by rw [HTY0.out], N4.out.ln, N4.out.o⟩
  · have b0 : (ty == 0) = false := beq_eq_false_iff_ne.2 h0
    by_cases h8 : ty = 8
    · have b8 : (ty == 8) = true := beq_iff_eq.2 h8
      by_cases hl : isLt x3 = true
      · have HLT : Aside0 (irislexer_isLetter.f x3 = some true) := ⟨by rw [isLt_eq, hl]⟩
        have hms : m ≤ s.size := Nat.le_of_lt (ch_in (P := isLt) (by decide) (by rw [← HX.out]; exact hl))
        obtain ⟨e1, he1⟩ : ∃ e1, e1 = skipTo isLD s m := ⟨_, rfl⟩
        obtain ⟨lit, hlit⟩ : ∃ lit, lit = s.extract m e1 := ⟨_, rfl⟩
        obtain ⟨k1, hk1⟩ : ∃ k1, k1 = lookT lit := ⟨_, rfl⟩
        obtain ⟨T1, hT1⟩ : ∃ T1, tokAt k1 lit e1 = T1 := ⟨_, rfl⟩
        have HT1 := Aside0.mk hT1
        have HE1 := Aside0.mk he1
        have HLI := Aside0.mk hlit
        have HK1 := Aside0.mk hk1
        have HMS := Aside0.mk hms
        have HEB : Aside0 (e1 ≤ s.size) := ⟨by rw [he1]; exact skipTo_le isLD0 hms⟩
        have HLS : Aside0 (lit.size ≤ s.size) := ⟨by rw [hlit]; simp; omega⟩
        have HE : Aside0 (T = T1 ∧ n' = e1) := ⟨by
          have := HTT.out
          unfold nextTk at this
          rw [← HM.out, ← HX.out, ← HTY.out, if_neg h0, if_pos h8, if_pos hl, ← he1, ← hlit, ← hk1, hT1] at this
          exact ⟨(congrArg Prod.fst this).symm, (congrArg Prod.snd this).symm⟩⟩
        clear h0 h8 hl hT1 he1 hlit hk1 hms
        go_wp2_with (fail)
        refine (irislexer_isLetter.calls x3 true _ HLT.out).mono ?_
        rintro e w9 ⟨rfl, ⟨ndW4, rfl⟩⟩
        obtain ⟨W4, hW4⟩ : ∃ W, W = (W3.setCell ⟨g6, 0, none⟩ (.int .i64 ty)).drewN ndW4 := ⟨_, rfl⟩
        have N4 : Aside0 (NS w W4 g g6 s m (.int .i64 ty) (.string ⟨#[]⟩) (.int .i64 0) (.int .i64 0)) := ⟨by rw [hW4]; exact (N3.out.set0 (.int .i64 ty)).drewN ndW4⟩
        rw [← hW4]
        clear hW4
        clear hfar
        clear zc0 zc1 zc2 zc3 zf0 zf1 zf2 zf3 f3
        have zc0 := N4.out.c0
        have zc1 := N4.out.c1
        have zc2 := N4.out.c2
        have zc3 := N4.out.c3
        have zf0 := N4.out.f 0
        have zf1 := N4.out.f 1
        have zf2 := N4.out.f 2
        have zf3 := N4.out.f 3
        have f3 := LX.c3 N4.out.ln
        rw [← HX.out] at f3
        go_wp2_with (fail)
        refine (readIdent_calls _ g s m N4.out.ln HS.out HMS.out).mono ?_
        rintro e W5 ⟨rfl, hl5, ho5⟩
        rw [← HE1.out, ← HLI.out]
        rw [← HE1.out] at hl5
        have N5 := Aside0.mk (N4.out.step hl5 ho5)
        clear hl5 ho5 N4 zc0 zc1 zc2 zc3 zf0 zf1 zf2 zf3 f3
        go_wp2_with (fail)
        refine (iristoken_LookupIdent.calls lit k1 _ (by rw [HK1.out]; exact lookT_eq lit)).mono ?_
        rintro e w9 ⟨rfl, ⟨nd6, rfl⟩⟩
        obtain ⟨W6, hW6⟩ : ∃ W, W = W5.drewN nd6 := ⟨_, rfl⟩
        have N6 : Aside0 (NS w W6 g g6 s e1 (.int .i64 ty) (.string ⟨#[]⟩) (.int .i64 0) (.int .i64 0)) := ⟨by rw [hW6]; exact N5.out.drewN nd6⟩
        rw [← hW6]
        clear hW6 N5
        go_wp2_with (fail)
        refine (newToken_calls _ g s e1 k1 lit N6.out.ln (by have := HEB.out; have := HS.out; omega) (by have := HLS.out; have := HS.out; omega) T1 HT1.out).mono ?_
        rintro e W7 ⟨rfl, hb7⟩
        have N7 := Aside0.mk (N6.out.below hb7)
        clear hb7
        have zc0 := N7.out.c0
        have zc1 := N7.out.c1
        have zc2 := N7.out.c2
        have zc3 := N7.out.c3
        have zf0 := N7.out.f 0
        have zf1 := N7.out.f 1
        have zf2 := N7.out.f 2
        have zf3 := N7.out.f 3
        go_wp2_with (fail)
        refine bodyPost_ret (results_cell_row rfl _ _ g6 76 _ (0, 0) _ rfl (N7.out.all _ _ _ _).z Try.underlying76 rfl (by kernel_rfl)) rfl ?_
        rw [HE.out.1, HE.out.2]
        exact ⟨rfl, (N7.out.all _ _ _ _).ln, (N7.out.all _ _ _ _).o⟩
      · by_cases hd : isDg x3 = true
        · have HLT : Aside0 (irislexer_isLetter.f x3 = some false) := ⟨by rw [isLt_eq, Bool.eq_false_iff.2 hl]⟩
          have HDG : Aside0 (irislexer_isDigit.f x3 = some true) := ⟨by rw [isDg_eq, hd]⟩
          have hms : m ≤ s.size := Nat.le_of_lt (ch_in (P := isDg) (by decide) (by rw [← HX.out]; exact hd))
          obtain ⟨e1, he1⟩ : ∃ e1, e1 = skipTo isDg s m := ⟨_, rfl⟩
          obtain ⟨lit, hlit⟩ : ∃ lit, lit = s.extract m e1 := ⟨_, rfl⟩
          obtain ⟨T1, hT1⟩ : ∃ T1, tokAt 10 lit e1 = T1 := ⟨_, rfl⟩
          have HT1 := Aside0.mk hT1
          have HE1 := Aside0.mk he1
          have HLI := Aside0.mk hlit
          have HMS := Aside0.mk hms
          have HEB : Aside0 (e1 ≤ s.size) := ⟨by rw [he1]; exact skipTo_le isDg0 hms⟩
          have HLS : Aside0 (lit.size ≤ s.size) := ⟨by rw [hlit]; simp; omega⟩
          have HE : Aside0 (T = T1 ∧ n' = e1) := ⟨by
            have := HTT.out
            unfold nextTk at this
            rw [← HM.out, ← HX.out, ← HTY.out, if_neg h0, if_pos h8, if_neg hl, if_pos hd, ← he1, ← hlit, hT1] at this
            exact ⟨(congrArg Prod.fst this).symm, (congrArg Prod.snd this).symm⟩⟩
          clear h0 h8 hl hd hT1 he1 hlit hms
          go_wp2_with (fail)
          refine (irislexer_isLetter.calls x3 false _ HLT.out).mono ?_
          rintro e w9 ⟨rfl, ⟨ndW4, rfl⟩⟩
          obtain ⟨W4, hW4⟩ : ∃ W, W = (W3.setCell ⟨g6, 0, none⟩ (.int .i64 ty)).drewN ndW4 := ⟨_, rfl⟩
          have N4 : Aside0 (NS w W4 g g6 s m (.int .i64 ty) (.string ⟨#[]⟩) (.int .i64 0) (.int .i64 0)) := ⟨by rw [hW4]; exact (N3.out.set0 (.int .i64 ty)).drewN ndW4⟩
          rw [← hW4]
          clear hW4
          clear hfar
          clear zc0 zc1 zc2 zc3 zf0 zf1 zf2 zf3 f3
          have zc0 := N4.out.c0
          have zc1 := N4.out.c1
          have zc2 := N4.out.c2
          have zc3 := N4.out.c3
          have zf0 := N4.out.f 0
          have zf1 := N4.out.f 1
          have zf2 := N4.out.f 2
          have zf3 := N4.out.f 3
          have f3 := LX.c3 N4.out.ln
          rw [← HX.out] at f3
          go_wp2_with (fail)
          refine (irislexer_isDigit.calls x3 true _ HDG.out).mono ?_
          rintro e w9 ⟨rfl, ⟨ndW5, rfl⟩⟩
          obtain ⟨W5, hW5⟩ : ∃ W, W = W4.drewN ndW5 := ⟨_, rfl⟩
          have N5 : Aside0 (NS w W5 g g6 s m (.int .i64 ty) (.string ⟨#[]⟩) (.int .i64 0) (.int .i64 0)) := ⟨by rw [hW5]; exact N4.out.drewN ndW5⟩
          rw [← hW5]
          clear hW5
          clear N4
          clear zc0 zc1 zc2 zc3 zf0 zf1 zf2 zf3 f3
          have zc0 := N5.out.c0
          have zc1 := N5.out.c1
          have zc2 := N5.out.c2
          have zc3 := N5.out.c3
          have zf0 := N5.out.f 0
          have zf1 := N5.out.f 1
          have zf2 := N5.out.f 2
          have zf3 := N5.out.f 3
          have f3 := LX.c3 N5.out.ln
          rw [← HX.out] at f3
          go_wp2_with (fail)
          refine (readNum_calls _ g s m N5.out.ln HS.out HMS.out).mono ?_
          rintro e W6 ⟨rfl, hl6, ho6⟩
          rw [← HE1.out, ← HLI.out]
          rw [← HE1.out] at hl6
          have N6 := Aside0.mk (N5.out.step hl6 ho6)
          clear hl6 ho6 N5 zc0 zc1 zc2 zc3 zf0 zf1 zf2 zf3 f3
          go_wp2_with (fail)
          refine (newToken_calls _ g s e1 10 lit N6.out.ln (by have := HEB.out; have := HS.out; omega) (by have := HLS.out; have := HS.out; omega) T1 HT1.out).mono ?_
          rintro e W7 ⟨rfl, hb7⟩
          have N7 := Aside0.mk (N6.out.below hb7)
          clear hb7
          have zc0 := N7.out.c0
          have zc1 := N7.out.c1
          have zc2 := N7.out.c2
          have zc3 := N7.out.c3
          have zf0 := N7.out.f 0
          have zf1 := N7.out.f 1
          have zf2 := N7.out.f 2
          have zf3 := N7.out.f 3
          go_wp2_with (fail)
          refine bodyPost_ret (results_cell_row rfl _ _ g6 76 _ (0, 0) _ rfl (N7.out.all _ _ _ _).z Try.underlying76 rfl (by kernel_rfl)) rfl ?_
          rw [HE.out.1, HE.out.2]
          exact ⟨rfl, (N7.out.all _ _ _ _).ln, (N7.out.all _ _ _ _).o⟩
        · have HLT : Aside0 (irislexer_isLetter.f x3 = some false) := ⟨by rw [isLt_eq, Bool.eq_false_iff.2 hl]⟩
          have HDG : Aside0 (irislexer_isDigit.f x3 = some false) := ⟨by rw [isDg_eq, Bool.eq_false_iff.2 hd]⟩
          obtain ⟨T1, hT1⟩ : ∃ T1, tokAt 1 (Utf8.encode x3) m = T1 := ⟨_, rfl⟩
          have HT1 := Aside0.mk hT1
          have HE : Aside0 (T = T1 ∧ n' = m + 1) := ⟨by
            have := HTT.out
            unfold nextTk at this
            rw [← HM.out, ← HX.out, ← HTY.out, if_neg h0, if_pos h8, if_neg hl, if_neg hd, hT1] at this
            exact ⟨(congrArg Prod.fst this).symm, (congrArg Prod.snd this).symm⟩⟩
          clear h0 h8 hl hd hT1
          go_wp2_with (fail)
          refine (irislexer_isLetter.calls x3 false _ HLT.out).mono ?_
          rintro e w9 ⟨rfl, ⟨ndW4, rfl⟩⟩
          obtain ⟨W4, hW4⟩ : ∃ W, W = (W3.setCell ⟨g6, 0, none⟩ (.int .i64 ty)).drewN ndW4 := ⟨_, rfl⟩
          have N4 : Aside0 (NS w W4 g g6 s m (.int .i64 ty) (.string ⟨#[]⟩) (.int .i64 0) (.int .i64 0)) := ⟨by rw [hW4]; exact (N3.out.set0 (.int .i64 ty)).drewN ndW4⟩
          rw [← hW4]
          clear hW4
          clear hfar
          clear zc0 zc1 zc2 zc3 zf0 zf1 zf2 zf3 f3
          have zc0 := N4.out.c0
          have zc1 := N4.out.c1
          have zc2 := N4.out.c2
          have zc3 := N4.out.c3
          have zf0 := N4.out.f 0
          have zf1 := N4.out.f 1
          have zf2 := N4.out.f 2
          have zf3 := N4.out.f 3
          have f3 := LX.c3 N4.out.ln
          rw [← HX.out] at f3
          go_wp2_with (fail)
          refine (irislexer_isDigit.calls x3 false _ HDG.out).mono ?_
          rintro e w9 ⟨rfl, ⟨ndW5, rfl⟩⟩
          obtain ⟨W5, hW5⟩ : ∃ W, W = W4.drewN ndW5 := ⟨_, rfl⟩
          have N5 : Aside0 (NS w W5 g g6 s m (.int .i64 ty) (.string ⟨#[]⟩) (.int .i64 0) (.int .i64 0)) := ⟨by rw [hW5]; exact N4.out.drewN ndW5⟩
          rw [← hW5]
          clear hW5
          clear N4
          clear zc0 zc1 zc2 zc3 zf0 zf1 zf2 zf3 f3
          have zc0 := N5.out.c0
          have zc1 := N5.out.c1
          have zc2 := N5.out.c2
          have zc3 := N5.out.c3
          have zf0 := N5.out.f 0
          have zf1 := N5.out.f 1
          have zf2 := N5.out.f 2
          have zf3 := N5.out.f 3
          have f3 := LX.c3 N5.out.ln
          rw [← HX.out] at f3
          go_wp2_with (fail)
          refine (newTokenRune_calls _ g s m 1 x3 N5.out.ln (by have := HMB.out; omega) T1 HT1.out).mono ?_
          rintro e W6 ⟨rfl, hb6⟩
          have N6 := Aside0.mk (N5.out.below hb6)
          clear hb6 zc0 zc1 zc2 zc3 zf0 zf1 zf2 zf3 f3
          have zc0 := N6.out.c0
          have zc1 := N6.out.c1
          have zc2 := N6.out.c2
          have zc3 := N6.out.c3
          have zf0 := N6.out.f 0
          have zf1 := N6.out.f 1
          have zf2 := N6.out.f 2
          have zf3 := N6.out.f 3
          go_wp2_with (fail)
          refine (readNext_calls _ g s m (N6.out.all _ _ _ _).ln (by have := HMB.out; omega)).mono ?_
          rintro e w7 ⟨rfl, hl7, ho7⟩
          have N7 := Aside0.mk ((N6.out.all _ _ _ _).step hl7 ho7)
          clear hl7 ho7
          go_wp2_with (fail)
          refine bodyPost_ret (results_cell_row rfl _ _ g6 76 _ (0, 0) _ rfl N7.out.z Try.underlying76 rfl (by kernel_rfl)) rfl ?_
          rw [HE.out.1, HE.out.2]
          exact ⟨rfl, N7.out.ln, N7.out.o⟩
    · have b8 : (ty == 8) = false := beq_eq_false_iff_ne.2 h8
      obtain ⟨T1, hT1⟩ : ∃ T1, tokAt ty (Utf8.encode x3) m = T1 := ⟨_, rfl⟩
      have HT1 := Aside0.mk hT1
      have HE : Aside0 (T = T1 ∧ n' = m + 1) := ⟨by
        have := HTT.out
        unfold nextTk at this
        rw [← HM.out, ← HX.out, ← HTY.out, if_neg h0, if_neg h8, hT1] at this
        exact ⟨(congrArg Prod.fst this).symm, (congrArg Prod.snd this).symm⟩⟩
      clear h0 h8 hT1
      go_wp2_with (fail)
      refine (newTokenRune_calls _ g s m ty x3 (N3.out.set0 (.int .i64 ty)).ln (by have := HMB.out; omega) T1 HT1.out).mono ?_
      rintro e w4 ⟨rfl, hb4⟩
      have N4 := Aside0.mk ((N3.out.set0 (.int .i64 ty)).below hb4)
      clear hb4 zc0 zc1 zc2 zc3 zf0 zf1 zf2 zf3 hfar f3
      have zc0 := N4.out.c0
      have zc1 := N4.out.c1
      have zc2 := N4.out.c2
      have zc3 := N4.out.c3
      have zf0 := N4.out.f 0
      have zf1 := N4.out.f 1
      have zf2 := N4.out.f 2
      have zf3 := N4.out.f 3
      go_wp2_with (fail)
      refine (readNext_calls _ g s m (N4.out.all _ _ _ _).ln (by have := HMB.out; omega)).mono ?_
      rintro e w5 ⟨rfl, hl5, ho5⟩
      have N5 := Aside0.mk ((N4.out.all _ _ _ _).step hl5 ho5)
      clear hl5 ho5
      go_wp2_with (fail)
      refine bodyPost_ret (results_cell_row rfl _ _ g6 76 _ (0, 0) _ rfl N5.out.z Try.underlying76 rfl (by kernel_rfl)) rfl ?_
      rw [HE.out.1, HE.out.2]
      exact ⟨rfl, N5.out.ln, N5.out.o⟩
end Go.Proofs.Ytipmmjbjgbfgjaa.Q
