/- All tokens of a text. -/
import Derived.Test.YtipmmjbjgbfgjaaLx4
namespace Go.Proofs.Ytipmmjbjgbfgjaa.Q
open Go.RowKit Go.Proofs.YtipmmjbjgbfgjaaW.PrintWords Go.Proofs.YtipmmjbjgbfgjaaW.PrintLast Go.Proofs.YtipmmjbjgbfgjaaW.PrintMore
set_option linter.unusedVariables false
set_option linter.unusedSimpArgs false
def toS (x : Tk) : S56 := ⟨x.k, x.t, x.a, x.z⟩
def tokL (s : ByteArray) : Nat → Nat → List Tk
  | 0, _ => []
  | f + 1, n => (nextTk s n).1 :: (if (nextTk s n).1.k = 0 then [] else tokL s f (nextTk s n).2)
/-- The tokens of a text from a place on, the end among them. -/
def toks (s : ByteArray) (n : Nat) : List Tk := tokL s (s.size + 2 - n) n
theorem skipN_ge (P : Int → Bool) (s : ByteArray) : ∀ f n, n ≤ skipN P s f n
  | 0, n => Nat.le_refl _
  | f + 1, n => by
    rw [skipN]
    split
    · exact Nat.le_trans (Nat.le_succ n) (skipN_ge P s f (n + 1))
    · exact Nat.le_refl _
theorem skipTo_ge (P : Int → Bool) (s : ByteArray) (n : Nat) : n ≤ skipTo P s n := skipN_ge P s _ n
theorem skipTo_gt {P : Int → Bool} (h0 : P 0 = false) {s : ByteArray} {n : Nat} (h : P (chAt s n) = true) : n < skipTo P s n := by
  rw [skip_go h0 h]
  exact skipTo_ge P s (n + 1)
theorem resT_in {s : ByteArray} {m : Nat} (h : resT (chAt s m) ≠ 0) : m < s.size := by
  refine Classical.byContradiction fun hn => h ?_
  unfold chAt
  rw [if_neg hn]
  decide
theorem tokAt_k (k : Int) (t : ByteArray) (n : Nat) : (tokAt k t n).k = k := by unfold tokAt; split <;> rfl
theorem lookT_ne (t : ByteArray) : lookT t ≠ 0 := by
  unfold lookT iristoken_LookupIdent.f
  split <;> decide
/-- Behind a token that is not the end the lexer stands further on, and no further than at the end. -/
theorem nextTk_adv (s : ByteArray) (n : Nat) (h : (nextTk s n).1.k ≠ 0) : n < (nextTk s n).2 ∧ (nextTk s n).2 ≤ s.size := by
  have hge := skipTo_ge isWs s n
  unfold nextTk at h ⊢
  by_cases h0 : resT (chAt s (skipTo isWs s n)) = 0
  · rw [if_pos h0] at h; exact absurd rfl h
  have hin := resT_in h0
  rw [if_neg h0] at h ⊢
  by_cases h8 : resT (chAt s (skipTo isWs s n)) = 8
  · rw [if_pos h8] at h ⊢
    by_cases hl : isLt (chAt s (skipTo isWs s n)) = true
    · rw [if_pos hl] at h ⊢
      have h1 := skipTo_gt (P := isLD) isLD0 (s := s) (n := skipTo isWs s n) (by simp [isLD, hl])
      have h2 := skipTo_le (P := isLD) isLD0 (s := s) (n := skipTo isWs s n) (by omega)
      exact ⟨by show n < skipTo isLD s _; omega, h2⟩
    · rw [if_neg hl] at h ⊢
      by_cases hd : isDg (chAt s (skipTo isWs s n)) = true
      · rw [if_pos hd] at h ⊢
        have h1 := skipTo_gt (P := isDg) isDg0 hd
        have h2 := skipTo_le (P := isDg) isDg0 (s := s) (n := skipTo isWs s n) (by omega)
        exact ⟨by show n < skipTo isDg s _; omega, h2⟩
      · rw [if_neg hd]
        exact ⟨by show n < skipTo isWs s n + 1; omega, by show skipTo isWs s n + 1 ≤ s.size; omega⟩
  · rw [if_neg h8]
    exact ⟨by show n < skipTo isWs s n + 1; omega, by show skipTo isWs s n + 1 ≤ s.size; omega⟩
theorem tokL_more (s : ByteArray) : ∀ f n, s.size + 1 ≤ n + f → n ≤ s.size + 1 → ∀ f', s.size + 1 ≤ n + f' → 0 < f → 0 < f' → tokL s f n = tokL s f' n
  | 0, n, h1, h2, f', h3, h4, h5 => absurd h4 (Nat.lt_irrefl 0)
  | f + 1, n, h1, h2, 0, h3, h4, h5 => absurd h5 (Nat.lt_irrefl 0)
  | f + 1, n, h1, h2, f' + 1, h3, h4, h5 => by
    rw [tokL, tokL]
    congr 1
    split
    · rfl
    · rename_i hk
      have := nextTk_adv s n hk
      exact tokL_more s f _ (by omega) (by omega) f' (by omega) (by omega) (by omega)
theorem toks_end (s : ByteArray) (n : Nat) (hn : n ≤ s.size + 1) (h : (nextTk s n).1.k = 0) : toks s n = [(nextTk s n).1] := by
  unfold toks
  rw [show s.size + 2 - n = (s.size + 1 - n) + 1 by omega, tokL, if_pos h]
theorem toks_go (s : ByteArray) (n : Nat) (hn : n ≤ s.size + 1) (h : (nextTk s n).1.k ≠ 0) : toks s n = (nextTk s n).1 :: toks s (nextTk s n).2 := by
  have := nextTk_adv s n h
  unfold toks
  rw [show s.size + 2 - n = (s.size + 1 - n) + 1 by omega, tokL, if_neg h]
  congr 1
  exact tokL_more s _ _ (by omega) (by omega) _ (by omega) (by omega) (by omega)
set_option maxHeartbeats 16000000 in
set_option maxRecDepth 100000 in
theorem tokens_calls (s : ByteArray) (w : World) (hs : s.size ≤ 2147483647) : Calls Try.prog 36 #[.string s] w fun e w' => ∃ v0_ : Value, e = .returned (v0_) ∧ Kd.R k56 56 w' w.heap.size (fun _ => True) v0_ ((toks s 0).map toS) ∧ Below w.heap.size w w' := by
  have HS := Aside0.mk hs
  clear hs
  go_enter Try.func36, Try.ntmps36
  go_wp2_with (fail)
  refine (new_calls w s).mono ?_
  rintro e w1 ⟨g, rfl, hg, hl, hb⟩
  have HL0 := Aside0.mk hl
  have HB0 := Aside0.mk hb
  have HG := Aside0.mk hg
  clear hl hb hg
  go_wp2_with (fail)
  go_loopw [4] (fun v4 wr => ∃ (n : Nat) (acc : List Tk), Aside0 (Kd.R k56 56 wr w.heap.size (fun k_ => k_ ≠ g) v4 (acc.map toS)) ∧ Aside0 (LN wr g s n) ∧ Aside0 (acc ++ toks s n = toks s 0) ∧ Aside0 (n ≤ s.size) ∧ Aside0 (acc.length ≤ n) ∧ Aside0 (Below w.heap.size w wr)) (fun _ wr => s.size + 1 - posW wr g)
  case atStart => exact ⟨0, [], ⟨Kd.R_nil _ _ _ _ _⟩, HL0, ⟨rfl⟩, ⟨Nat.zero_le _⟩, ⟨Nat.le_refl _⟩, HB0⟩
  case round =>
    obtain ⟨n, acc, HO, HL, HI, HN, HAL, HB⟩ := hrel
    obtain ⟨T, n', hT⟩ : ∃ T n', nextTk s n = (T, n') := ⟨_, _, rfl⟩
    have HT := Aside0.mk hT
    clear hT HL0 HB0
    go_wp2_with (fail)
    refine (nextToken_calls wr g s n HL.out HS.out (by have := HN.out; have := HS.out; omega) T n' HT.out).mono ?_
    rintro e w2 ⟨rfl, hl, ho⟩
    have ho2 := Kd.R_kept HO.out ho.kept (fun k hk => hk)
    have HB2 := Aside0.mk (HB.out.trans (ho.below HG.out HB.out.size))
    go_upto_region 4 with (fail)
    obtain ⟨g5, hg5⟩ : ∃ g5, g5 = w2.heap.size := ⟨_, rfl⟩
    rw [← hg5]
    obtain ⟨W5, hW5⟩ : ∃ W5, W5 = w2.alloc (.cells #[.int .i64 T.k, .string T.t, .int .i64 T.a, .int .i64 T.z] 76) := ⟨_, rfl⟩
    rw [← hW5]
    have HZ5 : Aside0 (W5.heap[g5]? = some (.cells #[.int .i64 T.k, .string T.t, .int .i64 T.a, .int .i64 T.z] 76 (0, 0))) := ⟨by rw [hW5, hg5]; exact heap_alloc_new w2 _⟩
    have HL5 : Aside0 (LN W5 g s n') := ⟨by rw [hW5]; exact LX.alloc hl _⟩
    have HB5 : Aside0 (Below w.heap.size w W5) := ⟨by rw [hW5]; exact below_alloc HB2.out _⟩
    have HO5 : Aside0 (Kd.R k56 56 W5 w.heap.size (fun k_ => k_ ≠ g ∧ k_ ≠ g5) u4 (acc.map toS)) := ⟨by rw [hW5]; exact Kd.R_alloc (Kd.R_elderB ho2 g5 (Nat.le_of_eq hg5.symm)) _⟩
    have HLT : Aside0 (g < W5.heap.size ∧ g5 < W5.heap.size) := ⟨⟨LX.lt HL5.out, (Array.getElem?_eq_some_iff.1 HZ5.out).1⟩⟩
    have zc0 : W5.cell? ⟨g5, 0, none⟩ = some (.int .i64 T.k) := by unfold World.cell?; rw [HZ5.out]; rfl
    have zc1 : W5.cell? ⟨g5, 1, none⟩ = some (.string T.t) := by unfold World.cell?; rw [HZ5.out]; rfl
    have zc2 : W5.cell? ⟨g5, 2, none⟩ = some (.int .i64 T.a) := by unfold World.cell?; rw [HZ5.out]; rfl
    have zc3 : W5.cell? ⟨g5, 3, none⟩ = some (.int .i64 T.z) := by unfold World.cell?; rw [HZ5.out]; rfl
    clear hl ho ho2 HB2 hg5 hW5 HO HB
    by_cases hk : T.k = 0
    · have b0 : (T.k == 0) = true := beq_iff_eq.2 hk
      have HE : Aside0 (acc ++ [T] = toks s 0) := ⟨by rw [← HI.out, toks_end s n (by have := HN.out; omega) (by rw [HT.out]; exact hk), HT.out]⟩
      clear hk
      go_wp2_with (first | ((with_reducible refine gate_builtin (b := .append) (xs := #[.tmp 10, .tmp 20]) rfl ?_); at_builtin; refine Kd.R_append k56 (w0 := w) w.heap.size rfl (.tmp 10) (.tmp 20) 50 56 (.agg #[(.int .i64 0), (.string ⟨#[]⟩), (.int .i64 0), (.int .i64 0)]) 40 rfl Try.underlying50 info56 rfl (by decide) (by omega) u4 (acc.map toS) (toS T) [.int .i64 T.k, .string T.t, .int .i64 T.a, .int .i64 T.z] (fun k_ => k_ ≠ g ∧ k_ ≠ g5) (fun _ => False) rfl (by first | (go_simp; done) | (go_simp; rfl)) ?aP (fun _ hk => hk.elim) ?aF ?aO ?aB ?aS ?aL ?_; (case aP => exact k56_mkM _ _ _ (toS T)); (case aB => exact (by repeat (first | (with_reducible first | exact HB5.out | apply below_alloc | apply pw_below_drewN | apply below_drew1) | exact HB5.out))); (case aF => exact (fun k_ hk => ⟨by have := HLT.out.1; omega, by have := HLT.out.2; omega⟩)); (case aO => exact (by (with_reducible repeat (first | apply Kd.R_alloc | apply Kd.R_drewN | apply Kd.R_drew)); exact HO5.out)); (case aS => exact (below_size (by repeat (first | (with_reducible first | exact HB5.out | apply below_alloc | apply pw_below_drewN | apply below_drew1) | exact HB5.out)))); (case aL => have := HAL.out; have := HN.out; have := HS.out; simp; omega); intro v6 w6 ho6 hb6 hg6 hat6; have HO6 := Aside0.mk ho6; have HB6 := Aside0.mk hb6; have hl6 : LN w6 g s n' := (hg6.block g HLT.out.1 (fun e => (HO5.out.1 g e.symm).1 rfl)).trans HL5.out; have hz6 : w6.heap[g5]? = some (.cells #[.int .i64 T.k, .string T.t, .int .i64 T.a, .int .i64 T.z] 76 (0, 0)) := (hg6.block g5 HLT.out.2 (fun e => (HO5.out.1 g5 e.symm).2 rfl)).trans HZ5.out; have HL6 := Aside0.mk hl6; have zc0' : w6.cell? ⟨g5, 0, none⟩ = some (.int .i64 T.k) := (by unfold World.cell?; rw [hz6]; rfl); clear ho6 hb6 hg6 hat6 hl6 hz6 zc0 zc1 zc2 zc3))
      go_ret
      exact ⟨_, rfl, by rw [← HE.out, List.map_append]; exact Kd.R_mono HO6.out (fun _ _ => trivial), HB6.out⟩
    · have b0 : (T.k == 0) = false := beq_eq_false_iff_ne.2 hk
      have hadv := nextTk_adv s n (by rw [HT.out]; exact hk)
      rw [HT.out] at hadv
      have HADV := Aside0.mk hadv
      have HE : Aside0 ((acc ++ [T]) ++ toks s n' = toks s 0) := ⟨by rw [← HI.out, toks_go s n (by have := HN.out; omega) (by rw [HT.out]; exact hk), HT.out]; simp⟩
      clear hk hadv
      go_wp2_with (first | ((with_reducible refine gate_builtin (b := .append) (xs := #[.tmp 10, .tmp 20]) rfl ?_); at_builtin; refine Kd.R_append k56 (w0 := w) w.heap.size rfl (.tmp 10) (.tmp 20) 50 56 (.agg #[(.int .i64 0), (.string ⟨#[]⟩), (.int .i64 0), (.int .i64 0)]) 40 rfl Try.underlying50 info56 rfl (by decide) (by omega) u4 (acc.map toS) (toS T) [.int .i64 T.k, .string T.t, .int .i64 T.a, .int .i64 T.z] (fun k_ => k_ ≠ g ∧ k_ ≠ g5) (fun _ => False) rfl (by first | (go_simp; done) | (go_simp; rfl)) ?aP (fun _ hk => hk.elim) ?aF ?aO ?aB ?aS ?aL ?_; (case aP => exact k56_mkM _ _ _ (toS T)); (case aB => exact (by repeat (first | (with_reducible first | exact HB5.out | apply below_alloc | apply pw_below_drewN | apply below_drew1) | exact HB5.out))); (case aF => exact (fun k_ hk => ⟨by have := HLT.out.1; omega, by have := HLT.out.2; omega⟩)); (case aO => exact (by (with_reducible repeat (first | apply Kd.R_alloc | apply Kd.R_drewN | apply Kd.R_drew)); exact HO5.out)); (case aS => exact (below_size (by repeat (first | (with_reducible first | exact HB5.out | apply below_alloc | apply pw_below_drewN | apply below_drew1) | exact HB5.out)))); (case aL => have := HAL.out; have := HN.out; have := HS.out; simp; omega); intro v6 w6 ho6 hb6 hg6 hat6; have HO6 := Aside0.mk ho6; have HB6 := Aside0.mk hb6; have hl6 : LN w6 g s n' := (hg6.block g HLT.out.1 (fun e => (HO5.out.1 g e.symm).1 rfl)).trans HL5.out; have hz6 : w6.heap[g5]? = some (.cells #[.int .i64 T.k, .string T.t, .int .i64 T.a, .int .i64 T.z] 76 (0, 0)) := (hg6.block g5 HLT.out.2 (fun e => (HO5.out.1 g5 e.symm).2 rfl)).trans HZ5.out; have HL6 := Aside0.mk hl6; have zc0' : w6.cell? ⟨g5, 0, none⟩ = some (.int .i64 T.k) := (by unfold World.cell?; rw [hz6]; rfl); clear ho6 hb6 hg6 hat6 hl6 hz6 zc0 zc1 zc2 zc3))
      go_roundw
      case measure => show s.size + 1 - posW _ g < s.size + 1 - posW _ g; rw [HL6.out.pos, HL.out.pos]; have := HADV.out; have := HN.out; omega
      case rel => exact ⟨n', acc ++ [T], ⟨by rw [List.map_append]; exact Kd.R_mono HO6.out (fun _ h => h.1)⟩, HL6, HE, ⟨HADV.out.2⟩, ⟨by have := HADV.out.1; have := HAL.out; simp; omega⟩, HB6⟩
end Go.Proofs.Ytipmmjbjgbfgjaa.Q
