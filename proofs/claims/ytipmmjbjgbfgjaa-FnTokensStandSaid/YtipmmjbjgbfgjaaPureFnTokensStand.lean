/- The pure statement of FnTokensStand: the tokens of a text of letters, digits, signs and blanks are the text without its blanks. -/
import Derived.Test.YtipmmjbjgbfgjaaQ6
import Derived.Test.YtipmmjbjgbfgjaaQ7
import Derived.Test.YtipmmjbjgbfgjaaSpTok
import Derived.Test.YtipmmjbjgbfgjaaSpTxt
namespace Go.Proofs.Ytipmmjbjgbfgjaa.Pure
open Go.RowKit Go.Proofs.Ytipmmjbjgbfgjaa.Q Go.Proofs.YtipmmjbjgbfgjaaW.PrintWords Go.Proofs.YtipmmjbjgbfgjaaW.PrintLast Go.Proofs.YtipmmjbjgbfgjaaKit Go.Proofs.Ytipmmjbjgbfgjaa.SpA
set_option linter.unusedVariables false
set_option linter.unusedSimpArgs false
theorem begins_eq (a b : ByteArray) : laws_begins.f a b = some (decide (b.size ≤ a.size) && ((L a).take b.size == L b)) := by
  unfold laws_begins.f
  by_cases h : b.size ≤ a.size
  · rw [if_pos (by omega), if_pos (by omega), decide_eq_true h, Bool.true_and, tl, tl, L_extract]
    simp
  · rw [if_neg (by omega), decide_eq_false h, Bool.false_and]
/-- A text without its blanks. -/
def fb (l : List UInt8) : List UInt8 := l.filter (fun c => decide (c ≠ 32))
def signB (c : UInt8) : Bool := [123, 125, 40, 41, 58, 44].any (fun d : UInt8 => decide ((d.toNat : Int) = (c.toNat : Int)))
def okB (c : UInt8) : Bool := decide (c = 32) || (isWordB c || signB c)
theorem byte_all' {p : UInt8 → Prop} (h : ∀ c : Fin 256, p (UInt8.ofNat c)) (c : UInt8) : p c := by
  have := h ⟨c.toNat, c.toNat_lt⟩
  rwa [show UInt8.ofNat c.toNat = c by simp] at this
theorem cls (c : UInt8) : okB c = true → c ≠ 32 → isWs (c.toNat : Int) = false ∧ ((resT (c.toNat : Int) = 8 ∧ (isLt (c.toNat : Int) = true ∨ (isLt (c.toNat : Int) = false ∧ isDg (c.toNat : Int) = true))) ∨ (resT (c.toNat : Int) ≠ 0 ∧ resT (c.toNat : Int) ≠ 8 ∧ L (Utf8.encode (c.toNat : Int)) = [c])) :=
  byte_all' (p := fun c => okB c = true → c ≠ 32 → isWs (c.toNat : Int) = false ∧ ((resT (c.toNat : Int) = 8 ∧ (isLt (c.toNat : Int) = true ∨ (isLt (c.toNat : Int) = false ∧ isDg (c.toNat : Int) = true))) ∨ (resT (c.toNat : Int) ≠ 0 ∧ resT (c.toNat : Int) ≠ 8 ∧ L (Utf8.encode (c.toNat : Int)) = [c]))) (by decide +kernel) c
theorem ld_ne (c : UInt8) : isLD (c.toNat : Int) = true → c ≠ 32 := byte_all' (p := fun c => isLD (c.toNat : Int) = true → c ≠ 32) (by decide +kernel) c
theorem dg_ne (c : UInt8) : isDg (c.toNat : Int) = true → c ≠ 32 := byte_all' (p := fun c => isDg (c.toNat : Int) = true → c ≠ 32) (by decide +kernel) c
theorem ws32 : isWs 32 = true := by decide
theorem fb_all (a b : List UInt8) (h : ∀ c ∈ a, c ≠ 32) : fb (a ++ b) = a ++ fb b := by
  unfold fb
  rw [List.filter_append, List.filter_eq_self.2 (fun c hc => decide_eq_true (h c hc))]
/-- One token that is not the end. -/
theorem tok_step (xs pre rest : List S56) (T : Tk) (x4 : ByteArray) (y : List UInt8) (hx : xs.length ≤ 4294967296) (h : xs = pre ++ toS T :: rest) (hr : rest ≠ []) (hk : T.k ≠ 0) (ht : L T.t ≠ []) (h4 : L x4 = L T.t ++ y) (hz : 1 < T.t.size → T.a < T.z)
    (hev : Ev (fun k => laws_FnTokensStand.l1 k ⟨y.toArray⟩ xs xs xs.length ((pre ++ [toS T]).length : Int)) true) : Ev (fun k => laws_FnTokensStand.l1 k x4 xs xs xs.length (pre.length : Int)) true := by
  have e : rd_T56 xs (pre.length : Int) = toS T := get_mid h _
  have hlen : pre.length + (rest.length + 1) = xs.length := by rw [h]; simp
  have hrl : 0 < rest.length := List.length_pos_iff.2 hr
  have hw : wrap64 ((xs.length : Int) - 1) = (xs.length : Int) - 1 := wrap_id (by omega) (by omega)
  have hb : laws_begins.f x4 T.t = some true := by
    rw [begins_eq, h4, decide_eq_true (by rw [size_L, size_L, h4]; simp), size_L]
    simp
  have hext : x4.extract ((T.t.size : Int)).toNat x4.size = ⟨y.toArray⟩ := by
    refine ext ?_
    rw [L_extract, Int.toNat_natCast, h4, size_L T.t, List.drop_left]
    simp only [L]
    rw [List.take_of_length_le (by rw [size_L x4, h4]; simp)]
  have hj3 : Ev (fun k => laws_FnTokensStand.j3 k x4 xs xs xs.length (pre.length : Int) false T.k T.t T.a T.z) true := by
    refine Ev.step (fun k => ?_) hev
    simp only [laws_FnTokensStand.j3]
    rw [if_neg (by decide), if_neg hk, if_pos (by omega), if_pos (by rw [size_L, size_L, h4]; simp; omega), hext, wrap_lmid h (by omega)]
  refine Ev.step (fun k => ?_) hj3
  simp only [laws_FnTokensStand.l1]
  rw [if_pos (by omega), if_pos (by omega), if_pos (by omega), e, hw]
  show (if ((T.k == 0) != ((pre.length : Int) == (xs.length : Int) - 1)) = true then _ else _) = _
  have hc : ((T.k == 0) != ((pre.length : Int) == (xs.length : Int) - 1)) = false := by
    rw [beq_eq_false_iff_ne.2 hk, beq_eq_false_iff_ne.2 (by omega)]; rfl
  rw [hc, if_neg (by decide)]
  show (if T.k = 0 then _ else if T.t.toList = [] then _ else _) = _
  rw [if_neg hk, if_neg (by rw [tl]; exact ht)]
  show (laws_begins.f x4 T.t).bind _ = _
  rw [hb, Option.bind_some, if_pos rfl]
  show (if (T.t.size : Int) > 1 then _ else _) = _
  by_cases hs : (T.t.size : Int) > 1
  · rw [if_pos hs]
    show laws_FnTokensStand.j3 k x4 xs xs xs.length pre.length (decide (T.z ≤ T.a)) T.k T.t T.a T.z = _
    rw [decide_eq_false (by have := hz (by omega); omega)]
  · rw [if_neg hs]
    rfl
/-- The end. -/
theorem tok_last (xs pre : List S56) (x4 : ByteArray) (hx : xs.length ≤ 4294967296) (h : xs = pre ++ [toS ⟨0, ⟨#[]⟩, 0, 0⟩]) (h4 : L x4 = []) : Ev (fun k => laws_FnTokensStand.l1 k x4 xs xs xs.length (pre.length : Int)) true := by
  have e : rd_T56 xs (pre.length : Int) = toS ⟨0, ⟨#[]⟩, 0, 0⟩ := get_mid h _
  have hlen : pre.length + 1 = xs.length := by rw [h]; simp
  have hw : wrap64 ((xs.length : Int) - 1) = (xs.length : Int) - 1 := wrap_id (by omega) (by omega)
  have hlast : Ev (fun k => laws_FnTokensStand.l1 k x4 xs xs xs.length ((pre ++ [toS ⟨0, ⟨#[]⟩, 0, 0⟩]).length : Int)) true := by
    refine Ev.step (f := fun _ => some true) (fun k => ?_) (Ev.now _)
    simp only [laws_FnTokensStand.l1]
    rw [if_neg (by simp; omega), if_pos (by omega), tl, h4]
    rfl
  have hj3 : Ev (fun k => laws_FnTokensStand.j3 k x4 xs xs xs.length (pre.length : Int) false 0 ⟨#[]⟩ 0 0) true := by
    refine Ev.step (fun k => ?_) hlast
    simp only [laws_FnTokensStand.j3]
    rw [if_neg (by decide), if_pos trivial, wrap_lmid h (by omega)]
  refine Ev.step (fun k => ?_) hj3
  simp only [laws_FnTokensStand.l1]
  rw [if_pos (by omega), if_pos (by omega), if_pos (by omega), e, hw]
  have hc : (((0 : Int) == 0) != ((pre.length : Int) == (xs.length : Int) - 1)) = false := by
    rw [show (pre.length : Int) = (xs.length : Int) - 1 by omega]; simp
  show (if (((0 : Int) == 0) != ((pre.length : Int) == (xs.length : Int) - 1)) = true then _ else _) = _
  rw [hc, if_neg (by decide)]
  rfl
theorem toks_len (s : ByteArray) : ∀ d n, s.size - n = d → n ≤ s.size → (toks s n).length ≤ d + 1 := by
  intro d
  induction d using Nat.strongRecOn with
  | ind d ih =>
    intro n hd hn
    by_cases hk : (nextTk s n).1.k = 0
    · rw [toks_end s n (by omega) hk]; simp
    · have ha := nextTk_adv s n hk
      rw [toks_go s n (by omega) hk]
      have := ih (s.size - (nextTk s n).2) (by omega) (nextTk s n).2 rfl ha.2
      simp only [List.length_cons]
      omega
theorem stand_l1 (s : ByteArray) (hs : s.size ≤ 2147483647) (hok : ∀ c ∈ L s, okB c = true) (xs : List S56) (hxs : xs.length ≤ 4294967296) : ∀ d n (pre : List S56) (x4 : ByteArray), s.size - n = d → n ≤ s.size → xs = pre ++ (toks s n).map toS → L x4 = fb ((L s).drop n) →
    Ev (fun k => laws_FnTokensStand.l1 k x4 xs xs xs.length (pre.length : Int)) true := by
  intro d
  induction d using Nat.strongRecOn with
  | ind d ih =>
    intro n pre x4 hd hn hx h4
    by_cases he : n = s.size
    · subst he
      rw [toks_at_end] at hx
      refine tok_last xs pre x4 hxs (by simpa using hx) ?_
      rw [h4, List.drop_of_length_le (by rw [← size_L]; exact Nat.le_refl _)]
      rfl
    · have hl : n < (L s).length := by rw [← size_L]; omega
      obtain ⟨c, hc⟩ : ∃ c, c = (L s)[n] := ⟨_, rfl⟩
      have hch : chAt s n = (c.toNat : Int) := by rw [hc]; exact ch_at s n hl
      have hdrop : (L s).drop n = c :: (L s).drop (n + 1) := by rw [hc]; exact List.drop_eq_getElem_cons hl
      have hcok : okB c = true := hok c (by rw [hc]; exact List.getElem_mem hl)
      by_cases h32 : c = 32
      · have hws : isWs (chAt s n) = true := by rw [hch, h32]; exact ws32
        rw [toks_ws hws] at hx
        refine ih (s.size - (n + 1)) (by omega) (n + 1) pre x4 rfl (by omega) hx ?_
        rw [h4, hdrop, h32]
        rfl
      · obtain ⟨hws, hk⟩ := cls c hcok h32
        rw [← hch] at hws hk
        have main : ∀ (T : Tk) (n' : Nat), nextTk s n = (T, n') → T.k ≠ 0 → L T.t ≠ [] → (1 < T.t.size → T.a < T.z) → (L s).drop n = L T.t ++ (L s).drop n' → (∀ b ∈ L T.t, b ≠ 32) → Ev (fun k => laws_FnTokensStand.l1 k x4 xs xs xs.length (pre.length : Int)) true := by
          intro T n' hT hTk hTt hTz hTd hTb
          have ha := nextTk_adv s n (by rw [hT]; exact hTk)
          rw [hT] at ha
          have hgo := toks_go s n (by omega) (by rw [hT]; exact hTk)
          rw [hT] at hgo
          rw [hgo, List.map_cons] at hx
          refine tok_step xs pre _ T x4 (fb ((L s).drop n')) hxs hx (by simp [toks_ne s n' (by have := ha.2; omega)]) hTk hTt (by rw [h4, hTd, fb_all _ _ hTb]) hTz ?_
          refine ih (s.size - n') (by have := ha.1; omega) n' (pre ++ [toS T]) _ rfl ha.2 (by rw [hx]; simp) ?_
          simp [L]
        rcases hk with ⟨h8, hl' | ⟨hl', hd'⟩⟩ | ⟨h0, h8, henc⟩
        · have hnx := next_name hws h8 hl'
          have hseg := skip_seg isLD0 s n hn
          have hgt := skipTo_gt (P := isLD) isLD0 (s := s) (n := n) (by simp [isLD, hl'])
          have hle := skipTo_le (P := isLD) isLD0 (s := s) (n := n) hn
          have hsz : (s.extract n (skipTo isLD s n)).size = skipTo isLD s n - n := by simp; omega
          refine main _ _ hnx (by rw [tokAt_k]; exact lookT_ne _) (by rw [tokAt_t]; intro e; have := congrArg List.length e; rw [← size_L, hsz] at this; simp at this; omega) (fun h => by rw [tokAt_t] at h; exact tokAt_az _ _ _ h (by rw [hsz]; omega)) (by rw [tokAt_t]; exact hseg.1) (by rw [tokAt_t]; exact fun b hb => ld_ne b (hseg.2 b hb))
        · have hnx := next_num hws h8 hl' hd'
          have hseg := skip_seg isDg0 s n hn
          have hgt := skipTo_gt (P := isDg) isDg0 (s := s) (n := n) hd'
          have hle := skipTo_le (P := isDg) isDg0 (s := s) (n := n) hn
          have hsz : (s.extract n (skipTo isDg s n)).size = skipTo isDg s n - n := by simp; omega
          refine main _ _ hnx (by rw [tokAt_k]; decide) (by rw [tokAt_t]; intro e; have := congrArg List.length e; rw [← size_L, hsz] at this; simp at this; omega) (fun h => by rw [tokAt_t] at h; exact tokAt_az _ _ _ h (by rw [hsz]; omega)) (by rw [tokAt_t]; exact hseg.1) (by rw [tokAt_t]; exact fun b hb => dg_ne b (hseg.2 b hb))
        · have hnx := next_sign hws h0 h8
          rw [hch] at henc
          have hsz : (Utf8.encode (c.toNat : Int)).size = 1 := by rw [size_L, henc]; rfl
          rw [hch] at hnx h0
          refine main _ _ hnx (by rw [tokAt_k]; exact h0) (by rw [tokAt_t, henc]; simp) (fun h => by rw [tokAt_t, hsz] at h; omega) (by rw [tokAt_t, henc, hdrop]; rfl) (by rw [tokAt_t, henc]; intro b hb; rw [List.mem_singleton.1 hb]; exact h32)
theorem stand_l0 (s : ByteArray) (hs : s.size ≤ 2147483647) : ∀ (suf pre : List UInt8) (x4 : ByteArray), L s = pre ++ suf → (∀ c ∈ pre, okB c = true) → L x4 = fb pre → Ev (fun k => laws_FnTokensStand.l0 k s x4 s.size (pre.length : Int)) true
  | [], pre, x4, h, hok, h4 => by
    have hall : ∀ c ∈ L s, okB c = true := by rw [h]; simpa using hok
    have hlen := toks_len s s.size 0 rfl (by omega)
    have hl1 := stand_l1 s hs hall ((toks s 0).map toS) (by rw [List.length_map]; omega) s.size 0 [] x4 rfl (by omega) rfl (by rw [h4, List.drop_zero, h]; simp)
    refine Ev.step (fun k => ?_) hl1
    simp only [laws_FnTokensStand.l0]
    rw [if_neg (sz_not h), tokens_eq s hs, Option.bind_some]
    rfl
  | c :: t, pre, x4, h, hok, h4 => by
    have hsz : s.size = pre.length + (t.length + 1) := by rw [size_L, h]; simp
    have hw : wrap64 ((pre.length : Int) + 1) = ((pre ++ [c]).length : Int) := wrap_mid h (by omega)
    have hex : s.extract (pre.length : Int).toNat ((pre ++ [c]).length : Int).toNat = ⟨#[c]⟩ := by
      refine ext ?_
      rw [L_extract, Int.toNat_natCast, Int.toNat_natCast, h]
      simp
    have h4s : x4.size ≤ pre.length := by rw [size_L, h4]; exact List.length_filter_le _ _
    have hsum : x4.size + (min ((pre ++ [c]).length : Int).toNat s.size - (pre.length : Int).toNat) ≤ 9223372036854775807 := by simp; omega
    have base : ∀ k, laws_FnTokensStand.l0 (k + 1) s x4 s.size (pre.length : Int) = if (⟨#[c]⟩ : ByteArray).toList = [32] then laws_FnTokensStand.l0 k s x4 s.size ((pre ++ [c]).length : Int) else ((laws_word.f k ⟨#[c]⟩).bind fun t161 => if t161 = true then laws_FnTokensStand.l0 k s (x4 ++ ⟨#[c]⟩) s.size ((pre ++ [c]).length : Int) else ((laws_holds.f k ⟨#[123, 125, 40, 41, 58, 44]⟩ (c.toNat : Int)).bind fun t162 => if t162 = true then laws_FnTokensStand.l0 k s (x4 ++ ⟨#[c]⟩) s.size ((pre ++ [c]).length : Int) else some true)) := fun k => by
      simp only [laws_FnTokensStand.l0]
      rw [if_pos (sz_mid h), if_pos (by omega), hw, if_pos (by simp; omega), if_pos (by simp; omega), hex]
      simp only [if_pos hsum, if_pos (sz_mid h), bt_mid h]
    have wd : Ev (fun k => laws_word.f k ⟨#[c]⟩) (isWordB c) := Ev.same (word ⟨#[c]⟩ (by show (1 : Nat) ≤ _; omega)) (by simp [L])
    have hd : Ev (fun k => laws_holds.f k ⟨#[123, 125, 40, 41, 58, 44]⟩ (c.toNat : Int)) (signB c) := holds ⟨#[123, 125, 40, 41, 58, 44]⟩ (c.toNat : Int) (by decide)
    have hokc : okB c = true → ∀ b ∈ pre ++ [c], okB b = true := fun hc b hb => by
      rw [List.mem_append] at hb
      rcases hb with hb | hb
      · exact hok b hb
      · rw [List.mem_singleton.1 hb]; exact hc
    by_cases h32 : c = 32
    · have ih := stand_l0 s hs t (pre ++ [c]) x4 (mid_next h) (hokc (by simp [okB, h32])) (by rw [h4, h32]; simp [fb])
      refine Ev.step (fun k => ?_) ih
      rw [base k, if_pos (by rw [tl, h32])]
    · have ih := fun hc : okB c = true => stand_l0 s hs t (pre ++ [c]) (x4 ++ ⟨#[c]⟩) (mid_next h) (hokc hc) (by rw [L_append, h4]; simp [fb, h32, L])
      refine Ev.step base ?_
      refine Ev.neg (by rw [tl]; simp [L, h32]) (Ev.call wd ?_)
      by_cases hwd : isWordB c = true
      · exact Ev.pos hwd (ih (by simp [okB, hwd]))
      · refine Ev.neg hwd (Ev.call hd ?_)
        by_cases hsg : signB c = true
        · exact Ev.pos hsg (ih (by simp [okB, hsg]))
        · exact Ev.neg hsg (Ev.now _)
theorem four (q : List Tk) (p1 p2 p3 p4 : Int × List UInt8) (h : q.map (fun x => (x.k, L x.t)) = [p1, p2, p3, p4]) : ∃ a b c d : Tk, q = [a, b, c, d] ∧ (a.k, L a.t) = p1 ∧ (b.k, L b.t) = p2 ∧ (c.k, L c.t) = p3 ∧ (d.k, L d.t) = p4 := by
  cases q with
  | nil => simp at h
  | cons a q => cases q with
    | nil => simp at h
    | cons b q => cases q with
      | nil => simp at h
      | cons c q => cases q with
        | nil => simp at h
        | cons d q => cases q with
          | cons e q => simp at h
          | nil =>
            simp only [List.map_cons, List.map_nil, List.cons.injEq, and_true] at h
            exact ⟨a, b, c, d, rfl, h.1, h.2.1, h.2.2.1, h.2.2.2⟩
theorem id_shape : ∃ a b c d, (toks ⟨#[123, 105, 100, 125]⟩ 0).map toS = [a, b, c, d] ∧ a.f0 = 2 ∧ b.f0 = 8 ∧ L b.f1 = [105, 100] ∧ c.f0 = 3 ∧ d.f0 = 0 := by
  obtain ⟨a, b, c, d, hq, h1, h2, h3, h4⟩ := four _ _ _ _ _ id_toks
  rw [hq]
  exact ⟨toS a, toS b, toS c, toS d, rfl, congrArg Prod.fst h1, congrArg Prod.fst h2, congrArg Prod.snd h2, congrArg Prod.fst h3, congrArg Prod.fst h4⟩
theorem FnTokensStand : laws_FnTokensStand.Pure := by
  intro s hs
  refine Ev.rounds ?_
  unfold laws_FnTokensStand.f
  by_cases h : (s.size : Int) > 2147483647
  · exact Ev.pos h (Ev.now _)
  refine Ev.neg h (Ev.call (Ev.some (tokens_eq _ (by decide))) ?_)
  obtain ⟨a, b, c, d, he, ha, hb, hb2, hc, hd⟩ := id_shape
  rw [he]
  refine Ev.pos rfl (Ev.pos (by simp) (Ev.pos ha (Ev.pos (by simp) (Ev.pos hb (Ev.pos (by rw [tl]; exact hb2) (Ev.pos (by simp) (Ev.pos hc (Ev.pos (by simp) ?_))))))))
  have hd' : (((rd_T56 [a, b, c, d] 3).f0) != 0) = false := by show (d.f0 != 0) = false; rw [hd]; rfl
  rw [hd']
  refine Ev.step (fun k => by simp only [laws_FnTokensStand.j0]; rw [if_neg (by decide)]) (Ev.call (short1 s) ?_)
  by_cases h2 : s.size ≤ 2000
  · rw [decide_eq_true h2]
    exact Ev.pos rfl (stand_l0 s (by omega) (L s) [] ⟨#[]⟩ rfl (by simp) rfl)
  · rw [decide_eq_false h2]
    exact Ev.neg (by simp) (Ev.now _)
end Go.Proofs.Ytipmmjbjgbfgjaa.Pure
