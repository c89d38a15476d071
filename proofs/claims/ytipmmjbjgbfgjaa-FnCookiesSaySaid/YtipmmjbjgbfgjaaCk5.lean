/- A request's cookies are read: parseRequestCookies. -/
import Derived.Test.YtipmmjbjgbfgjaaCk3
import Derived.Test.YtipmmjbjgbfgjaaAr4g
namespace Go.Proofs.Ytipmmjbjgbfgjaa.Q
open Go.RowKit Go.Proofs.YtipmmjbjgbfgjaaW.PrintWords Go.Proofs.YtipmmjbjgbfgjaaW.PrintLast Go.Proofs.YtipmmjbjgbfgjaaW.PrintMore
open Go.Proofs.Ytipmmjbjgbfgjaa.SpA (toI toI_length toI_append dcK dcV)
set_option linter.unusedVariables false
set_option linter.unusedSimpArgs false
def entC (q : List UInt8) : List En := if keyC (fstC q) = [] ∧ valC (fstC q) = [] then [] else [(keyC (fstC q), valC (fstC q), false)]
theorem rstC_lt (q : List UInt8) (h : q ≠ []) : (rstC q).length < q.length := by
  have hl := List.length_pos_iff.2 h
  have h1 : (q.dropWhile (· != 59)).length ≤ q.length := (List.dropWhile_sublist _).length_le
  unfold rstC
  rw [List.length_drop]
  omega
def cksF : Nat → List UInt8 → List En
  | 0, _ => []
  | f + 1, q => if q = [] then [] else entC q ++ cksF f (rstC q)
/-- The arguments of a query. -/
def cksL (q : List UInt8) : List En := cksF q.length q
theorem cksF_more : ∀ (f : Nat) (q : List UInt8), q.length ≤ f → cksF f q = cksL q := by
  have key : ∀ (f : Nat) (q : List UInt8), q.length ≤ f → ∀ f', q.length ≤ f' → cksF f q = cksF f' q := by
    intro f
    induction f with
    | zero =>
      intro q hq f' _
      have : q = [] := List.length_eq_zero_iff.1 (by omega)
      subst this
      cases f' <;> simp [cksF]
    | succ f ih =>
      intro q hq f' hf'
      by_cases h : q = []
      · subst h; cases f' <;> simp [cksF]
      · have hl := List.length_pos_iff.2 h
        have hr := rstC_lt q h
        obtain ⟨f'', rfl⟩ : ∃ f'', f' = f'' + 1 := ⟨f' - 1, by omega⟩
        rw [cksF, cksF, if_neg h, if_neg h, ih (rstC q) (by omega) f'' (by omega)]
  exact fun f q h => key f q h q.length (Nat.le_refl _)
theorem cksL_nil : cksL [] = [] := rfl
theorem cksL_step (q : List UInt8) (h : q ≠ []) : cksL q = entC q ++ cksL (rstC q) := by
  have hl := List.length_pos_iff.2 h
  have hr := rstC_lt q h
  rw [← cksF_more (q.length - 1) (rstC q) (by omega)]
  unfold cksL
  obtain ⟨n, hn⟩ : ∃ n, q.length = n + 1 := ⟨q.length - 1, by omega⟩
  rw [hn, cksF, if_neg h]
  rfl
set_option maxHeartbeats 4000000 in
set_option maxRecDepth 100000 in
theorem cnext_end (w : World) (gs gt : Nat) (L : List UInt8) (sv : Value) (pk : Value) (hob : OB w gs 99 sv) (hsq : SQ w gt L [] sv) :
    Calls Try.prog 105 #[.pointer (some ⟨gs, 0, none⟩), pk] w fun e w' => e = .returned (.bool false) ∧ w' = w := by
  obtain ⟨p, off, c, hLq, hsv, hqc, hoff, hbr⟩ := hsq
  have fs := hob.c0
  rw [hsv] at fs
  have fs : w.cell? ⟨gs, 0, none⟩ = some (.slice (some ⟨gt, off, none⟩) 0 c) := fs
  clear hob hLq hsv hqc hoff hbr
  go_enter Try.func105, Try.ntmps105
  go_wp2
  go_ret
  exact ⟨rfl, rfl⟩
/-- Where the reading of cookies stands. -/
structure PC (w0 wr : World) (gs gt : Nat) (L : List UInt8) (g C b : Nat) (es : List AE) (cur : AE) (fin : List En) (q : List UInt8) (sv : Value) : Prop where
  hC : es.length + 1 ≤ C
  hM : C ≤ maxLen
  ab : AB wr g (es ++ [cur] ++ List.replicate (C - (es.length + 1)) aeZ)
  cb : cur.b = false
  fi : FIN wr b es fin
  cr : CUR wr b cur.k cur.v [] []
  ob : OB wr gs 99 sv
  sq : SQ wr gt L q sv
  hgt : gt < b
  hb : b ≤ wr.heap.size
  hl : es.length + q.length ≤ L.length
  all : fin ++ cksL q = cksL L
  on : OnlS (fun _ => False) w0 wr
  g0 : w0.heap.size ≤ g
  b0 : w0.heap.size ≤ b
  gs0 : w0.heap.size ≤ gs
/-- What stands behind one more cookie that was read. -/
theorem PC.next {w0 wr w1 : World} {gs gt g C b : Nat} {L q : List UInt8} {sv : Value} {es : List AE} {cur : AE} {fin : List En} (h : PC w0 wr gs gt L g C b es cur fin q sv) (hn : CkPost wr g gs gt es.length b (es ++ [cur] ++ List.replicate (C - (es.length + 1)) aeZ) L q (.returned (.bool true)) w1) :
    ∃ k v sv', AB w1 g (es ++ [⟨k, v, false⟩] ++ List.replicate (C - (es.length + 1)) aeZ) ∧ FIN w1 b es fin ∧ CUR w1 b k v (keyC (fstC q)) (valC (fstC q)) ∧ OB w1 gs 99 sv' ∧ SQ w1 gt L (rstC q) sv' ∧ OnlS (fun _ => False) w0 w1 ∧ wr.heap.size ≤ w1.heap.size := by
  obtain ⟨_, ho, k, v, sv', ha, hc, hob, hsq⟩ := hn
  rw [set_mid] at ha
  refine ⟨k, v, sv', ha, ?_, hc, hob, hsq, ?_, ho.size⟩
  · refine FIN.move (fun j cells hj hc' => ho.block j (Array.getElem?_eq_some_iff.1 hc').1 ?_) h.fi
    rintro (e | e | e)
    · subst e; obtain ⟨C', hC', _⟩ := h.ab; rw [hC'] at hc'; cases hc'
    · subst e; have := h.ob; unfold OB at this; rw [this] at hc'; cases hc'
    · omega
  · refine h.on.trans' ho fun j hj hs => ?_
    have := h.g0
    have := h.b0
    have := h.gs0
    rcases hs with e | e | e <;> omega
/-- .. and it is not kept. -/
theorem PC.skip {w0 wr w1 : World} {gs gt g C b : Nat} {L q : List UInt8} {sv : Value} {es : List AE} {cur : AE} {fin : List En} (h : PC w0 wr gs gt L g C b es cur fin q sv) (hq : q ≠ []) (he : keyC (fstC q) = [] ∧ valC (fstC q) = []) {k v sv' : Value}
    (h2 : AB w1 g (es ++ [⟨k, v, false⟩] ++ List.replicate (C - (es.length + 1)) aeZ)) (h3 : FIN w1 b es fin) (h4 : CUR w1 b k v (keyC (fstC q)) (valC (fstC q))) (h5 : OB w1 gs 99 sv') (h6 : SQ w1 gt L (rstC q) sv') (h7 : OnlS (fun _ => False) w0 w1) (h8 : wr.heap.size ≤ w1.heap.size) :
    PC w0 w1 gs gt L g C b es ⟨k, v, false⟩ fin (rstC q) sv' := by
  have hr := rstC_lt q hq
  refine ⟨h.hC, h.hM, h2, rfl, h3, ?_, h5, h6, h.hgt, Nat.le_trans h.hb h8, by have := h.hl; omega, ?_, h7, h.g0, h.b0, h.gs0⟩
  · rw [he.1, he.2] at h4; exact h4
  · rw [← h.all, cksL_step q hq, entC, if_pos he]; rfl
/-- .. and it is kept: a place for one more is made. -/
theorem PC.keep {w0 wr w1 w2 : World} {gs gt g C b g' C' g0 : Nat} {L q : List UInt8} {sv : Value} {es : List AE} {cur : AE} {fin : List En} (h : PC w0 wr gs gt L g C b es cur fin q sv) (hq : q ≠ []) (he : ¬ (keyC (fstC q) = [] ∧ valC (fstC q) = [])) {k v sv' : Value}
    (h2 : AB w1 g (es ++ [⟨k, v, false⟩] ++ List.replicate (C - (es.length + 1)) aeZ)) (h3 : FIN w1 b es fin) (h4 : CUR w1 b k v (keyC (fstC q)) (valC (fstC q))) (h5 : OB w1 gs 99 sv') (h6 : SQ w1 gt L (rstC q) sv') (h7 : OnlS (fun _ => False) w0 w1) (h8 : wr.heap.size ≤ w1.heap.size)
    (a1 : g = g' ∨ w1.heap.size ≤ g') (a2 : w1.heap.size ≤ g0) (a3 : es.length + 1 + 1 ≤ C') (a4 : C' ≤ maxLen) (a5 : w2.heap[g0]? = some (.cells #[] 5 (0, 0))) (a6 : AB w2 g' (es ++ [⟨k, v, false⟩] ++ [slot g0] ++ List.replicate (C' - (es.length + 1 + 1)) aeZ)) (a7 : OnlS (fun j => j = g) w1 w2) :
    PC w0 w2 gs gt L g' C' w1.heap.size (es ++ [⟨k, v, false⟩]) (slot g0) (fin ++ entC q) (rstC q) sv' := by
  have hr := rstC_lt q hq
  have hlen : (es ++ [(⟨k, v, false⟩ : AE)]).length = es.length + 1 := by simp
  have hgs2 : gs ≠ g := h2.ne_OB h5
  have hO2 : OB w2 gs 99 sv' := h5.move (a7.block gs h5.lt hgs2)
  obtain ⟨p, off, c, s1, s2, s3, s4, s5⟩ := h6
  have hB2 : BR w2 gt 5 L := s5.heap (a7.block gt s5.lt (h2.ne_BR s5))
  have m5 : ∀ j cells, j < w1.heap.size → w1.heap[j]? = some (.cells cells 5 (0, 0)) → w2.heap[j]? = w1.heap[j]? := fun j cells hj hc =>
    a7.block j hj fun e => by subst e; obtain ⟨C2, hC2, _⟩ := h2; rw [hC2] at hc; cases hc
  have hd := CUR.done h4
  refine ⟨by rw [hlen]; exact a3, a4, ?_, rfl, ?_, CUR.slot a5 a2, hO2, ⟨p, off, c, s1, s2, s3, s4, hB2⟩, by have := h.hgt; have := h.hb; omega, a7.size, by rw [hlen]; have := h.hl; omega, ?_, ?_, ?_, by have := h7.size; omega, h.gs0⟩
  · rw [hlen]; exact a6
  · have hF := FIN.move m5 (FIN.more (Nat.le_trans h.hb h8) h3)
    rw [entC, if_neg he]
    exact FIN.snoc (R_bd hd.1 m5) (R_bd hd.2 m5) rfl hF
  · rw [List.append_assoc, ← cksL_step q hq]; exact h.all
  · refine h7.trans' a7 fun j hj e => ?_
    have := h.g0
    omega
  · rcases a1 with e | e
    · rw [← e]; exact h.g0
    · have := h7.size; omega
theorem PC.less {w0 wr w1 : World} {gs gt g C b g' C' b' : Nat} {L q : List UInt8} {sv sv' : Value} {es es' : List AE} {cur cur' : AE} {fin fin' : List En} (h : PC w0 wr gs gt L g C b es cur fin q sv) (h' : PC w0 w1 gs gt L g' C' b' es' cur' fin' (rstC q) sv') (hq : q ≠ []) : scanW w1 gs < scanW wr gs := by
  rw [h.sq.len h.ob, h'.sq.len h'.ob]
  exact rstC_lt q hq
theorem genW {P : Program} {a : Act} {c : Code} {Qc : Exit → Act → World → Prop} {W0 : World} (F : World → Prop) (h0 : F W0) (h : ∀ W, F W → Code.wp P c Qc a W) : Code.wp P c Qc a W0 := h W0 h0
theorem toI_nil_of {l : List UInt8} {n : Nat} (h : n = (toI l).length) : n = l.length := by rw [h, toI_length]
/-- What is told of cookies that were read. -/
def CksPost (w : World) (L : List UInt8) (e : Ending) (w' : World) : Prop :=
  ∃ g C b es r, e = .returned (.slice (some ⟨g, 0, none⟩) es.length C) ∧ AB w' g (es ++ r) ∧ FIN w' b es (cksL L) ∧ es.length ≤ L.length ∧ OnlS (fun _ => False) w w'
theorem PC.cells {w : World} {g : Nat} {es r : List AE} {k v : Value} {x : Bool} (h : AB w g (es ++ [⟨k, v, x⟩] ++ r)) : w.cell? ⟨g, es.length * 3, none⟩ = some k ∧ w.cell? ⟨g, es.length * 3 + 1, none⟩ = some v := by
  rw [← set_mid es ⟨k, v, x⟩ ⟨k, v, x⟩ r] at h
  have := h.at_ (by simp)
  exact ⟨this.1, this.2.1⟩
theorem cparse_end {w0 wr : World} {gs gt g C b : Nat} {L : List UInt8} {sv : Value} {es : List AE} {cur : AE} {fin : List En} (h : PC w0 wr gs gt L g C b es cur fin [] sv) : CksPost w0 L (.returned (.slice (some ⟨g, 0, none⟩) es.length C)) wr := by
  have hall := h.all
  rw [cksL_nil, List.append_nil] at hall
  refine ⟨g, C, b, es, [cur] ++ List.replicate (C - (es.length + 1)) aeZ, rfl, ?_, ?_, by have := h.hl; omega, h.on⟩
  · rw [← List.append_assoc]; exact h.ab
  · rw [← hall]; exact h.fi
set_option maxHeartbeats 16000000 in
set_option maxRecDepth 100000 in
theorem cparse_calls (w : World) (gt c : Nat) (L : List UInt8) (hbr : BR w gt 5 L) (hc : L.length ≤ c) (hL : L.length ≤ 2147483647) :
    Calls Try.prog 88 #[.slice none 0 0, .slice (some ⟨gt, 0, none⟩) L.length c] w (CksPost w L) := by
  have HBR1 := Aside0.mk hbr
  have HC := Aside0.mk hc
  have HL := Aside0.mk hL
  clear hbr hc hL
  go_enter Try.func88, Try.ntmps88
  go_upto_region 3 with (fail)
  obtain ⟨gs, hgs⟩ : ∃ gs, gs = w.heap.size := ⟨_, rfl⟩
  rw [← hgs]
  refine genW (fun W => OB W gs 99 (.slice (some ⟨gt, 0, none⟩) L.length c) ∧ BR W gt 5 L ∧ OnlS (fun _ => False) w W ∧ gs < W.heap.size ∧ w.heap.size ≤ gs) ⟨?_, ?_, ?_, ?_, ?_⟩ ?_
  · have hz := heap_alloc_new w (.cells #[.slice (some ⟨gt, 0, none⟩) L.length c] 99)
    rw [← hgs] at hz
    exact hz
  · refine HBR1.out.heap ?_
    have := HBR1.out.lt
    rw [Below.heap_alloc _ _ _ (by omega)]
  · exact OnlS.alloc (OnlS.refl _ _) _
  · simp [hgs]
  · rw [hgs]; exact Nat.le_refl _
  clear HBR1 hgs
  intro W hW
  obtain ⟨hob, hbr, hon, hgsW, hgsw⟩ := hW
  have HO := Aside0.mk hob
  have HR := Aside0.mk hbr
  have HN := Aside0.mk hon
  have HGS := Aside0.mk hgsW
  have HGW := Aside0.mk hgsw
  clear hob hbr hon hgsW hgsw
  go_wp2_with (first | ((with_reducible refine gate_callee (f := 104) rfl ?_); refine goesL_ (some 11) rfl rfl Try.func104 (by kernel_rfl) rfl #[.slice none 0 0] rfl (by (try simp only [List.map_toArray, List.map_cons, List.map_nil]); first | done | rfl) ?_; refine (alloc_calls W (.slice none 0 0) [] (.inl ⟨rfl, rfl⟩) (by decide)).mono ?_; rintro e w2 ⟨g, C, g0, rfl, a1, a2, a3, a4, a5, a6, a7⟩; refine ⟨_, rfl, ?_⟩; have A7 := Aside0.mk a7; have A1 := Aside0.mk a1; have A2 := Aside0.mk a2; have A3 := Aside0.mk a3; have A4 := Aside0.mk a4; have A5 := Aside0.mk a5; have A6 := Aside0.mk a6; clear a7 a1 a2 a3 a4 a5 a6))
  have HP0 : Aside0 (PC w w2 gs gt L g C W.heap.size [] (slot g0) [] L (.slice (some ⟨gt, 0, none⟩) L.length c)) := by
    have hb7 : ∀ j, j < W.heap.size → w2.heap[j]? = W.heap[j]? := fun j hj => A7.out.block j hj (by intro e; cases e)
    have hg2 : W.heap.size ≤ g := A1.out.resolve_left (by intro e; cases e)
    have hwW := HN.out.size
    exact ⟨⟨A3.out, A4.out, A6.out, rfl, trivial, CUR.slot A5.out A2.out, HO.out.move (hb7 gs HGS.out), ⟨[], 0, c, rfl, rfl, HC.out, .inr rfl, HR.out.heap (hb7 gt HR.out.lt)⟩, HR.out.lt, A7.out.size, by simp, rfl, HN.out.trans' A7.out fun j _ e => (by cases e), by omega, hwW, HGW.out⟩⟩
  clear HO HR HN HGS HGW A1 A2 A3 A4 A5 A6 A7
  go_loopw [0, 6] (fun v0 v6 wr => ∃ (g C b : Nat) (es : List AE) (cur : AE) (fin : List En) (q : List UInt8) (sv : Value), v0 = .slice (some ⟨g, 0, none⟩) (es.length + 1) C ∧ v6 = .pointer (some ⟨g, es.length * 3, none⟩) ∧ Aside0 (PC w wr gs gt L g C b es cur fin q sv)) (fun _ _ wr => scanW wr gs)
  case atStart => exact ⟨g, C, W.heap.size, [], slot g0, [], L, _, rfl, rfl, HP0⟩
  case round =>
    clear HP0
    obtain ⟨g, C, b, es, cur, fin, q, sv, rfl, rfl, HP⟩ := hrel
    by_cases hq : q = []
    · subst hq
      go_wp2_with (first | ((with_reducible refine gate_callee (f := 105) rfl ?_); refine goesL_ (some 15) rfl rfl Try.func105 (by kernel_rfl) rfl #[.pointer (some ⟨gs, 0, none⟩), .pointer (some ⟨g, es.length * 3, none⟩)] rfl (by (try simp only [List.map_toArray, List.map_cons, List.map_nil]); first | done | rfl) ?_; refine (cnext_end wr gs gt L sv _ HP.out.ob HP.out.sq).mono ?_; rintro e w5 ⟨rfl, rfl⟩; refine ⟨_, rfl, ?_⟩) | ((with_reducible refine gate_callee (f := 106) rfl ?_); refine goesL_ (some 36) rfl rfl Try.func106 (by kernel_rfl) rfl #[.slice (some ⟨g, 0, none⟩) (es.length + 1) C] rfl (by (try simp only [List.map_toArray, List.map_cons, List.map_nil]); first | done | rfl) ?_; refine (release_calls _ (some ⟨g, 0, none⟩) es.length C (by have := HP.out.hl; have := HL.out; omega) HP.out.hC).mono ?_; rintro e w5 ⟨rfl, rfl⟩; refine ⟨_, rfl, ?_⟩))
      go_ret
      exact cparse_end HP.out
    · have HQ := Aside0.mk hq
      clear hq
      go_upto_region 6 with (first | ((with_reducible refine gate_callee (f := 105) rfl ?_); refine goesL_ (some 15) rfl rfl Try.func105 (by kernel_rfl) rfl #[.pointer (some ⟨gs, 0, none⟩), .pointer (some ⟨g, es.length * 3, none⟩)] rfl (by (try simp only [List.map_toArray, List.map_cons, List.map_nil]); first | done | rfl) ?_; refine (cnext_calls wr g gs gt es.length b (es ++ [cur] ++ List.replicate (C - (es.length + 1)) aeZ) L q sv cur.k cur.v (by rw [set_mid, ← HP.out.cb]; exact HP.out.ab) (by simp) HP.out.cr HP.out.ob HP.out.sq HQ.out HP.out.hgt HP.out.hb HL.out).mono ?_; rintro e w5 hpost; obtain rfl := hpost.1; refine ⟨_, rfl, ?_⟩; obtain ⟨k, v, sv', h2, h3, h4, h5, h6, h7, h8⟩ := HP.out.next hpost; obtain ⟨D, hk, hv⟩ := id h4; obtain ⟨Ak, ck, hkv⟩ := Kd.R_slice hk; obtain ⟨Av, cv, hvv⟩ := Kd.R_slice hv; obtain ⟨nk, hnk⟩ : ∃ n, n = (toI (keyC (fstC q))).length := ⟨_, rfl⟩; obtain ⟨nv, hnv⟩ : ∃ n, n = (toI (valC (fstC q))).length := ⟨_, rfl⟩; rw [← hnk] at hkv; rw [← hnv] at hvv; subst hkv hvv; obtain ⟨fk5, fv5⟩ : w5.cell? ⟨g, es.length * 3, none⟩ = some (.slice Ak nk ck) ∧ w5.cell? ⟨g, es.length * 3 + 1, none⟩ = some (.slice Av nv cv) := PC.cells h2; have hnk2 : nk = (keyC (fstC q)).length := toI_nil_of hnk; have hnv2 : nv = (valC (fstC q)).length := toI_nil_of hnv; have H2 := Aside0.mk h2; have H3 := Aside0.mk h3; have H4 := Aside0.mk h4; have H5 := Aside0.mk h5; have H6 := Aside0.mk h6; have H7 := Aside0.mk h7; have H8 := Aside0.mk h8; clear h2 h3 h4 h5 h6 h7 h8 hk hv hnk hnv hpost))
      by_cases hk0 : keyC (fstC q) = []
      · obtain rfl : nk = 0 := by rw [hnk2, hk0]; rfl
        by_cases hv0 : valC (fstC q) = []
        · obtain rfl : nv = 0 := by rw [hnv2, hv0]; rfl
          have HK := Aside0.mk (HP.out.skip HQ.out ⟨hk0, hv0⟩ H2.out H3.out H4.out H5.out H6.out H7.out H8.out)
          clear hk0 hv0 hnk2 hnv2
          go_wp2_with (fail)
          go_roundw
          case measure => exact PC.less HP.out HK.out HQ.out
          case rel => exact ⟨g, C, b, es, _, fin, rstC q, _, rfl, rfl, HK⟩
        · have hvl := List.length_pos_iff.2 hv0
          obtain ⟨mv, rfl⟩ : ∃ m, nv = m + 1 := ⟨nv - 1, by omega⟩
          have HNE : Aside0 (¬ (keyC (fstC q) = [] ∧ valC (fstC q) = [])) := ⟨fun h => hv0 h.2⟩
          clear hk0 hv0 hvl hnk2 hnv2
          go_wp2_with (first | ((with_reducible refine gate_callee (f := 104) rfl ?_); refine goesL_ (some 32) rfl rfl Try.func104 (by kernel_rfl) rfl #[.slice (some ⟨g, 0, none⟩) (es.length + 1) C] rfl (by (try simp only [List.map_toArray, List.map_cons, List.map_nil]); first | done | rfl) ?_; refine (alloc_calls w5 (.slice (some ⟨g, 0, none⟩) (es.length + 1) C) (es ++ [⟨.slice Ak 0 ck, .slice Av (mv + 1) cv, false⟩]) (.inr ⟨g, C, by simp, by simpa using HP.out.hC, HP.out.hM, by simpa using H2.out⟩) (by have := HP.out.hl; have := HL.out; simp; omega)).mono ?_; rintro e w6 ⟨g', C', g0', rfl, a1, a2, a3, a4, a5, a6, a7⟩; simp only [List.length_append, List.length_cons, List.length_nil, Nat.zero_add] at a3 a6; refine ⟨_, rfl, ?_⟩; have a1 : g = g' ∨ w5.heap.size ≤ g' := a1.imp (fun h => by simpa [Value.ownBlock] using h) id; have a7 : OnlS (fun j => j = g) w5 w6 := a7.mono (fun j _ h => by simpa [Value.ownBlock, eq_comm] using h); have HK := Aside0.mk (HP.out.keep HQ.out HNE.out H2.out H3.out H4.out H5.out H6.out H7.out H8.out a1 a2 a3 a4 a5 a6 a7); clear a1 a2 a3 a4 a5 a6 a7))
          go_roundw
          case measure => exact PC.less HP.out HK.out HQ.out
          case rel => exact ⟨g', C', w5.heap.size, _, _, _, rstC q, _, by simp, by simp, HK⟩
      · have hkl := List.length_pos_iff.2 hk0
        obtain ⟨mk, rfl⟩ : ∃ m, nk = m + 1 := ⟨nk - 1, by omega⟩
        have HNE : Aside0 (¬ (keyC (fstC q) = [] ∧ valC (fstC q) = [])) := ⟨fun h => hk0 h.1⟩
        clear hk0 hkl hnk2 hnv2
        go_wp2_with (first | ((with_reducible refine gate_callee (f := 104) rfl ?_); refine goesL_ (some 32) rfl rfl Try.func104 (by kernel_rfl) rfl #[.slice (some ⟨g, 0, none⟩) (es.length + 1) C] rfl (by (try simp only [List.map_toArray, List.map_cons, List.map_nil]); first | done | rfl) ?_; refine (alloc_calls w5 (.slice (some ⟨g, 0, none⟩) (es.length + 1) C) (es ++ [⟨.slice Ak (mk + 1) ck, .slice Av nv cv, false⟩]) (.inr ⟨g, C, by simp, by simpa using HP.out.hC, HP.out.hM, by simpa using H2.out⟩) (by have := HP.out.hl; have := HL.out; simp; omega)).mono ?_; rintro e w6 ⟨g', C', g0', rfl, a1, a2, a3, a4, a5, a6, a7⟩; simp only [List.length_append, List.length_cons, List.length_nil, Nat.zero_add] at a3 a6; refine ⟨_, rfl, ?_⟩; have a1 : g = g' ∨ w5.heap.size ≤ g' := a1.imp (fun h => by simpa [Value.ownBlock] using h) id; have a7 : OnlS (fun j => j = g) w5 w6 := a7.mono (fun j _ h => by simpa [Value.ownBlock, eq_comm] using h); have HK := Aside0.mk (HP.out.keep HQ.out HNE.out H2.out H3.out H4.out H5.out H6.out H7.out H8.out a1 a2 a3 a4 a5 a6 a7); clear a1 a2 a3 a4 a5 a6 a7))
        go_roundw
        case measure => exact PC.less HP.out HK.out HQ.out
        case rel => exact ⟨g', C', w5.heap.size, _, _, _, rstC q, _, by simp, by simp, HK⟩
end Go.Proofs.Ytipmmjbjgbfgjaa.Q
