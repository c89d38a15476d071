/- The next cookie of a request: cookieScanner.next. -/
import Derived.Test.YtipmmjbjgbfgjaaSpCk
import Derived.Test.YtipmmjbjgbfgjaaAr3g
namespace Go.Proofs.Ytipmmjbjgbfgjaa.Q
open Go.RowKit Go.Proofs.YtipmmjbjgbfgjaaW.PrintWords Go.Proofs.YtipmmjbjgbfgjaaW.PrintLast Go.Proofs.YtipmmjbjgbfgjaaW.PrintMore
open Go.Proofs.Ytipmmjbjgbfgjaa.SpA (toI toI_length toI_append dcK dcV)
set_option linter.unusedVariables false
set_option linter.unusedSimpArgs false
theorem dc_calls (w : World) (b : Nat) (hb : b ≤ w.heap.size) (P0 : Nat → Prop) (v : Value) (hR : Kd.R (Kd.int .u8) 5 w b P0 v (toI [])) (gt : Nat) (hgt : gt < b) (A : Option Addr) (c : Nat) (q : List UInt8) (sk : Bool) (hq : q.length ≤ 2147483647) (hc : q.length ≤ c)
    (hF : Kd.F (Kd.int .u8) w (fun k => k = gt) A (toI q).length (toI q)) :
    Calls Try.prog 108 #[v, .slice A q.length c, .bool sk] w fun e w' => ∃ v', e = .returned v' ∧ Kd.R (Kd.int .u8) 5 w' b (fun k => P0 k ∨ w.heap.size ≤ k) v' (toI (if sk then dcV q else dcK q)) ∧ OnlS P0 w w' := by
  obtain ⟨K, hK⟩ := SpA.dc_f q sk hq
  obtain ⟨w0, hw0⟩ : ∃ w0 : World, w0 = { w with heap := w.heap.extract 0 b } := ⟨_, rfl⟩
  have hs0 : w0.heap.size = b := by rw [hw0]; simp; omega
  have hB : Below w0.heap.size w0 w := by
    refine ⟨by rw [hw0], by rw [hw0], by rw [hw0], by omega, fun k hk => ?_⟩
    rw [hs0] at hk
    rw [hw0]
    simp [Array.getElem?_extract]
    omega
  have hown : some gt ≠ v.ownBlock := by
    obtain ⟨_, h2⟩ := Kd.own_of_R hR
    rcases h2 with ⟨rfl, _⟩ | ⟨g, cap, cur, rfl, hg, _⟩
    · intro e; cases e
    · intro e
      have : gt = g := by simpa [Value.ownBlock] using e
      omega
  have hV : Kd.V (Kd.int .u8) 5 w w0.heap.size (fun k => k = gt ∧ some k ≠ v.ownBlock) (.slice A (toI q).length c) (toI q) :=
    Kd.V_mk (by rw [toI_length]; exact hc) (Kd.F_mono hF fun k hk => ⟨hk, by rw [hk]; exact hown⟩)
  have h := hertzproto_decodeCookieArg.calls K P0 v (toI []) (fun k => k = gt) A c (toI q) sk _ w0 w hB (by rw [hs0]; exact hR) hV (hK K (Nat.le_refl _))
  rw [toI_length] at h
  refine h.mono ?_
  rintro e w' ⟨v', rfl, hr, hbl, hk⟩
  rw [hs0] at hr
  refine ⟨v', rfl, hr, hbl.os.trans hB.os.symm, hbl.tape.trans hB.tape.symm, hbl.output.trans hB.output.symm, ?_, ?_⟩
  · exact hk.1
  · exact fun i hi hn => hk.2 i hi hn
/-- Where the reading of an argument stands. -/
structure NX (w0 wr : World) (g gs gt n b : Nat) (es : List AE) (L q : List UInt8) (sv : Value) (i : Nat) (ik : Bool) (kk : Nat) (k v : Value) (key : List UInt8) : Prop where
  ny : NY w0 wr g gs gt n b es L sv k v false key []
  hi : i ≤ q.length
  no : (59 : UInt8) ∉ q.take i
  st : (ik = true ∧ key = [] ∧ kk = 0 ∧ (61 : UInt8) ∉ q.take i) ∨ (ik = false ∧ ∃ p1 r1, q = p1 ++ 61 :: r1 ∧ (61 : UInt8) ∉ p1 ∧ p1.length < i ∧ kk = p1.length + 1 ∧ key = dcK p1)
theorem NX.step {w0 wr : World} {g gs gt n b : Nat} {es : List AE} {L q : List UInt8} {sv : Value} {i : Nat} {ik : Bool} {kk : Nat} {k v : Value} {key : List UInt8} (h : NX w0 wr g gs gt n b es L q sv i ik kk k v key) (hi : i < q.length) (h59 : q[i] ≠ 59) (h61 : ik = true → q[i] ≠ 61) : NX w0 wr g gs gt n b es L q sv (i + 1) ik kk k v key := by
  have hno : ∀ c : UInt8, c ∉ q.take i → q[i] ≠ c → c ∉ q.take (i + 1) := fun c h1 h2 => by
    rw [List.take_add_one, List.getElem?_eq_getElem hi]
    simp only [Option.toList_some, List.mem_append, List.mem_singleton, not_or]
    exact ⟨h1, fun e => h2 e.symm⟩
  refine ⟨h.ny, hi, hno 59 h.no h59, ?_⟩
  rcases h.st with ⟨e1, e2, e3, e4⟩ | ⟨e1, p1, r1, e2, e3, e4, e5⟩
  · exact .inl ⟨e1, e2, e3, hno 61 e4 (h61 e1)⟩
  · exact .inr ⟨e1, p1, r1, e2, e3, by omega, e5⟩
theorem dc_at (wr W : World) (hW : W.heap = wr.heap ∧ W.os = wr.os ∧ W.tape = wr.tape ∧ W.output = wr.output) (b : Nat) (hb : b ≤ wr.heap.size) (X : Nat → Prop) (v : Value) (hR : Kd.R (Kd.int .u8) 5 wr b (P5 wr b X) v (toI [])) (gt : Nat) (hgt : gt < b) (pa qa ra : List UInt8) (hbr : BR wr gt 5 (pa ++ qa ++ ra)) (hlen : (pa ++ qa ++ ra).length ≤ 2147483647) (o : Nat) (ho : o = pa.length) (c : Nat) (hc : qa.length ≤ c) (sk : Bool) :
    Calls Try.prog 108 #[v, .slice (some ⟨gt, o, none⟩) qa.length c, .bool sk] W fun e w' => ∃ v', e = .returned v' ∧ Kd.R (Kd.int .u8) 5 w' b (fun j => P5 wr b X j ∨ wr.heap.size ≤ j) v' (toI (if sk then dcV qa else dcK qa)) ∧ OnlS (P5 wr b X) wr w' := by
  obtain ⟨h1, h2, h3, h4⟩ := hW
  subst ho
  have hl : (pa ++ qa).length ≤ 4611686018427387904 := by simp only [List.length_append] at hlen ⊢; omega
  refine (dc_calls W b (by rw [h1]; exact hb) (P5 wr b X) v (Kd.R_move hR fun k _ => by rw [h1]) gt hgt (some ⟨gt, pa.length, none⟩) c qa sk (by simp only [List.length_append] at hlen; omega) hc fun W' hk => ?_).mono ?_
  · refine BR.C (BR.pre (q := ra) (hbr.heap ?_)) hl
    rw [hk gt rfl (by rw [h1]; exact hbr.lt), h1]
  · rintro e w' ⟨v', rfl, hr, ho⟩
    rw [h1] at hr
    exact ⟨v', rfl, hr, ho.os.trans h2, ho.tape.trans h3, ho.output.trans h4, by have := ho.size; rwa [h1] at this, fun k hk hn => by have := ho.block k (by rw [h1]; exact hk) hn; rwa [h1] at this⟩
section
variable {w0 wr : World} {g gs gt n b : Nat} {es : List AE} {L q : List UInt8} {sv k v : Value} {bb : Bool} {key val : List UInt8}
theorem NY.sameK (h : NY w0 wr g gs gt n b es L sv k v bb key val) (hn : n < es.length) : NY w0 (wr.setCell ⟨g, n * 3, none⟩ k) g gs gt n b es L sv k v bb key val :=
  ⟨h.ab.putK hn k, h.cur.setA h.ab _ _, h.ob.move (Below.heap_setCell _ _ _ _ (h.ab.ne_OB h.ob)), h.br.heap (Below.heap_setCell _ _ _ _ (h.ab.ne_BR h.br)), OnlS.set (S := fun j => j = g ∨ j = gs ∨ b ≤ j) h.on (.inl (.inl rfl)) _ _⟩
theorem NX.goK {kk : Nat} {qa qb : List UInt8} (h : NX w0 wr g gs gt n b es L q sv qa.length true kk k v key) (hq : q = qa ++ 61 :: qb) {w1 : World} {k' : Value} (hny : NY w0 w1 g gs gt n b es L sv k' v false (dcK qa) []) :
    NX w0 w1 g gs gt n b es L q sv (qa.length + 1) false (qa.length + 1) k' v (dcK qa) := by
  have h61 : (61 : UInt8) ∉ qa := by
    rcases h.st with ⟨_, _, _, h4⟩ | ⟨e1, _⟩
    · rwa [hq, List.take_left] at h4
    · cases e1
  have h59 : (59 : UInt8) ∉ qa := by have := h.no; rwa [hq, List.take_left] at this
  refine ⟨hny, by rw [hq]; simp, ?_, .inr ⟨rfl, qa, qb, hq, h61, Nat.lt_succ_self _, rfl, rfl⟩⟩
  rw [hq, List.take_append, List.take_of_length_le (by omega), show qa.length + 1 - qa.length = 1 by omega]
  simp [h59]
end
/-- What is read of a part: its key, its value. -/
def keyC (p : List UInt8) : List UInt8 := if (61 : UInt8) ∈ p then dcK (p.takeWhile (· != 61)) else []
def valC (p : List UInt8) : List UInt8 := if (61 : UInt8) ∈ p then dcV ((p.dropWhile (· != 61)).drop 1) else dcV p
/-- The first part, and what stands behind it. -/
def fstC (q : List UInt8) : List UInt8 := q.takeWhile (· != 59)
def rstC (q : List UInt8) : List UInt8 := (q.dropWhile (· != 59)).drop 1
theorem fstC_of {q qa qb : List UInt8} (hq : q = qa ++ 59 :: qb) (h : (59 : UInt8) ∉ qa) : fstC q = qa ∧ rstC q = qb := by
  subst hq
  obtain ⟨h1, h2⟩ := while_of h qb
  unfold fstC rstC
  rw [h1, h2]
  exact ⟨rfl, rfl⟩
theorem fstC_all {q : List UInt8} (h : (59 : UInt8) ∉ q) : fstC q = q ∧ rstC q = [] := by
  obtain ⟨h1, h2⟩ := while_all h
  unfold fstC rstC
  rw [h1, h2]
  exact ⟨rfl, rfl⟩
theorem partC_bare {p : List UInt8} (h : (61 : UInt8) ∉ p) : keyC p = [] ∧ valC p = dcV p := by
  unfold keyC valC
  rw [if_neg h, if_neg h]
  exact ⟨rfl, rfl⟩
theorem partC_two {p p1 r1 : List UInt8} (hp : p = p1 ++ 61 :: r1) (h : (61 : UInt8) ∉ p1) : keyC p = dcK p1 ∧ valC p = dcV r1 := by
  subst hp
  obtain ⟨h1, h2⟩ := while_of h r1
  unfold keyC valC
  rw [if_pos (by simp), if_pos (by simp), h1, h2]
  exact ⟨rfl, rfl⟩
def CkPost (w : World) (g gs gt n b : Nat) (es : List AE) (L q : List UInt8) (e : Ending) (w' : World) : Prop :=
  e = .returned (.bool true) ∧ OnlS (fun j => j = g ∨ j = gs ∨ b ≤ j) w w' ∧ ∃ k v sv, AB w' g (es.set n ⟨k, v, false⟩) ∧ CUR w' b k v (keyC (fstC q)) (valC (fstC q)) ∧ OB w' gs 99 sv ∧ SQ w' gt L (rstC q) sv
theorem NY.postC {w0 wr : World} {g gs gt n b : Nat} {es : List AE} {L q : List UInt8} {sv k v : Value} {key val : List UInt8} (h : NY w0 wr g gs gt n b es L sv k v false key val) (hk : keyC (fstC q) = key) (hv : valC (fstC q) = val) (hs : SQS gt L (rstC q) sv) : CkPost w0 g gs gt n b es L q (.returned (.bool true)) wr := by
  obtain ⟨p, off, c, h1, h2, h3, h4⟩ := hs
  refine ⟨rfl, h.on, k, v, sv, h.ab, ?_, h.ob, p, off, c, h1, h2, h3, h4, h.br⟩
  rw [hk, hv]; exact h.cur
set_option maxHeartbeats 16000000 in
set_option maxRecDepth 100000 in
theorem cnext_calls (w : World) (g gs gt n b : Nat) (es : List AE) (L q : List UInt8) (sv : Value) (k0 v0 : Value) (hab : AB w g (es.set n ⟨k0, v0, false⟩)) (hn : n < es.length) (hcur : CUR w b k0 v0 [] []) (hob : OB w gs 99 sv) (hsq : SQ w gt L q sv) (hq : q ≠ []) (hgt : gt < b) (hbs : b ≤ w.heap.size) (hL : L.length ≤ 2147483647) :
    Calls Try.prog 105 #[.pointer (some ⟨gs, 0, none⟩), .pointer (some ⟨g, n * 3, none⟩)] w (CkPost w g gs gt n b es L q) := by
  obtain ⟨p, off, c, hLq, hsv, hqc, hoff, hbr⟩ := hsq
  obtain rfl : off = p.length := hoff.resolve_left hq
  obtain ⟨i0, hi0, _, hsz0, _⟩ := info_parts info5
  have hql : 0 < q.length := List.length_pos_iff.2 hq
  have fs := hob.c0
  rw [hsv] at fs
  have b1 : ((q.length : Int) == 0) = false := beq_eq_false_iff_ne.2 (by omega)
  have HNX : NX w w g gs gt n b es L q sv 0 true 0 k0 v0 [] :=
    ⟨⟨hab, hcur, hob, hbr, OnlS.refl _ _⟩, Nat.zero_le _, by simp, .inl ⟨rfl, rfl, rfl, by simp⟩⟩
  have HNX := Aside0.mk HNX
  have HN := Aside0.mk hn
  have HQ := Aside0.mk hq
  have HLQ := Aside0.mk hLq
  have HSV := Aside0.mk hsv
  have HQC := Aside0.mk hqc
  have HGT := Aside0.mk hgt
  have HBS := Aside0.mk hbs
  have HLL := Aside0.mk hL
  have HQL := Aside0.mk hql
  clear hab hn hcur hob hbr hq hLq hsv hqc hgt hbs hL hql hoff
  go_enter Try.func105, Try.ntmps105
  go_wp2
  go_loopw [6, 7, 19] (fun v6 v7 v19 wr => ∃ (i : Nat) (ik : Bool) (kk : Nat) (k v : Value) (key : List UInt8), v6 = .bool ik ∧ v7 = .int .i64 (kk : Int) ∧ v19 = .int .i64 (i : Int) ∧ Aside0 (NX w wr g gs gt n b es L q sv i ik kk k v key)) (fun _ _ v19 _ => q.length - natV v19)
  case atStart => exact ⟨0, true, 0, k0, v0, [], rfl, rfl, rfl, HNX⟩
  case round =>
    obtain ⟨i, ik, kk, k, v, key, rfl, rfl, rfl, HX⟩ := hrel
    clear HNX fs
    have HLQ2 := HLQ.out
    have HQC2 := HQC.out
    have HLL2 := HLL.out
    have HSV2 := HSV.out
    have fs := HX.out.ny.ob.c0
    rw [HSV2] at fs
    have hqL : q.length ≤ 2147483647 := by rw [HLQ2] at HLL2; simp at HLL2; omega
    by_cases hi : i < q.length
    · obtain ⟨qa, x, qb, hqx, rfl⟩ : ∃ qa x qb, q = qa ++ x :: qb ∧ i = qa.length := ⟨q.take i, q[i], q.drop (i + 1), by rw [← List.drop_eq_getElem_cons hi, List.take_append_drop], by rw [List.length_take]; omega⟩
      have hql : q.length = qa.length + (qb.length + 1) := by rw [hqx]; simp
      have b2 : decide ((qa.length : Int) < (q.length : Int)) = true := decide_eq_true (by omega)
      have p1 : (0 ≤ (qa.length : Int)) = True := eq_true (by omega)
      have q1 : ((qa.length : Int) < (q.length : Int)) = True := eq_true (by omega)
      have f1 := HX.out.ny.br.mid (a := p ++ qa) (x := x) (r := qb) (by rw [HLQ2, hqx]; simp) (p.length + qa.length) (by simp)
      have hqg : q[qa.length]'hi = x := by simp [hqx]
      have wx : wrap64 ((qa.length : Int) + 1) = ((qa.length + 1 : Nat) : Int) := by unfold wrap64; omega
      have hnx : x ≠ 59 → (ik = true → x ≠ 61) → NX w wr g gs gt n b es L q sv (qa.length + 1) ik kk k v key := fun h1 h2 => HX.out.step hi (by rw [hqg]; exact h1) (fun e => by rw [hqg]; exact h2 e)
      have HQX := Aside0.mk hqx
      have HQL2 := Aside0.mk hql
      have HI := Aside0.mk hi
      by_cases h61 : x = 61
      · subst h61
        have b61 : (((61 : UInt8).toNat : Int) == 61) = true := rfl
        cases ik with
        | false =>
          have HNX := Aside0.mk (hnx (by decide) (by simp))
          clear hnx hi hql hqx hqg HLQ2 HQC2 HLL2 HSV2
          go_wp2
          go_roundw
          case measure => have h1_ := HQL2.out; simp only [natV]; omega
          case rel => exact ⟨qa.length + 1, false, kk, k, v, key, rfl, rfl, by first | rfl | (rw [← wx]), HNX⟩
        | true =>
          obtain ⟨D, hk, hv⟩ := HX.out.ny.cur
          have hkey : key = [] := by rcases HX.out.st with ⟨_, h2, _⟩ | ⟨h1, _⟩; exact h2; cases h1
          subst hkey
          obtain ⟨Ak, ck, hkv⟩ := Kd.R_slice hk
          have hkv : k = .slice Ak 0 ck := hkv
          obtain ⟨fk0, _, _⟩ := HX.out.ny.ab.at_ HN.out
          have fk : wr.cell? ⟨g, n * 3, none⟩ = some (.slice Ak 0 ck) := by rw [← hkv]; exact fk0
          have HCQ := cutUp (P := Try.prog) Try.underlying24 hi0 (some ⟨gt, p.length, none⟩) q.length c qa.length (qa.length : Int) rfl (by omega)
          have HK5 : Aside0 (Kd.R (Kd.int .u8) 5 wr b (P5 wr b (fun j => ¬ D j)) (.slice Ak 0 ck) (toI [])) := ⟨by rw [← hkv]; exact R_P5 hk⟩
          have HVD := Aside0.mk hv
          have HQA : Aside0 (qa.length ≤ c) := ⟨by omega⟩
          have hlq3 : L = p ++ qa ++ 61 :: qb := by rw [HLQ2, hqx]; simp
          have HBR : Aside0 (BR wr gt 5 (p ++ qa ++ 61 :: qb)) := ⟨by rw [← hlq3]; exact HX.out.ny.br⟩
          have HLN : Aside0 ((p ++ qa ++ 61 :: qb).length ≤ 2147483647) := ⟨by rw [← hlq3]; exact HLL2⟩
          have HBW : Aside0 (b ≤ wr.heap.size) := ⟨Nat.le_trans HBS.out HX.out.ny.on.size⟩
          clear hnx hi hql hqx hqg HLQ2 HQC2 HLL2 HSV2 hk hv hkv fk0 hlq3
          go_wp2
          go_region_with (go_at_call 108; refine (dc_at wr _ ?hW b HBW.out _ _ HK5.out gt HGT.out p qa _ HBR.out HLN.out _ rfl c HQA.out false).mono ?_; (case hW => exact ⟨rfl, rfl, rfl, rfl⟩); rintro e w5 ⟨k5, rfl, hR5, ho5⟩; replace hR5 : Kd.R (Kd.int .u8) 5 w5 b _ k5 (toI (dcK qa)) := hR5; obtain ⟨A5, c5, rfl⟩ := Kd.R_slice hR5; have ha5 := HX.out.ny.ab.on5 ho5; have f5 := (ha5.at_ HN.out).1; have z5 := ha5.fz (n * 3); have HX5 := Aside0.mk (HX.out.goK HQX.out (HX.out.ny.storeK HN.out HGT.out HVD.out ho5 hR5)); clear hR5 ho5 ha5 fk fs f1 HCQ)
          all_goals go_wp2
          all_goals go_roundw
          all_goals first
            | exact ⟨qa.length + 1, false, qa.length + 1, _, v, dcK qa, rfl, by first | rfl | (rw [← wx]), by first | rfl | (rw [← wx]), HX5⟩
            | (have h1_ := HQL2.out; simp only [natV]; try rw [wx]; omega)
      · by_cases h59 : x = 59
        · subst h59
          have b61 : (((59 : UInt8).toNat : Int) == 61) = false := rfl
          have b59 : (((59 : UInt8).toNat : Int) == 59) = true := rfl
          have hno : (59 : UInt8) ∉ qa := by have := HX.out.no; rwa [hqx, List.take_left] at this
          obtain ⟨hf1, hf2⟩ := fstC_of hqx hno
          obtain ⟨off', HRS, hoff'⟩ := cutRest (P := Try.prog) Try.underlying24 hi0 hsz0 gt p.length q.length c (qa.length + 1) qb.length ((qa.length : Int) + 1) (by omega) (by omega) (by omega)
          have HSS : Aside0 (SQS gt L (rstC q) (.slice (some ⟨gt, off', none⟩) qb.length (c - (qa.length + 1)))) := ⟨by
            rw [hf2]
            refine ⟨p ++ qa ++ [59], off', c - (qa.length + 1), by rw [HLQ2, hqx]; simp, rfl, by omega, ?_⟩
            rcases hoff' with e | ⟨_, e⟩
            · exact .inr (by rw [e]; simp <;> omega)
            · exact .inl (List.length_eq_zero_iff.1 (by omega))⟩
          have hne := HX.out.ny.ab.ne_OB HX.out.ny.ob
          have hlq3 : L = p ++ qa ++ 59 :: qb := by rw [HLQ2, hqx]; simp
          have c3_ : ((qa.length : Int) ≤ (c : Int)) = True := eq_true (by omega)
          cases ik with
          | true =>
            obtain ⟨hkey, hkk, h61a⟩ : key = [] ∧ kk = 0 ∧ (61 : UInt8) ∉ qa := by
              rcases HX.out.st with ⟨_, h2, h3, h4⟩ | ⟨h1, _⟩
              · exact ⟨h2, h3, by rwa [hqx, List.take_left] at h4⟩
              · cases h1
            subst hkey hkk
            obtain ⟨hp1, hp2⟩ := partC_bare h61a
            obtain ⟨D0, hk0, _⟩ := HX.out.ny.cur
            obtain ⟨Ak, ck, hkv⟩ := Kd.R_slice hk0
            have hkv : k = .slice Ak 0 ck := hkv
            subst hkv
            have fk := (HX.out.ny.ab.at_ HN.out).1
            have zk := HX.out.ny.ab.fz (n * 3)
            have HCK := cutUp (P := Try.prog) Try.underlying24 hi0 Ak 0 ck 0 (0 : Int) rfl (Nat.zero_le _)
            have HY1 := Aside0.mk (HX.out.ny.sameK HN.out)
            obtain ⟨D, hk, hv⟩ := HY1.out.cur
            obtain ⟨Av, cv, hvv⟩ := Kd.R_slice hv
            have hvv : v = .slice Av 0 cv := hvv
            subst hvv
            have fv := (HX.out.ny.ab.at_ HN.out).2.1
            have HCM := cutMid (P := Try.prog) Try.underlying24 hi0 hsz0 gt p.length q.length c 0 qa.length p.length qa.length (0 : Int) (qa.length : Int) rfl rfl (by omega) (by omega) (by omega) (by omega) rfl (by omega)
            have HV5 := Aside0.mk (R_P5 hv)
            have HKD := Aside0.mk hk
            have HQA : Aside0 (qa.length ≤ c - 0) := ⟨by omega⟩
            have HBR : Aside0 (BR (wr.setCell ⟨g, n * 3, none⟩ (.slice Ak 0 ck)) gt 5 (p ++ qa ++ 59 :: qb)) := ⟨by rw [← hlq3]; exact HY1.out.br⟩
            have HLN : Aside0 ((p ++ qa ++ 59 :: qb).length ≤ 2147483647) := ⟨by rw [← hlq3]; exact HLL2⟩
            have HBW : Aside0 (b ≤ (wr.setCell ⟨g, n * 3, none⟩ (.slice Ak 0 ck)).heap.size) := ⟨Nat.le_trans HBS.out HY1.out.on.size⟩
            have HP : Aside0 (keyC (fstC q) = [] ∧ valC (fstC q) = dcV qa) := ⟨by rw [hf1]; exact ⟨hp1, hp2⟩⟩
            have c1_ : (0 ≤ (0 : Int)) = True := eq_true (by omega)
            clear hnx hi hql hqx hqg HLQ2 HQC2 HLL2 hk hk0 hv hlq3 h61a hp1 hp2 hf1 hf2 hno hoff' h61
            go_wp2
            go_region_with (go_at_call 108; refine (dc_at (wr.setCell ⟨g, n * 3, none⟩ (.slice Ak 0 ck)) _ ?hW b HBW.out _ _ HV5.out gt HGT.out p qa _ HBR.out HLN.out _ rfl (c - 0) HQA.out true).mono ?_; (case hW => exact ⟨rfl, rfl, rfl, rfl⟩); rintro e w5 ⟨k5, rfl, hR5, ho5⟩; replace hR5 : Kd.R (Kd.int .u8) 5 w5 b _ k5 (toI (dcV qa)) := hR5; obtain ⟨A5, c5, rfl⟩ := Kd.R_slice hR5; have ha5 := HY1.out.ab.on5 ho5; have hs5 := (HY1.out.ob.on5 ho5).c0; rw [HSV.out] at hs5; have zs5 := (HY1.out.ob.on5 ho5).fz 0; obtain ⟨f5k, f5v, f5b⟩ := ha5.at_ HN.out; have z5v := ha5.fz (n * 3 + 1); have HX5 := Aside0.mk (HY1.out.storeV HN.out HGT.out HKD.out ho5 hR5); clear hR5 ho5 ha5 fk fv fs f1 HCK HCM zk)
            all_goals go_wp2
            all_goals go_ret
            all_goals exact (HX5.out.setS _).postC HP.out.1 HP.out.2 HSS.out
          | false =>
            obtain ⟨D, hk, hv⟩ := HX.out.ny.cur
            obtain ⟨Av, cv, hvv⟩ := Kd.R_slice hv
            have hvv : v = .slice Av 0 cv := hvv
            subst hvv
            have HBW : Aside0 (b ≤ wr.heap.size) := ⟨Nat.le_trans HBS.out HX.out.ny.on.size⟩
            obtain ⟨p1, r1, hq1, h61a, hl1, hkk, hkey⟩ : ∃ p1 r1, q = p1 ++ 61 :: r1 ∧ (61 : UInt8) ∉ p1 ∧ p1.length < qa.length ∧ kk = p1.length + 1 ∧ key = dcK p1 := by
              rcases HX.out.st with ⟨h1, _⟩ | ⟨_, h2⟩
              · cases h1
              · exact h2
            subst hkey
            obtain ⟨r2, hqa, hr1⟩ := split_in hqx hq1 hl1
            obtain ⟨hp1, hp2⟩ := partC_two hqa h61a
            have hqal : qa.length = p1.length + (r2.length + 1) := by rw [hqa]; simp
            have fv := (HX.out.ny.ab.at_ HN.out).2.1
            obtain ⟨o5, ho5'⟩ : ∃ o5, o5 = (p ++ p1 ++ [61]).length := ⟨_, rfl⟩
            have HCM := cutMid (P := Try.prog) Try.underlying24 hi0 hsz0 gt p.length q.length c kk qa.length o5 r2.length (kk : Int) (qa.length : Int) rfl rfl (by omega) (by omega) (by omega) (by omega) (by rw [ho5', hkk]; simp <;> omega) (by omega)
            have HO5 := Aside0.mk ho5'
            have HV5 := Aside0.mk (R_P5 hv)
            have HKD := Aside0.mk hk
            have HQA : Aside0 (r2.length ≤ c - kk) := ⟨by omega⟩
            have hlq4 : L = p ++ p1 ++ [61] ++ r2 ++ 59 :: qb := by rw [hlq3, hqa]; simp
            have HBR : Aside0 (BR wr gt 5 (p ++ p1 ++ [61] ++ r2 ++ 59 :: qb)) := ⟨by rw [← hlq4]; exact HX.out.ny.br⟩
            have HLN : Aside0 ((p ++ p1 ++ [61] ++ r2 ++ 59 :: qb).length ≤ 2147483647) := ⟨by rw [← hlq4]; exact HLL2⟩
            have HP : Aside0 (keyC (fstC q) = dcK p1 ∧ valC (fstC q) = dcV r2) := ⟨by rw [hf1]; exact ⟨hp1, hp2⟩⟩
            have c1_ : (0 ≤ (kk : Int)) = True := eq_true (by omega)
            have c2_ : ((kk : Int) ≤ (qa.length : Int)) = True := eq_true (by omega)
            clear hnx hi hql hqx hqg HLQ2 HQC2 HLL2 hk hv hlq3 hlq4 h61a hp1 hp2 hf1 hf2 hno hoff' h61 hq1 hl1 hkk hqa hr1 ho5' hqal
            go_wp2
            go_region_with (go_at_call 108; refine (dc_at wr _ ?hW b HBW.out _ _ HV5.out gt HGT.out (p ++ p1 ++ [61]) r2 _ HBR.out HLN.out _ HO5.out (c - kk) HQA.out true).mono ?_; (case hW => exact ⟨rfl, rfl, rfl, rfl⟩); rintro e w5 ⟨k5, rfl, hR5, ho5⟩; replace hR5 : Kd.R (Kd.int .u8) 5 w5 b _ k5 (toI (dcV r2)) := hR5; obtain ⟨A5, c5, rfl⟩ := Kd.R_slice hR5; have ha5 := HX.out.ny.ab.on5 ho5; have hs5 := (HX.out.ny.ob.on5 ho5).c0; rw [HSV.out] at hs5; have zs5 := (HX.out.ny.ob.on5 ho5).fz 0; obtain ⟨f5k, f5v, f5b⟩ := ha5.at_ HN.out; have z5v := ha5.fz (n * 3 + 1); have HX5 := Aside0.mk (HX.out.ny.storeV HN.out HGT.out HKD.out ho5 hR5); clear hR5 ho5 ha5 fv fs f1 HCM)
            all_goals go_wp2
            all_goals go_ret
            all_goals exact (HX5.out.setS _).postC HP.out.1 HP.out.2 HSS.out
        · have b61 : ((x.toNat : Int) == 61) = false := beq_eq_false_iff_ne.2 fun e => h61 (UInt8.toNat_inj.1 (by have : (61 : UInt8).toNat = 61 := rfl; omega))
          have b59 : ((x.toNat : Int) == 59) = false := beq_eq_false_iff_ne.2 fun e => h59 (UInt8.toNat_inj.1 (by have : (59 : UInt8).toNat = 59 := rfl; omega))
          have HNX := Aside0.mk (hnx h59 (fun _ => h61))
          clear hnx hi hql hqx hqg HLQ2 HQC2 HLL2 HSV2 h61 h59
          go_wp2
          go_roundw
          case measure => have h1_ := HQL2.out; simp only [natV]; omega
          case rel => exact ⟨qa.length + 1, ik, kk, k, v, key, rfl, rfl, by first | rfl | (rw [← wx]), HNX⟩
    · have hil : i = q.length := by have := HX.out.hi; omega
      subst hil
      have hno : (59 : UInt8) ∉ q := by have := HX.out.no; rwa [List.take_length] at this
      obtain ⟨hf1, hf2⟩ := fstC_all hno
      have b2 : decide ((q.length : Int) < (q.length : Int)) = false := decide_eq_false (by omega)
      obtain ⟨off', HRS, hoff'⟩ := cutRest (P := Try.prog) Try.underlying24 hi0 hsz0 gt p.length q.length c q.length 0 (q.length : Int) rfl (by omega) (by omega)
      have HSS : Aside0 (SQS gt L (rstC q) (.slice (some ⟨gt, off', none⟩) 0 (c - q.length))) := ⟨by
        rw [hf2]
        exact ⟨L, off', c - q.length, by simp, rfl, Nat.zero_le _, .inl rfl⟩⟩
      have hne := HX.out.ny.ab.ne_OB HX.out.ny.ob
      have d1_ : (0 ≤ (q.length : Int)) = True := eq_true (by omega)
      have d2_ : ((q.length : Int) ≤ (q.length : Int)) = True := eq_true (by omega)
      cases ik with
      | true =>
        obtain ⟨hkey, hkk, h61a⟩ : key = [] ∧ kk = 0 ∧ (61 : UInt8) ∉ q := by
          rcases HX.out.st with ⟨_, h2, h3, h4⟩ | ⟨h1, _⟩
          · exact ⟨h2, h3, by rwa [List.take_length] at h4⟩
          · cases h1
        subst hkey hkk
        obtain ⟨hp1, hp2⟩ := partC_bare h61a
        obtain ⟨D0, hk0, _⟩ := HX.out.ny.cur
        obtain ⟨Ak, ck, hkv⟩ := Kd.R_slice hk0
        have hkv : k = .slice Ak 0 ck := hkv
        subst hkv
        have fk := (HX.out.ny.ab.at_ HN.out).1
        have zk := HX.out.ny.ab.fz (n * 3)
        have HCK := cutUp (P := Try.prog) Try.underlying24 hi0 Ak 0 ck 0 (0 : Int) rfl (Nat.zero_le _)
        have HY1 := Aside0.mk (HX.out.ny.sameK HN.out)
        obtain ⟨D, hk, hv⟩ := HY1.out.cur
        obtain ⟨Av, cv, hvv⟩ := Kd.R_slice hv
        have hvv : v = .slice Av 0 cv := hvv
        subst hvv
        have fv := (HX.out.ny.ab.at_ HN.out).2.1
        obtain ⟨o5, HRV, ho5'⟩ := cutRest (P := Try.prog) Try.underlying24 hi0 hsz0 gt p.length q.length c 0 q.length (0 : Int) rfl (by omega) (by omega)
        have ho5 : o5 = p.length := by rcases ho5' with e | ⟨e, _⟩ <;> omega
        have HO5 := Aside0.mk ho5
        have HV5 := Aside0.mk (R_P5 hv)
        have HKD := Aside0.mk hk
        have HQA : Aside0 (q.length ≤ c - 0) := ⟨by omega⟩
        have HBR : Aside0 (BR (wr.setCell ⟨g, n * 3, none⟩ (.slice Ak 0 ck)) gt 5 (p ++ q ++ [])) := ⟨by rw [List.append_nil, ← HLQ2]; exact HY1.out.br⟩
        have HLN : Aside0 ((p ++ q ++ []).length ≤ 2147483647) := ⟨by rw [List.append_nil, ← HLQ2]; exact HLL2⟩
        have HBW : Aside0 (b ≤ (wr.setCell ⟨g, n * 3, none⟩ (.slice Ak 0 ck)).heap.size) := ⟨Nat.le_trans HBS.out HY1.out.on.size⟩
        have HP : Aside0 (keyC (fstC q) = [] ∧ valC (fstC q) = dcV q) := ⟨by rw [hf1]; exact ⟨hp1, hp2⟩⟩
        clear hi HLQ2 HQC2 HLL2 hk hk0 hv h61a hp1 hp2 hf1 hf2 hno hoff' ho5' ho5
        go_wp2
        go_region_with (go_at_call 108; refine (dc_at (wr.setCell ⟨g, n * 3, none⟩ (.slice Ak 0 ck)) _ ?hW b HBW.out _ _ HV5.out gt HGT.out p q _ HBR.out HLN.out _ HO5.out (c - 0) HQA.out true).mono ?_; (case hW => exact ⟨rfl, rfl, rfl, rfl⟩); rintro e w5 ⟨k5, rfl, hR5, ho5⟩; replace hR5 : Kd.R (Kd.int .u8) 5 w5 b _ k5 (toI (dcV q)) := hR5; obtain ⟨A5, c5, rfl⟩ := Kd.R_slice hR5; have ha5 := HY1.out.ab.on5 ho5; have hs5 := (HY1.out.ob.on5 ho5).c0; rw [HSV.out] at hs5; have zs5 := (HY1.out.ob.on5 ho5).fz 0; obtain ⟨f5k, f5v, f5b⟩ := ha5.at_ HN.out; have z5v := ha5.fz (n * 3 + 1); have HX5 := Aside0.mk (HY1.out.storeV HN.out HGT.out HKD.out ho5 hR5); clear hR5 ho5 ha5 fk fv fs HCK HRV zk)
        all_goals go_wp2
        all_goals go_ret
        all_goals exact (HX5.out.setS _).postC HP.out.1 HP.out.2 HSS.out
      | false =>
        obtain ⟨D, hk, hv⟩ := HX.out.ny.cur
        obtain ⟨Av, cv, hvv⟩ := Kd.R_slice hv
        have hvv : v = .slice Av 0 cv := hvv
        subst hvv
        have HBW : Aside0 (b ≤ wr.heap.size) := ⟨Nat.le_trans HBS.out HX.out.ny.on.size⟩
        obtain ⟨p1, r1, hq1, h61a, hl1, hkk, hkey⟩ : ∃ p1 r1, q = p1 ++ 61 :: r1 ∧ (61 : UInt8) ∉ p1 ∧ p1.length < q.length ∧ kk = p1.length + 1 ∧ key = dcK p1 := by
          rcases HX.out.st with ⟨h1, _⟩ | ⟨_, h2⟩
          · cases h1
          · exact h2
        subst hkey
        obtain ⟨hp1, hp2⟩ := partC_two hq1 h61a
        have hqal : q.length = p1.length + (r1.length + 1) := by rw [hq1]; simp
        have fv := (HX.out.ny.ab.at_ HN.out).2.1
        obtain ⟨o5, HRV, ho5'⟩ := cutRest (P := Try.prog) Try.underlying24 hi0 hsz0 gt p.length q.length c kk r1.length (kk : Int) rfl (by omega) (by omega)
        obtain ⟨pa, ra, hpa, hLp⟩ : ∃ pa ra, o5 = pa.length ∧ L = pa ++ r1 ++ ra := by
          rcases ho5' with e | ⟨e, e2⟩
          · exact ⟨p ++ p1 ++ [61], [], by rw [e, hkk]; simp <;> omega, by rw [HLQ2, hq1]; simp⟩
          · have hr0 : r1 = [] := List.length_eq_zero_iff.1 (by omega)
            exact ⟨p, q, e, by rw [hr0, HLQ2]; simp⟩
        have HO5 := Aside0.mk hpa
        have HV5 := Aside0.mk (R_P5 hv)
        have HKD := Aside0.mk hk
        have HQA : Aside0 (r1.length ≤ c - kk) := ⟨by omega⟩
        have HBR : Aside0 (BR wr gt 5 (pa ++ r1 ++ ra)) := ⟨by rw [← hLp]; exact HX.out.ny.br⟩
        have HLN : Aside0 ((pa ++ r1 ++ ra).length ≤ 2147483647) := ⟨by rw [← hLp]; exact HLL2⟩
        have HP : Aside0 (keyC (fstC q) = dcK p1 ∧ valC (fstC q) = dcV r1) := ⟨by rw [hf1]; exact ⟨hp1, hp2⟩⟩
        have c1_ : (0 ≤ (kk : Int)) = True := eq_true (by omega)
        have c2_ : ((kk : Int) ≤ (q.length : Int)) = True := eq_true (by omega)
        clear hi HLQ2 HQC2 HLL2 hk hv h61a hp1 hp2 hf1 hf2 hno hoff' hq1 hl1 hkk hqal ho5' hpa hLp
        go_wp2
        go_region_with (go_at_call 108; refine (dc_at wr _ ?hW b HBW.out _ _ HV5.out gt HGT.out pa r1 _ HBR.out HLN.out _ HO5.out (c - kk) HQA.out true).mono ?_; (case hW => exact ⟨rfl, rfl, rfl, rfl⟩); rintro e w5 ⟨k5, rfl, hR5, ho5⟩; replace hR5 : Kd.R (Kd.int .u8) 5 w5 b _ k5 (toI (dcV r1)) := hR5; obtain ⟨A5, c5, rfl⟩ := Kd.R_slice hR5; have ha5 := HX.out.ny.ab.on5 ho5; have hs5 := (HX.out.ny.ob.on5 ho5).c0; rw [HSV.out] at hs5; have zs5 := (HX.out.ny.ob.on5 ho5).fz 0; obtain ⟨f5k, f5v, f5b⟩ := ha5.at_ HN.out; have z5v := ha5.fz (n * 3 + 1); have HX5 := Aside0.mk (HX.out.ny.storeV HN.out HGT.out HKD.out ho5 hR5); clear hR5 ho5 ha5 fv fs HRV)
        all_goals go_wp2
        all_goals go_ret
        all_goals exact (HX5.out.setS _).postC HP.out.1 HP.out.2 HSS.out
end Go.Proofs.Ytipmmjbjgbfgjaa.Q
