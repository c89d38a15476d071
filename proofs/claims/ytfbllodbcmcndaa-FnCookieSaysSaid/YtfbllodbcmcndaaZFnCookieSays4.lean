/- FnCookieSays: the law's function, called with any arguments, returns true and leaves its arguments as they were: every input, no condition. Part 5 of 12. -/
import Derived.Test.YtfbllodbcmcndaaZFnCookieSays3
import Derived.Test.YtfbllodbcmcndaaZFnCookieSays1
import Derived.Test.YtfbllodbcmcndaaZFnCookieSays2
import Derived.Lib.IndexLaws
section
namespace Go.Proofs.Ytfbllodbcmcndaa.Q
open Go.RowKit Go.Proofs.YtfbllodbcmcndaaW.PrintWords Go.Proofs.YtfbllodbcmcndaaW.PrintLast Go.Proofs.YtfbllodbcmcndaaW.PrintMore
open Go.Proofs.Ytfbllodbcmcndaa.SpA (toI toI_length toI_append ix)
theorem cutTo {P : Program} {t e : TypeId} {i : TypeInfo} (ht : P.underlying t = some (.slice e)) (hi : P.info? e = some i) (A : Option Addr) (m c n : Nat) (x : Int) (hx : x = (n : Int)) (hn : n ≤ m) (hm : m ≤ c) :
    ∀ W : World, (Instr.slice t (.slice A m c) none (some (.int .i64 x)) none).run P W = .ok (.slice A n c) W := by
  intro W
  have h := cut_to (P := P) t e .i64 ht hi A m c x (by omega) (by omega) hm W
  rw [show x.toNat = n by omega] at h
  exact h
theorem cutFrom {P : Program} {t e : TypeId} {i : TypeInfo} (ht : P.underlying t = some (.slice e)) (hi : P.info? e = some i) (hs : i.size = 1) (g off m c n off' m' c' : Nat) (x : Int) (hx : x = (n : Int)) (hn : n < c) (hm : n ≤ m) (h1 : off' = off + n) (h2 : m' = m - n) (h3 : c' = c - n) :
    ∀ W : World, (Instr.slice t (.slice (some ⟨g, off, none⟩) m c) (some (.int .i64 x)) none none).run P W = .ok (.slice (some ⟨g, off', none⟩) m' c') W := by
  intro W
  have h := cut_from (P := P) t e .i64 ht hi 1 hs (some ⟨g, off, none⟩) m c x (by omega) (by omega) W
  have hxt : x.toNat = n := by omega
  rw [hxt, if_neg (by omega), Nat.mul_one, Option.map_some, addr_add] at h
  rw [h1, h2, h3]
  exact h
theorem zz_calls {w : World} {g g1 c c1 : Nat} {p q sub : List UInt8} (r : Int) (hr : ix sub q 0 = r) (hb : BR w g 5 (p ++ q)) (hc : q.length ≤ c) (hs : BR w g1 5 sub) (hc1 : sub.length ≤ c1) (hn : sub ≠ []) (hl : (p ++ q).length ≤ 4611686018427387) (hm : sub.length ≤ 4611686018427387) :
    Calls Try.prog 92 #[.slice (some ⟨g, p.length, none⟩) q.length c, .slice (some ⟨g1, 0, none⟩) sub.length c1] w fun e w' => e = .returned (.int .i64 r) ∧ Drawn0 w w' := by
  subst hr
  have hql : q.length ≤ 4611686018427387 := by simp at hl; omega
  obtain ⟨k, hk⟩ := SpA.zzIndex q sub hn (by omega) hm
  have h := hertzproto_zzIndex.calls k (some ⟨g, p.length, none⟩) c (toI q) (some ⟨g1, 0, none⟩) c1 (toI sub) _ w (hb.C (by omega)) (by rw [toI_length]; exact hc) (BR.C (p := []) (q := sub) hs (by simpa using Nat.le_trans hm (by omega))) (by rw [toI_length]; exact hc1) (hk k (Nat.le_refl k))
  rw [toI_length, toI_length] at h
  exact h
theorem zz0_calls {w : World} {g g1 c c1 : Nat} {q sub : List UInt8} (r : Int) (hr : ix sub q 0 = r) (hb : BR w g 5 q) (hc : q.length ≤ c) (hs : BR w g1 5 sub) (hc1 : sub.length ≤ c1) (hn : sub ≠ []) (hl : q.length ≤ 4611686018427387) (hm : sub.length ≤ 4611686018427387) :
    Calls Try.prog 92 #[.slice (some ⟨g, 0, none⟩) q.length c, .slice (some ⟨g1, 0, none⟩) sub.length c1] w fun e w' => e = .returned (.int .i64 r) ∧ Drawn0 w w' := zz_calls (p := []) r hr hb hc hs hc1 hn hl hm
def lenV : Value → Nat
  | .slice _ n _ => n
  | _ => 0
theorem good_part (L p y b : List UInt8) (h1 : ∀ a c, L ≠ a ++ 47 :: 47 :: c) (h2 : ∀ a c, L ≠ a ++ 47 :: 46 :: 47 :: c) (hL : L = (p ++ 47 :: y) ++ [47, 46, 46, 47] ++ b) (hmin : ∀ a' b', L = a' ++ [47, 46, 46, 47] ++ b' → (p ++ 47 :: y).length ≤ a'.length) : Cl.good y := by
  refine ⟨fun e => h1 p (46 :: 46 :: 47 :: b) (by rw [hL, e]; simp), fun e => h2 p (46 :: 46 :: 47 :: b) (by rw [hL, e]; simp), fun e => ?_⟩
  have := hmin p (46 :: 46 :: 47 :: b) (by rw [hL, e]; simp)
  simp at this
  omega
theorem no_slash_first (a t L r : List UInt8) (hL : L = a ++ r) (ht : L = 47 :: t) (ha : (47 : UInt8) ∉ a) : a = [] := by
  cases a with
  | nil => rfl
  | cons x a =>
    rw [hL] at ht
    have := (List.cons.inj ht).1
    exact absurd (by rw [this]; simp) ha
theorem slash_first (p b c t : List UInt8) (h : p ++ 47 :: c = 47 :: t) : ∃ t, p ++ 47 :: b = 47 :: t := by
  cases p with
  | nil => exact ⟨b, rfl⟩
  | cons x y => have := (List.cons.inj h).1; exact ⟨y ++ 47 :: b, by rw [this]; rfl⟩
theorem lib_calls {w : World} {g c : Nat} {p : List UInt8} (r : Int) (hr : Ev (fun k => bytes_LastIndexByte.f k (toI p) 47) r) (hb : BR w g 5 p) (hc : p.length ≤ c) (hl : p.length ≤ 4611686018427387) :
    Calls Try.prog 96 #[.slice (some ⟨g, 0, none⟩) p.length c, .int .u8 47] w fun e w' => e = .returned (.int .i64 r) ∧ Drawn0 w w' := by
  obtain ⟨k, hk⟩ := hr
  have h := bytes_LastIndexByte.calls k (some ⟨g, 0, none⟩) c (toI p) 47 r w (BR.C (p := []) (q := p) hb (by simpa using Nat.le_trans hl (by omega))) (by rw [toI_length]; exact hc) (hk k (Nat.le_refl k))
  rw [toI_length] at h
  exact h
theorem lix_calls {w : World} {g g1 c c1 : Nat} {p : List UInt8} (r : Int) (hr : Ev (fun k => bytes_LastIndex.f k (toI p) [47, 46, 46]) r) (hb : BR w g 5 p) (hc : p.length ≤ c) (hs : BR w g1 5 [47, 46, 46]) (hc1 : 3 ≤ c1) (hl : p.length ≤ 4611686018427387) :
    Calls Try.prog 97 #[.slice (some ⟨g, 0, none⟩) p.length c, .slice (some ⟨g1, 0, none⟩) 3 c1] w fun e w' => e = .returned (.int .i64 r) ∧ Drawn0 w w' := by
  obtain ⟨k, hk⟩ := hr
  have h := bytes_LastIndex.calls k (some ⟨g, 0, none⟩) c (toI p) (some ⟨g1, 0, none⟩) c1 (toI [47, 46, 46]) r w (BR.C (p := []) (q := p) hb (by simpa using Nat.le_trans hl (by omega))) (by rw [toI_length]; exact hc) (BR.C (p := []) (q := [47, 46, 46]) hs (by simp)) hc1 (hk k (Nat.le_refl k))
  rw [toI_length] at h
  exact h
end Go.Proofs.Ytfbllodbcmcndaa.Q
end
section
namespace Go.Proofs.Ytfbllodbcmcndaa.Q
open Go.RowKit Go.Proofs.YtfbllodbcmcndaaW.PrintWords Go.Proofs.YtfbllodbcmcndaaW.PrintLast Go.Proofs.YtfbllodbcmcndaaW.PrintMore
set_option linter.unusedVariables false
set_option linter.unusedSimpArgs false
open Go.Proofs.Ytfbllodbcmcndaa.SpA (toI toI_length toI_append ix)
open Go.Proofs.Ytfbllodbcmcndaa.Cl (cleanK Free)
def NormPost (w : World) (l : List UInt8) (e : Ending) (w' : World) : Prop := ∃ g c, e = .returned (.slice (some ⟨g, 0, none⟩) l.length c) ∧ BR w' g 5 l ∧ Below w.heap.size w w' ∧ w.heap.size ≤ g ∧ l.length ≤ c
set_option maxHeartbeats 16000000 in
set_option maxRecDepth 100000 in
theorem norm_calls (k : Nat) (A1 : Option Addr) (c1 : Nat) (s a0 l0 : List UInt8) (w : World) (hsrc : Kd.C (Kd.int .u8) w A1 (toI s).length (toI s)) (hc1 : (toI s).length ≤ c1) (hA : hertzproto_addLeadingSlash.f [] (toI s) = some (toI a0)) (hD : hertzproto_decodeArgAppendNoPlus.f k (toI a0) (toI s) = some (toI l0)) (hs : ∃ t, l0 = 47 :: t) (hl : l0.length ≤ 4611686018427387) :
    Calls Try.prog 82 #[.slice none 0 0, .slice A1 (toI s).length c1] w (NormPost w (cleanK l0)) := by
  obtain ⟨i0, hi0, _, hsz0, _⟩ := info_parts info5
  have HI := Aside0.mk hi0
  have HSZ := Aside0.mk hsz0
  have HSRC := Aside0.mk hsrc
  have HC1 := Aside0.mk hc1
  have HA := Aside0.mk hA
  have HD := Aside0.mk hD
  have HS0 := Aside0.mk hs
  have HL := Aside0.mk hl
  have HNE : Aside0 (l0 ≠ []) := ⟨by obtain ⟨t, rfl⟩ := hs; simp⟩
  have HB := Aside0.mk (Below.refl w.heap.size w)
  clear hsrc hc1 hA hD hs hl hi0 hsz0
  go_enter Try.func82, Try.ntmps82
  go_wp2_with (first | ((with_reducible refine gate_callee (f := 90) rfl ?_); refine goesL_ (some 18) rfl rfl Try.func90 (by kernel_rfl) rfl #[.slice none 0 0, .slice A1 (toI s).length c1] rfl (by (try simp only [List.map_toArray, List.map_cons, List.map_nil]); first | done | rfl) ?_; (refine (hertzproto_addLeadingSlash.calls (fun _ => False) (.slice none 0 0) ([] : List Int) A1 c1 (toI s) (toI a0) w _ HB.out (Kd.R_nil _ _ _ _ _) (Kd.C_kept_came (Kd.heap_int _) HSRC.out HB.out (fun _ h => h.elim)) HC1.out HA.out).mono ?_); rintro e w6 ⟨v6, rfl, ho, hb, _⟩; refine ⟨_, rfl, ?_⟩; have HO := Aside0.mk (Kd.R_mono (ok' := fun k_ => w.heap.size ≤ k_) ho (fun k_ hk_ => hk_.elim (fun h => h.elim) id)); clear HB; have HB := Aside0.mk hb; clear hb ho) | ((with_reducible refine gate_callee (f := 91) rfl ?_); refine goesL_ (some 21) rfl rfl Try.func91 (by kernel_rfl) rfl #[v6, .slice A1 (toI s).length c1] rfl (by (try simp only [List.map_toArray, List.map_cons, List.map_nil]); first | done | rfl) ?_; (refine (hertzproto_decodeArgAppendNoPlus.calls k (fun k_ => w.heap.size ≤ k_) v6 (toI a0) A1 c1 (toI s) (toI l0) w _ HB.out HO.out (Kd.C_kept_came (Kd.heap_int _) HSRC.out HB.out (fun _ h => h)) HC1.out HD.out).mono ?_); rintro e w7 ⟨v7, rfl, ho, hb, _⟩; refine ⟨_, rfl, ?_⟩; clear HO HB; obtain ⟨g, c, rfl, hg, hc, hcm, hbr⟩ := BR.of_R ho HNE.out; have HG := Aside0.mk hg; have HC := Aside0.mk hc; have HR := Aside0.mk hbr; have HB := Aside0.mk hb; clear ho hb hg hc hcm hbr))
  go_loopw [5, 6] (fun s5 s6 wr => ∃ (p q : List UInt8) (c5 : Nat), s5 = .slice (some ⟨g, p.length, none⟩) q.length c5 ∧ s6 = .int .i64 ((p.length + q.length : Nat) : Int) ∧ Aside0 (BR wr g 5 (p ++ q)) ∧ Aside0 (q.length ≤ c5) ∧ Aside0 (∀ a' b', p ++ q = a' ++ [47, 47] ++ b' → p.length ≤ a'.length) ∧ Aside0 (cleanK (p ++ q) = cleanK l0) ∧ Aside0 (∃ t, p ++ q = 47 :: t) ∧ Aside0 ((p ++ q).length ≤ l0.length) ∧ Aside0 (Below w.heap.size w wr)) (fun _ s6 _ => (intOf s6).toNat)
  case atStart => exact ⟨[], l0, c, rfl, by simp, ⟨HR.out.heap rfl⟩, HC, ⟨fun _ _ _ => Nat.zero_le _⟩, ⟨rfl⟩, HS0, ⟨Nat.le_refl _⟩, ⟨(by repeat (first | (with_reducible first | exact HB.out | apply below_alloc | apply pw_below_drewN | apply below_drew1) | exact HB.out))⟩⟩
  case round =>
    have HC0 := HC
    clear HR HB HC HSRC HC1 HA HD
    obtain ⟨p, q, c5, rfl, rfl, HR, HC, HINV, HCL, HSL, HLEN, HB⟩ := hrel
    obtain ⟨r1, hr1⟩ : ∃ r1, ix [47, 47] q 0 = r1 := ⟨_, rfl⟩
    have HR1 := Aside0.mk hr1
    obtain ⟨z6, hz6⟩ : ∃ z6 : Int, z6 = ((p.length + q.length : Nat) : Int) := ⟨_, rfl⟩
    rw [← hz6]
    have HZ6 := Aside0.mk hz6
    clear hz6
    have HPL : Aside0 ((p ++ q).length ≤ 4611686018427387) := ⟨Nat.le_trans HLEN.out HL.out⟩
    rcases SpA.ix_cases [47, 47] (by decide) q with ⟨hix, hno⟩ | ⟨a, b, hq, hix, hmin⟩
    · have b1 : decide (r1 < 0) = true := decide_eq_true (by omega)
      have HF := Aside0.mk (SpA.dup_none p q hno HINV.out)
      obtain ⟨L1, hL1⟩ : ∃ L1, L1 = p ++ q := ⟨_, rfl⟩
      have HCUT := cutTo (P := Try.prog) Try.underlying63 HI.out (some ⟨g, 0, none⟩) l0.length c L1.length z6 (by rw [HZ6.out, hL1]; simp) (by rw [hL1]; exact HLEN.out) HC0.out
      have HL1 := Aside0.mk hL1
      clear hix hno hr1 hL1
      go_wp2_with (first | ((with_reducible refine gate_callee (f := 93) rfl ?_); refine goesL_ (some 26) rfl rfl Try.func93 (by kernel_rfl) rfl #[] rfl (by (try simp only [List.map_toArray, List.map_cons, List.map_nil]); first | done | rfl) ?_; refine (strSS_calls _).mono ?_; rintro e wq ⟨gSS, cSS, rfl, hcSS, hbS, hbel⟩; refine ⟨_, rfl, ?_⟩; have HSS := Aside0.mk hbS; have n0_ := Aside0.mk (BR.below2 HR.out hbel rfl); have n1_ := Aside0.mk (below_step (by repeat (first | (with_reducible first | exact HB.out | apply below_alloc | apply pw_below_drewN | apply below_drew1) | exact HB.out)) hbel); clear HR HB; have HR := n0_; have HB := n1_; clear n0_ n1_ hbS hbel) | ((with_reducible refine gate_callee (f := 92) rfl ?_); refine goesL_ (some 27) rfl rfl Try.func92 (by kernel_rfl) rfl #[.slice (some ⟨g, p.length, none⟩) q.length c5, .slice (some ⟨gSS, 0, none⟩) 2 cSS] rfl (by (try simp only [List.map_toArray, List.map_cons, List.map_nil]); first | done | rfl) ?_; refine (zz_calls (p := p) (q := q) (sub := [47, 47]) r1 HR1.out (HR.out.heap rfl) HC.out (HSS.out.heap rfl) hcSS (by decide) HPL.out (by decide)).mono ?_; rintro e wq ⟨rfl, ⟨nd, rfl⟩⟩; refine ⟨_, rfl, ?_⟩))
      rw [← HL1.out] at HR HF HCL HSL HLEN HPL
      have HC : Aside0 (L1.length ≤ c) := ⟨Nat.le_trans HLEN.out HC0.out⟩
      clear HCUT HL1 HINV HR1 HZ6 HSS hcSS
      go_loopw [5] (fun s5 wr => ∃ (L : List UInt8) (c5 : Nat), s5 = .slice (some ⟨g, 0, none⟩) L.length c5 ∧ Aside0 (BR wr g 5 L) ∧ Aside0 (L.length ≤ c5) ∧ Aside0 (∀ a b, L ≠ a ++ 47 :: 47 :: b) ∧ Aside0 (cleanK L = cleanK l0) ∧ Aside0 (∃ t, L = 47 :: t) ∧ Aside0 (L.length ≤ l0.length) ∧ Aside0 (Below w.heap.size w wr)) (fun s5 _ => lenV s5)
      case atStart => exact ⟨L1, c, rfl, ⟨HR.out.heap rfl⟩, HC, HF, HCL, HSL, HLEN, ⟨(by repeat (first | (with_reducible first | exact HB.out | apply below_alloc | apply pw_below_drewN | apply below_drew1) | exact HB.out))⟩⟩
      case round =>
        clear HR HB HC HF HCL HSL HLEN HPL
        obtain ⟨L, c5, rfl, HR, HC, HF, HCL, HSL, HLEN, HB⟩ := hrel
        obtain ⟨r2, hr2⟩ : ∃ r2, ix [47, 46, 47] L 0 = r2 := ⟨_, rfl⟩
        have HR2 := Aside0.mk hr2
        have HPL : Aside0 (L.length ≤ 4611686018427387) := ⟨Nat.le_trans HLEN.out HL.out⟩
        rcases SpA.ix_cases [47, 46, 47] (by decide) L with ⟨hix, hno⟩ | ⟨a, b, hq, hix, hmin⟩
        · have b2 : decide (r2 < 0) = true := decide_eq_true (by omega)
          have HF2 : Aside0 (∀ a b, L ≠ a ++ 47 :: 46 :: 47 :: b) := ⟨fun a b e => hno a b (by rw [e]; simp)⟩
          clear hix hno hr2
          go_wp2_with (first | ((with_reducible refine gate_callee (f := 94) rfl ?_); refine goesL_ (some 49) rfl rfl Try.func94 (by kernel_rfl) rfl #[] rfl (by (try simp only [List.map_toArray, List.map_cons, List.map_nil]); first | done | rfl) ?_; refine (strSDS_calls _).mono ?_; rintro e wq ⟨gST, cST, rfl, hcST, hbS, hbel⟩; refine ⟨_, rfl, ?_⟩; have HST := Aside0.mk hbS; have n0_ := Aside0.mk (BR.below2 HR.out hbel rfl); have n1_ := Aside0.mk (below_step (by repeat (first | (with_reducible first | exact HB.out | apply below_alloc | apply pw_below_drewN | apply below_drew1) | exact HB.out)) hbel); clear HR HB; have HR := n0_; have HB := n1_; clear n0_ n1_ hbS hbel) | ((with_reducible refine gate_callee (f := 92) rfl ?_); refine goesL_ (some 50) rfl rfl Try.func92 (by kernel_rfl) rfl #[.slice (some ⟨g, 0, none⟩) L.length c5, .slice (some ⟨gST, 0, none⟩) 3 cST] rfl (by (try simp only [List.map_toArray, List.map_cons, List.map_nil]); first | done | rfl) ?_; refine (zz0_calls (q := L) (sub := [47, 46, 47]) r2 HR2.out (HR.out.heap rfl) HC.out (HST.out.heap rfl) hcST (by decide) HPL.out (by decide)).mono ?_; rintro e wq ⟨rfl, ⟨nd, rfl⟩⟩; refine ⟨_, rfl, ?_⟩))
          clear HR2 HST hcST
          go_loopw [5] (fun s5 wr => ∃ (L : List UInt8) (c5 : Nat), s5 = .slice (some ⟨g, 0, none⟩) L.length c5 ∧ Aside0 (BR wr g 5 L) ∧ Aside0 (L.length ≤ c5) ∧ Aside0 (∀ a b, L ≠ a ++ 47 :: 47 :: b) ∧ Aside0 (∀ a b, L ≠ a ++ 47 :: 46 :: 47 :: b) ∧ Aside0 (cleanK L = cleanK l0) ∧ Aside0 (∃ t, L = 47 :: t) ∧ Aside0 (L.length ≤ l0.length) ∧ Aside0 (Below w.heap.size w wr)) (fun s5 _ => lenV s5)
          case atStart => exact ⟨L, c5, rfl, ⟨HR.out.heap rfl⟩, HC, HF, HF2, HCL, HSL, HLEN, ⟨(by repeat (first | (with_reducible first | exact HB.out | apply below_alloc | apply pw_below_drewN | apply below_drew1) | exact HB.out))⟩⟩
          case round =>
            clear HR HB HC HF HF2 HCL HSL HLEN HPL
            obtain ⟨L, c5, rfl, HR, HC, HF, HF2, HCL, HSL, HLEN, HB⟩ := hrel
            obtain ⟨r3, hr3⟩ : ∃ r3, ix [47, 46, 46, 47] L 0 = r3 := ⟨_, rfl⟩
            have HR3 := Aside0.mk hr3
            have HPL : Aside0 (L.length ≤ 4611686018427387) := ⟨Nat.le_trans HLEN.out HL.out⟩
            rcases SpA.ix_cases [47, 46, 46, 47] (by decide) L with ⟨hix, hno⟩ | ⟨a, b, hq, hix, hmin⟩
            · have b3 : decide (r3 < 0) = true := decide_eq_true (by omega)
              have HF3 : Aside0 (Free L) := ⟨⟨HF.out, HF2.out, fun a b e => hno a b (by rw [e]; simp)⟩⟩
              clear hix hno hr3
              obtain ⟨r5, hev5, hsuf, hnsuf, hb5⟩ := SpA.lastIdx L HPL.out
              have HEV5 := Aside0.mk hev5
              by_cases hx : ∃ x, L = x ++ [47, 46, 46]
              · obtain ⟨x, hx⟩ := hx
                have HX := Aside0.mk hx
                have hr5 := hsuf x hx
                have hxl : L.length = x.length + 3 := by rw [hx]; simp
                have hcq := HC.out
                have hpl := HPL.out
                have HPC : Aside0 (x.length ≤ c5) := ⟨by omega⟩
                have HPB : Aside0 (x.length ≤ 4611686018427387) := ⟨by omega⟩
                have b5 : decide (r5 ≥ 0) = true := decide_eq_true (by omega)
                have b5' : decide (0 ≤ r5) = true := decide_eq_true (by omega)
                have b6 : (wrap64 (r5 + 3) == (L.length : Int)) = true := beq_iff_eq.2 (by unfold wrap64; omega)
                have b7 : wrap64 (r5 + 3) = (L.length : Int) := beq_iff_eq.1 b6
                have HCUT5 := cutTo (P := Try.prog) Try.underlying63 HI.out (some ⟨g, 0, none⟩) L.length c5 x.length r5 hr5 (by omega) hcq
                rcases SpA.lastIB x 47 (by omega) with ⟨p', y, ha, hy, hev⟩ | ⟨ha, hev⟩
                · have hal : x.length = p'.length + (y.length + 1) := by rw [ha]; simp
                  obtain ⟨r6, hr6⟩ : ∃ r6 : Int, r6 = (p'.length : Int) := ⟨_, rfl⟩
                  rw [← hr6] at hev
                  have HEV6 := Aside0.mk hev
                  have b8 : decide (r6 < 0) = false := decide_eq_false (by omega)
                  obtain ⟨n7, hn7⟩ : ∃ n7, n7 = p'.length + 1 := ⟨_, rfl⟩
                  obtain ⟨x7, hx7⟩ : ∃ x7 : Int, x7 = (n7 : Int) := ⟨_, rfl⟩
                  have hw7 : wrap64 (r6 + 1) = x7 := by unfold wrap64; omega
                  have HCUT6 := cutTo (P := Try.prog) Try.underlying63 HI.out (some ⟨g, 0, none⟩) L.length c5 n7 x7 hx7 (by omega) hcq
                  have hrow : L = p' ++ 47 :: y ++ [47, 46, 46] := by rw [hx, ha]
                  have HCLN : Aside0 (cleanK l0 = p' ++ [47]) := ⟨by
                    rw [← HCL.out, hrow]
                    refine Cl.clean_end p' y (by rw [← hrow]; exact HF3.out) hy ?_
                    obtain ⟨t, ht⟩ := HSL.out
                    cases p' with
                    | nil => exact .inl rfl
                    | cons z p' => rw [hrow] at ht; exact .inr ⟨p', by rw [(List.cons.inj ht).1]⟩⟩
                  have HN7 : Aside0 (n7 = (cleanK l0).length) := ⟨by rw [HCLN.out]; simp; exact hn7⟩
                  have HROW : Aside0 (L = cleanK l0 ++ (y ++ [47, 46, 46])) := ⟨by rw [HCLN.out, hrow]; simp⟩
                  clear hev5 hsuf hnsuf hb5 hx hr5 hxl hcq hpl ha hy hev hal hr6 hn7 hx7 hrow
                  go_wp2_with (first | ((with_reducible refine gate_callee (f := 95) rfl ?_); refine goesL_ (some 74) rfl rfl Try.func95 (by kernel_rfl) rfl #[] rfl (by (try simp only [List.map_toArray, List.map_cons, List.map_nil]); first | done | rfl) ?_; refine (strSDDS_calls _).mono ?_; rintro e wq ⟨gSV, cSV, rfl, hcSV, hbS, hbel⟩; refine ⟨_, rfl, ?_⟩; have HSV := Aside0.mk hbS; have n0_ := Aside0.mk (BR.below2 HR.out hbel rfl); have n1_ := Aside0.mk (below_step (by repeat (first | (with_reducible first | exact HB.out | apply below_alloc | apply pw_below_drewN | apply below_drew1) | exact HB.out)) hbel); clear HR HB; have HR := n0_; have HB := n1_; clear n0_ n1_ hbS hbel) | ((with_reducible refine gate_callee (f := 92) rfl ?_); refine goesL_ (some 75) rfl rfl Try.func92 (by kernel_rfl) rfl #[.slice (some ⟨g, 0, none⟩) L.length c5, .slice (some ⟨gSV, 0, none⟩) 4 cSV] rfl (by (try simp only [List.map_toArray, List.map_cons, List.map_nil]); first | done | rfl) ?_; refine (zz0_calls (q := L) (sub := [47, 46, 46, 47]) r3 HR3.out (HR.out.heap rfl) HC.out (HSV.out.heap rfl) hcSV (by decide) HPL.out (by decide)).mono ?_; rintro e wq ⟨rfl, ⟨nd, rfl⟩⟩; refine ⟨_, rfl, ?_⟩) | ((with_reducible refine gate_callee (f := 98) rfl ?_); refine goesL_ (some 105) rfl rfl Try.func98 (by kernel_rfl) rfl #[] rfl (by (try simp only [List.map_toArray, List.map_cons, List.map_nil]); first | done | rfl) ?_; refine (strSDD_calls _).mono ?_; rintro e wq ⟨gSY, cSY, rfl, hcSY, hbS, hbel⟩; refine ⟨_, rfl, ?_⟩; have HSY := Aside0.mk hbS; have n0_ := Aside0.mk (BR.below2 HR.out hbel rfl); have n1_ := Aside0.mk (below_step (by repeat (first | (with_reducible first | exact HB.out | apply below_alloc | apply pw_below_drewN | apply below_drew1) | exact HB.out)) hbel); clear HR HB; have HR := n0_; have HB := n1_; clear n0_ n1_ hbS hbel) | ((with_reducible refine gate_callee (f := 97) rfl ?_); refine goesL_ (some 106) rfl rfl Try.func97 (by kernel_rfl) rfl #[.slice (some ⟨g, 0, none⟩) L.length c5, .slice (some ⟨gSY, 0, none⟩) 3 cSY] rfl (by (try simp only [List.map_toArray, List.map_cons, List.map_nil]); first | done | rfl) ?_; refine (lix_calls (p := L) r5 HEV5.out (HR.out.heap rfl) HC.out (HSY.out.heap rfl) hcSY HPL.out).mono ?_; rintro e wq ⟨rfl, ⟨nd, rfl⟩⟩; refine ⟨_, rfl, ?_⟩) | ((with_reducible refine gate_callee (f := 98) rfl ?_); (refine gate_guard (by kernel_rfl) ?_); refine goesL_ (some 111) rfl rfl Try.func98 (by kernel_rfl) rfl #[] rfl (by (try simp only [List.map_toArray, List.map_cons, List.map_nil]); first | done | rfl) ?_; refine (strSDD_calls _).mono ?_; rintro e wq ⟨gSZ, cSZ, rfl, hcSZ, hbS, hbel⟩; refine ⟨_, rfl, ?_⟩; have HSZ := Aside0.mk hbS; have n0_ := Aside0.mk (BR.below2 HR.out hbel rfl); have n1_ := Aside0.mk (below_step (by repeat (first | (with_reducible first | exact HB.out | apply below_alloc | apply pw_below_drewN | apply below_drew1) | exact HB.out)) hbel); clear HR HB; have HR := n0_; have HB := n1_; clear n0_ n1_ hbS hbel) | ((with_reducible refine gate_callee (f := 96) rfl ?_); refine goesL_ (some 121) rfl rfl Try.func96 (by kernel_rfl) rfl #[.slice (some ⟨g, 0, none⟩) x.length c5, .int .u8 47] rfl (by (try simp only [List.map_toArray, List.map_cons, List.map_nil]); first | done | rfl) ?_; refine (lib_calls (p := x) r6 HEV6.out (BR.pre (q := [47, 46, 46]) (by rw [← HX.out]; exact HR.out.heap rfl)) HPC.out HPB.out).mono ?_; rintro e wq ⟨rfl, ⟨nd, rfl⟩⟩; refine ⟨_, rfl, ?_⟩))
                  go_ret
                  exact ⟨g, c5, congrArg Ending.returned (congrArg (fun n => Value.slice (some ⟨g, 0, none⟩) n c5) HN7.out), BR.pre (q := y ++ [47, 46, 46]) (by rw [← HROW.out]; exact HR.out.heap rfl), (by repeat (first | (with_reducible first | exact HB.out | apply below_alloc | apply pw_below_drewN | apply below_drew1) | exact HB.out)), HG.out, (by have h1 := HC.out; have h2 := congrArg List.length HROW.out; simp only [List.length_append] at h2; omega)⟩
                · obtain ⟨t0, ht0⟩ := HSL.out
                  have ha0 : x = [] := no_slash_first x t0 L [47, 46, 46] hx ht0 ha
                  obtain ⟨r6, hr6⟩ : ∃ r6 : Int, r6 = -1 := ⟨_, rfl⟩
                  rw [← hr6] at hev
                  have HEV6 := Aside0.mk hev
                  have b8 : decide (r6 < 0) = true := decide_eq_true (by omega)
                  have HCLN : Aside0 (cleanK l0 = [47]) := ⟨by rw [← HCL.out, hx, ha0]; exact Cl.clean_end0⟩
                  clear hev5 hsuf hnsuf hb5 hx hr5 hxl hcq hpl ha hev hr6 ht0 ha0
                  go_wp2_with (first | ((with_reducible refine gate_callee (f := 95) rfl ?_); refine goesL_ (some 74) rfl rfl Try.func95 (by kernel_rfl) rfl #[] rfl (by (try simp only [List.map_toArray, List.map_cons, List.map_nil]); first | done | rfl) ?_; refine (strSDDS_calls _).mono ?_; rintro e wq ⟨gSV, cSV, rfl, hcSV, hbS, hbel⟩; refine ⟨_, rfl, ?_⟩; have HSV := Aside0.mk hbS; have n0_ := Aside0.mk (BR.below2 HR.out hbel rfl); have n1_ := Aside0.mk (below_step (by repeat (first | (with_reducible first | exact HB.out | apply below_alloc | apply pw_below_drewN | apply below_drew1) | exact HB.out)) hbel); clear HR HB; have HR := n0_; have HB := n1_; clear n0_ n1_ hbS hbel) | ((with_reducible refine gate_callee (f := 92) rfl ?_); refine goesL_ (some 75) rfl rfl Try.func92 (by kernel_rfl) rfl #[.slice (some ⟨g, 0, none⟩) L.length c5, .slice (some ⟨gSV, 0, none⟩) 4 cSV] rfl (by (try simp only [List.map_toArray, List.map_cons, List.map_nil]); first | done | rfl) ?_; refine (zz0_calls (q := L) (sub := [47, 46, 46, 47]) r3 HR3.out (HR.out.heap rfl) HC.out (HSV.out.heap rfl) hcSV (by decide) HPL.out (by decide)).mono ?_; rintro e wq ⟨rfl, ⟨nd, rfl⟩⟩; refine ⟨_, rfl, ?_⟩) | ((with_reducible refine gate_callee (f := 98) rfl ?_); refine goesL_ (some 105) rfl rfl Try.func98 (by kernel_rfl) rfl #[] rfl (by (try simp only [List.map_toArray, List.map_cons, List.map_nil]); first | done | rfl) ?_; refine (strSDD_calls _).mono ?_; rintro e wq ⟨gSY, cSY, rfl, hcSY, hbS, hbel⟩; refine ⟨_, rfl, ?_⟩; have HSY := Aside0.mk hbS; have n0_ := Aside0.mk (BR.below2 HR.out hbel rfl); have n1_ := Aside0.mk (below_step (by repeat (first | (with_reducible first | exact HB.out | apply below_alloc | apply pw_below_drewN | apply below_drew1) | exact HB.out)) hbel); clear HR HB; have HR := n0_; have HB := n1_; clear n0_ n1_ hbS hbel) | ((with_reducible refine gate_callee (f := 97) rfl ?_); refine goesL_ (some 106) rfl rfl Try.func97 (by kernel_rfl) rfl #[.slice (some ⟨g, 0, none⟩) L.length c5, .slice (some ⟨gSY, 0, none⟩) 3 cSY] rfl (by (try simp only [List.map_toArray, List.map_cons, List.map_nil]); first | done | rfl) ?_; refine (lix_calls (p := L) r5 HEV5.out (HR.out.heap rfl) HC.out (HSY.out.heap rfl) hcSY HPL.out).mono ?_; rintro e wq ⟨rfl, ⟨nd, rfl⟩⟩; refine ⟨_, rfl, ?_⟩) | ((with_reducible refine gate_callee (f := 98) rfl ?_); (refine gate_guard (by kernel_rfl) ?_); refine goesL_ (some 111) rfl rfl Try.func98 (by kernel_rfl) rfl #[] rfl (by (try simp only [List.map_toArray, List.map_cons, List.map_nil]); first | done | rfl) ?_; refine (strSDD_calls _).mono ?_; rintro e wq ⟨gSZ, cSZ, rfl, hcSZ, hbS, hbel⟩; refine ⟨_, rfl, ?_⟩; have HSZ := Aside0.mk hbS; have n0_ := Aside0.mk (BR.below2 HR.out hbel rfl); have n1_ := Aside0.mk (below_step (by repeat (first | (with_reducible first | exact HB.out | apply below_alloc | apply pw_below_drewN | apply below_drew1) | exact HB.out)) hbel); clear HR HB; have HR := n0_; have HB := n1_; clear n0_ n1_ hbS hbel) | ((with_reducible refine gate_callee (f := 96) rfl ?_); refine goesL_ (some 121) rfl rfl Try.func96 (by kernel_rfl) rfl #[.slice (some ⟨g, 0, none⟩) x.length c5, .int .u8 47] rfl (by (try simp only [List.map_toArray, List.map_cons, List.map_nil]); first | done | rfl) ?_; refine (lib_calls (p := x) r6 HEV6.out (BR.pre (q := [47, 46, 46]) (by rw [← HX.out]; exact HR.out.heap rfl)) HPC.out HPB.out).mono ?_; rintro e wq ⟨rfl, ⟨nd, rfl⟩⟩; refine ⟨_, rfl, ?_⟩) | ((with_reducible refine gate_callee (f := 99) rfl ?_); refine goesL_ (some 124) rfl rfl Try.func99 (by kernel_rfl) rfl #[] rfl (by (try simp only [List.map_toArray, List.map_cons, List.map_nil]); first | done | rfl) ?_; refine (strSlash_calls _).mono ?_; rintro e wq ⟨gSO, cSO, rfl, hcSO, hbS, hgSO, hbel⟩; refine ⟨_, rfl, ?_⟩; have HGSO : Aside0 (w.heap.size ≤ gSO) := ⟨(by have h1 := HB.out.size; have h2 : _ ≤ gSO := hgSO; exact Nat.le_trans h1 h2)⟩; clear hgSO; have HSO := Aside0.mk hbS; have n0_ := Aside0.mk (BR.below2 HR.out hbel rfl); have n1_ := Aside0.mk (below_step (by repeat (first | (with_reducible first | exact HB.out | apply below_alloc | apply pw_below_drewN | apply below_drew1) | exact HB.out)) hbel); clear HR HB; have HR := n0_; have HB := n1_; clear n0_ n1_ hbS hbel))
                  go_ret
                  rw [HCLN.out]
                  exact ⟨gSO, cSO, rfl, HSO.out.heap rfl, (by repeat (first | (with_reducible first | exact HB.out | apply below_alloc | apply pw_below_drewN | apply below_drew1) | exact HB.out)), HGSO.out, hcSO⟩
              · have hno : ∀ x, L ≠ x ++ [47, 46, 46] := fun x e => hx ⟨x, e⟩
                have HCLN : Aside0 (cleanK l0 = L) := ⟨by
                  obtain ⟨t, ht⟩ := HSL.out
                  rw [← HCL.out, ht]
                  exact Cl.clean_stays t (by rw [← ht]; exact HF3.out) (by rw [← ht]; exact hno)⟩
                have hpl := HPL.out
                by_cases h5 : 0 ≤ r5
                · have b5 : decide (r5 ≥ 0) = true := decide_eq_true h5
                  have b5' : decide (0 ≤ r5) = true := decide_eq_true h5
                  have hle5 : r5 ≤ 4611686018427387904 := by have := HPL.out; omega
                  have b7 : ¬ wrap64 (r5 + 3) = (L.length : Int) := by have := hnsuf hno; unfold wrap64; omega
                  have b6 : (wrap64 (r5 + 3) == (L.length : Int)) = false := beq_eq_false_iff_ne.2 b7
                  have b9 : (r5 + 3 == (L.length : Int)) = false := beq_eq_false_iff_ne.2 (by have := hnsuf hno; omega)
                  clear hle5 hev5 hsuf hnsuf hb5 hx hno hpl
                  go_wp2_with (first | ((with_reducible refine gate_callee (f := 95) rfl ?_); refine goesL_ (some 74) rfl rfl Try.func95 (by kernel_rfl) rfl #[] rfl (by (try simp only [List.map_toArray, List.map_cons, List.map_nil]); first | done | rfl) ?_; refine (strSDDS_calls _).mono ?_; rintro e wq ⟨gSV, cSV, rfl, hcSV, hbS, hbel⟩; refine ⟨_, rfl, ?_⟩; have HSV := Aside0.mk hbS; have n0_ := Aside0.mk (BR.below2 HR.out hbel rfl); have n1_ := Aside0.mk (below_step (by repeat (first | (with_reducible first | exact HB.out | apply below_alloc | apply pw_below_drewN | apply below_drew1) | exact HB.out)) hbel); clear HR HB; have HR := n0_; have HB := n1_; clear n0_ n1_ hbS hbel) | ((with_reducible refine gate_callee (f := 92) rfl ?_); refine goesL_ (some 75) rfl rfl Try.func92 (by kernel_rfl) rfl #[.slice (some ⟨g, 0, none⟩) L.length c5, .slice (some ⟨gSV, 0, none⟩) 4 cSV] rfl (by (try simp only [List.map_toArray, List.map_cons, List.map_nil]); first | done | rfl) ?_; refine (zz0_calls (q := L) (sub := [47, 46, 46, 47]) r3 HR3.out (HR.out.heap rfl) HC.out (HSV.out.heap rfl) hcSV (by decide) HPL.out (by decide)).mono ?_; rintro e wq ⟨rfl, ⟨nd, rfl⟩⟩; refine ⟨_, rfl, ?_⟩) | ((with_reducible refine gate_callee (f := 98) rfl ?_); refine goesL_ (some 105) rfl rfl Try.func98 (by kernel_rfl) rfl #[] rfl (by (try simp only [List.map_toArray, List.map_cons, List.map_nil]); first | done | rfl) ?_; refine (strSDD_calls _).mono ?_; rintro e wq ⟨gSY, cSY, rfl, hcSY, hbS, hbel⟩; refine ⟨_, rfl, ?_⟩; have HSY := Aside0.mk hbS; have n0_ := Aside0.mk (BR.below2 HR.out hbel rfl); have n1_ := Aside0.mk (below_step (by repeat (first | (with_reducible first | exact HB.out | apply below_alloc | apply pw_below_drewN | apply below_drew1) | exact HB.out)) hbel); clear HR HB; have HR := n0_; have HB := n1_; clear n0_ n1_ hbS hbel) | ((with_reducible refine gate_callee (f := 97) rfl ?_); refine goesL_ (some 106) rfl rfl Try.func97 (by kernel_rfl) rfl #[.slice (some ⟨g, 0, none⟩) L.length c5, .slice (some ⟨gSY, 0, none⟩) 3 cSY] rfl (by (try simp only [List.map_toArray, List.map_cons, List.map_nil]); first | done | rfl) ?_; refine (lix_calls (p := L) r5 HEV5.out (HR.out.heap rfl) HC.out (HSY.out.heap rfl) hcSY HPL.out).mono ?_; rintro e wq ⟨rfl, ⟨nd, rfl⟩⟩; refine ⟨_, rfl, ?_⟩) | ((with_reducible refine gate_callee (f := 98) rfl ?_); (refine gate_guard (by kernel_rfl) ?_); refine goesL_ (some 111) rfl rfl Try.func98 (by kernel_rfl) rfl #[] rfl (by (try simp only [List.map_toArray, List.map_cons, List.map_nil]); first | done | rfl) ?_; refine (strSDD_calls _).mono ?_; rintro e wq ⟨gSZ, cSZ, rfl, hcSZ, hbS, hbel⟩; refine ⟨_, rfl, ?_⟩; have HSZ := Aside0.mk hbS; have n0_ := Aside0.mk (BR.below2 HR.out hbel rfl); have n1_ := Aside0.mk (below_step (by repeat (first | (with_reducible first | exact HB.out | apply below_alloc | apply pw_below_drewN | apply below_drew1) | exact HB.out)) hbel); clear HR HB; have HR := n0_; have HB := n1_; clear n0_ n1_ hbS hbel))
                  go_ret
                  rw [HCLN.out]
                  exact ⟨g, c5, rfl, HR.out.heap rfl, (by repeat (first | (with_reducible first | exact HB.out | apply below_alloc | apply pw_below_drewN | apply below_drew1) | exact HB.out)), HG.out, HC.out⟩
                · have b5 : decide (r5 ≥ 0) = false := decide_eq_false h5
                  have b5' : decide (0 ≤ r5) = false := decide_eq_false h5
                  clear hev5 hsuf hnsuf hb5 hx hno hpl
                  go_wp2_with (first | ((with_reducible refine gate_callee (f := 95) rfl ?_); refine goesL_ (some 74) rfl rfl Try.func95 (by kernel_rfl) rfl #[] rfl (by (try simp only [List.map_toArray, List.map_cons, List.map_nil]); first | done | rfl) ?_; refine (strSDDS_calls _).mono ?_; rintro e wq ⟨gSV, cSV, rfl, hcSV, hbS, hbel⟩; refine ⟨_, rfl, ?_⟩; have HSV := Aside0.mk hbS; have n0_ := Aside0.mk (BR.below2 HR.out hbel rfl); have n1_ := Aside0.mk (below_step (by repeat (first | (with_reducible first | exact HB.out | apply below_alloc | apply pw_below_drewN | apply below_drew1) | exact HB.out)) hbel); clear HR HB; have HR := n0_; have HB := n1_; clear n0_ n1_ hbS hbel) | ((with_reducible refine gate_callee (f := 92) rfl ?_); refine goesL_ (some 75) rfl rfl Try.func92 (by kernel_rfl) rfl #[.slice (some ⟨g, 0, none⟩) L.length c5, .slice (some ⟨gSV, 0, none⟩) 4 cSV] rfl (by (try simp only [List.map_toArray, List.map_cons, List.map_nil]); first | done | rfl) ?_; refine (zz0_calls (q := L) (sub := [47, 46, 46, 47]) r3 HR3.out (HR.out.heap rfl) HC.out (HSV.out.heap rfl) hcSV (by decide) HPL.out (by decide)).mono ?_; rintro e wq ⟨rfl, ⟨nd, rfl⟩⟩; refine ⟨_, rfl, ?_⟩) | ((with_reducible refine gate_callee (f := 98) rfl ?_); refine goesL_ (some 105) rfl rfl Try.func98 (by kernel_rfl) rfl #[] rfl (by (try simp only [List.map_toArray, List.map_cons, List.map_nil]); first | done | rfl) ?_; refine (strSDD_calls _).mono ?_; rintro e wq ⟨gSY, cSY, rfl, hcSY, hbS, hbel⟩; refine ⟨_, rfl, ?_⟩; have HSY := Aside0.mk hbS; have n0_ := Aside0.mk (BR.below2 HR.out hbel rfl); have n1_ := Aside0.mk (below_step (by repeat (first | (with_reducible first | exact HB.out | apply below_alloc | apply pw_below_drewN | apply below_drew1) | exact HB.out)) hbel); clear HR HB; have HR := n0_; have HB := n1_; clear n0_ n1_ hbS hbel) | ((with_reducible refine gate_callee (f := 97) rfl ?_); refine goesL_ (some 106) rfl rfl Try.func97 (by kernel_rfl) rfl #[.slice (some ⟨g, 0, none⟩) L.length c5, .slice (some ⟨gSY, 0, none⟩) 3 cSY] rfl (by (try simp only [List.map_toArray, List.map_cons, List.map_nil]); first | done | rfl) ?_; refine (lix_calls (p := L) r5 HEV5.out (HR.out.heap rfl) HC.out (HSY.out.heap rfl) hcSY HPL.out).mono ?_; rintro e wq ⟨rfl, ⟨nd, rfl⟩⟩; refine ⟨_, rfl, ?_⟩))
                  go_ret
                  rw [HCLN.out]
                  exact ⟨g, c5, rfl, HR.out.heap rfl, (by repeat (first | (with_reducible first | exact HB.out | apply below_alloc | apply pw_below_drewN | apply below_drew1) | exact HB.out)), HG.out, HC.out⟩
            · have b3 : decide (r3 < 0) = false := decide_eq_false (by omega)
              rcases SpA.lastIB a 47 (by rw [hq] at HPL; have := HPL.out; simp at this; omega) with ⟨p', y, ha, hy, hev⟩ | ⟨ha, hev⟩
              · have hra : r3 = (a.length : Int) := by rw [← hr3, hix]
                have hql : L.length = a.length + (b.length + 4) := by rw [hq]; simp <;> omega
                have hcq := HC.out
                have hpl := HPL.out
                have HPC : Aside0 (a.length ≤ c5) := ⟨by omega⟩
                have HPB : Aside0 (a.length ≤ 4611686018427387) := ⟨by omega⟩
                have HCUT0 := cutTo (P := Try.prog) Try.underlying63 HI.out (some ⟨g, 0, none⟩) L.length c5 a.length r3 hra (by omega) hcq
                have hal : a.length = p'.length + (y.length + 1) := by rw [ha]; simp
                obtain ⟨r4, hr4⟩ : ∃ r4 : Int, r4 = (p'.length : Int) := ⟨_, rfl⟩
                rw [← hr4] at hev
                have HEV := Aside0.mk hev
                have b4 : decide (r4 < 0) = false := decide_eq_false (by omega)
                have hgood : Cl.good y := good_part L p' y b HF.out HF2.out (by rw [hq, ha]) (by rw [← ha]; exact hmin)
                have hrow : L = p' ++ (47 :: y ++ [47, 46, 46]) ++ (47 :: b) := by rw [hq, ha]; simp
                have HCL2 : Aside0 (cleanK (p' ++ 47 :: b) = cleanK l0) := ⟨by rw [← HCL.out, hrow]; have := Cl.clean_up p' y b hy hgood; simpa using this.symm⟩
                have HSL2 : Aside0 (∃ t, p' ++ 47 :: b = 47 :: t) := ⟨by obtain ⟨t, ht⟩ := HSL.out; exact slash_first p' b (y ++ [47, 46, 46] ++ 47 :: b) t (by rw [← ht, hrow]; simp)⟩
                have HF3 : Aside0 (∀ a' c', p' ++ 47 :: b ≠ a' ++ 47 :: 47 :: c') := ⟨Cl.shift_free2 p' (y ++ [47, 46, 46]) b (fun a' c' e => HF.out a' c' (by rw [← e, hrow] <;> simp))⟩
                have HF4 : Aside0 (∀ a' c', p' ++ 47 :: b ≠ a' ++ 47 :: 46 :: 47 :: c') := ⟨Cl.shift_free3 p' (y ++ [47, 46, 46]) b (fun a' c' e => HF2.out a' c' (by rw [← e, hrow] <;> simp))⟩
                obtain ⟨n9, hn9⟩ : ∃ n9 : Int, n9 = ((a.length + 3 : Nat) : Int) := ⟨_, rfl⟩
                have hw9 : wrap64 (r3 + 3) = n9 := by unfold wrap64; omega
                have hw43 : wrap64 3 = 3 := by unfold wrap64; omega
                obtain ⟨nd6, hnd6⟩ : ∃ n, n = L.length - p'.length := ⟨_, rfl⟩
                obtain ⟨ns6, hns6⟩ : ∃ n, n = b.length + 1 := ⟨_, rfl⟩
                obtain ⟨c6, hc6⟩ : ∃ c6, c6 = c5 - p'.length := ⟨_, rfl⟩
                obtain ⟨c7, hc7⟩ : ∃ c7, c7 = c5 - (a.length + 3) := ⟨_, rfl⟩
                obtain ⟨o7, ho7⟩ : ∃ o7, o7 = a.length + 3 := ⟨_, rfl⟩
                obtain ⟨n8, hn8⟩ : ∃ n8, n8 = p'.length + (b.length + 1) := ⟨_, rfl⟩
                have HCUT1 := cutFrom (P := Try.prog) Try.underlying63 HI.out HSZ.out g 0 L.length c5 p'.length p'.length nd6 c6 r4 hr4 (by omega) (by omega) (by omega) (by omega) hc6
                have HCUT2 := cutFrom (P := Try.prog) Try.underlying63 HI.out HSZ.out g 0 L.length c5 (a.length + 3) o7 ns6 c7 n9 hn9 (by omega) (by omega) (by omega) (by omega) hc7
                obtain ⟨x8, hx8⟩ : ∃ x8 : Int, x8 = (n8 : Int) := ⟨_, rfl⟩
                have hw8 : wrap64 (wrap64 ((L.length : Int) - n9) + r4) = x8 := by unfold wrap64; omega
                have HCUT3 := cutTo (P := Try.prog) Try.underlying63 HI.out (some ⟨g, 0, none⟩) L.length c5 n8 x8 hx8 (by omega) hcq
                have HROW := Aside0.mk hrow
                have HND : Aside0 (nd6 = (47 :: y ++ [47, 46, 46]).length + (47 :: b).length) := ⟨by simp; omega⟩
                have HNS := Aside0.mk hns6
                have HO7 : Aside0 (o7 = p'.length + (47 :: y ++ [47, 46, 46]).length) := ⟨by simp; omega⟩
                have HN8 := Aside0.mk hn8
                have HC8 : Aside0 (n8 ≤ c5 ∧ n8 < L.length ∧ n8 ≤ l0.length) := ⟨by have := HLEN.out; omega⟩
                have HQA := Aside0.mk hq
                clear hix hmin hr3 hql hcq hpl hc6 hc7 hx8 hrow hnd6 hns6 ho7 hn8 hq hra hn9 hal hr4 hev ha hy hgood
                go_wp2_with (first | ((with_reducible refine gate_callee (f := 95) rfl ?_); refine goesL_ (some 74) rfl rfl Try.func95 (by kernel_rfl) rfl #[] rfl (by (try simp only [List.map_toArray, List.map_cons, List.map_nil]); first | done | rfl) ?_; refine (strSDDS_calls _).mono ?_; rintro e wq ⟨gSV, cSV, rfl, hcSV, hbS, hbel⟩; refine ⟨_, rfl, ?_⟩; have HSV := Aside0.mk hbS; have n0_ := Aside0.mk (BR.below2 HR.out hbel rfl); have n1_ := Aside0.mk (below_step (by repeat (first | (with_reducible first | exact HB.out | apply below_alloc | apply pw_below_drewN | apply below_drew1) | exact HB.out)) hbel); clear HR HB; have HR := n0_; have HB := n1_; clear n0_ n1_ hbS hbel) | ((with_reducible refine gate_callee (f := 92) rfl ?_); refine goesL_ (some 75) rfl rfl Try.func92 (by kernel_rfl) rfl #[.slice (some ⟨g, 0, none⟩) L.length c5, .slice (some ⟨gSV, 0, none⟩) 4 cSV] rfl (by (try simp only [List.map_toArray, List.map_cons, List.map_nil]); first | done | rfl) ?_; refine (zz0_calls (q := L) (sub := [47, 46, 46, 47]) r3 HR3.out (HR.out.heap rfl) HC.out (HSV.out.heap rfl) hcSV (by decide) HPL.out (by decide)).mono ?_; rintro e wq ⟨rfl, ⟨nd, rfl⟩⟩; refine ⟨_, rfl, ?_⟩) | ((with_reducible refine gate_callee (f := 96) rfl ?_); refine goesL_ (some 81) rfl rfl Try.func96 (by kernel_rfl) rfl #[.slice (some ⟨g, 0, none⟩) a.length c5, .int .u8 47] rfl (by (try simp only [List.map_toArray, List.map_cons, List.map_nil]); first | done | rfl) ?_; refine (lib_calls (p := a) r4 HEV.out (BR.pre (q := [47, 46, 46, 47] ++ b) (by rw [← List.append_assoc, ← HQA.out]; exact HR.out.heap rfl)) HPC.out HPB.out).mono ?_; rintro e wq ⟨rfl, ⟨nd, rfl⟩⟩; refine ⟨_, rfl, ?_⟩) | ((with_reducible refine gate_callee (f := 95) rfl ?_); refine goesL_ (some 85) rfl rfl Try.func95 (by kernel_rfl) rfl #[] rfl (by (try simp only [List.map_toArray, List.map_cons, List.map_nil]); first | done | rfl) ?_; refine (strSDDS_calls _).mono ?_; rintro e wq ⟨gSX, cSX, rfl, hcSX, hbS, hbel⟩; refine ⟨_, rfl, ?_⟩; have HSX := Aside0.mk hbS; have n0_ := Aside0.mk (BR.below2 HR.out hbel rfl); have n1_ := Aside0.mk (below_step (by repeat (first | (with_reducible first | exact HB.out | apply below_alloc | apply pw_below_drewN | apply below_drew1) | exact HB.out)) hbel); clear HR HB; have HR := n0_; have HB := n1_; clear n0_ n1_ hbS hbel))
                go_still_tail 6, (by kernel_rfl)
                change wpList _ _ _ _ _ _
                ((with_reducible refine gate_builtin (b := .copy) (xs := #[.tmp 91, .tmp 94]) rfl ?_); refine shift_BR rfl (.tmp 91) (.tmp 94) 63 63 5 rfl Try.underlying63 (by rw [HI.out]; exact congrArg some HSZ.out) g c6 c7 (p') (47 :: y ++ [47, 46, 46]) (47 :: b) nd6 ns6 o7 HND.out (by rw [HNS.out]; simp) HO7.out rfl rfl (by rw [← HROW.out]; exact HR.out.heap rfl) w.heap.size HG.out ?_; intro w7 hbr hb; have n0_ := Aside0.mk (show Below w.heap.size w w7 from Below.trans (Below.drew HB.out) hb); clear HB HR; have HR := Aside0.mk hbr; have HB := n0_; clear n0_ hbr hb)
                go_wp2
                go_roundw
                case measure => exact HC8.out.2.1
                case rel => exact ⟨p' ++ 47 :: b, c5, by rw [HN8.out]; simp, HR, ⟨by have := HC8.out.1; rw [HN8.out] at this; simpa using this⟩, HF3, HF4, HCL2, HSL2, ⟨by have := HC8.out.2.2; rw [HN8.out] at this; simpa using this⟩, ⟨(by repeat (first | (with_reducible first | exact HB.out | apply below_alloc | apply pw_below_drewN | apply below_drew1) | exact HB.out))⟩⟩
              · have hra : r3 = (a.length : Int) := by rw [← hr3, hix]
                have hql : L.length = a.length + (b.length + 4) := by rw [hq]; simp <;> omega
                have hcq := HC.out
                have hpl := HPL.out
                have HPC : Aside0 (a.length ≤ c5) := ⟨by omega⟩
                have HPB : Aside0 (a.length ≤ 4611686018427387) := ⟨by omega⟩
                have HCUT0 := cutTo (P := Try.prog) Try.underlying63 HI.out (some ⟨g, 0, none⟩) L.length c5 a.length r3 hra (by omega) hcq
                obtain ⟨t0, ht0⟩ := HSL.out
                have ha0 : a = [] := no_slash_first a t0 L ([47, 46, 46, 47] ++ b) (by rw [hq]; simp) ht0 ha
                have hal : a.length = 0 := by rw [ha0]; rfl
                obtain ⟨r4, hr4⟩ : ∃ r4 : Int, r4 = -1 := ⟨_, rfl⟩
                rw [← hr4] at hev
                have HEV := Aside0.mk hev
                have b4 : decide (r4 < 0) = true := decide_eq_true (by omega)
                have hrow : L = [] ++ [47, 46, 46] ++ (47 :: b) := by rw [hq, ha0]; simp
                have HCL2 : Aside0 (cleanK ([] ++ 47 :: b) = cleanK l0) := ⟨by rw [← HCL.out, hrow]; have := Cl.clean_up0 b; simpa using this.symm⟩
                have HSL2 : Aside0 (∃ t, [] ++ 47 :: b = 47 :: t) := ⟨b, rfl⟩
                have HF3 : Aside0 (∀ a' c', [] ++ 47 :: b ≠ a' ++ 47 :: 47 :: c') := ⟨Cl.shift_free2 [] [46, 46] b (fun a' c' e => HF.out a' c' (by rw [← e, hrow] <;> simp))⟩
                have HF4 : Aside0 (∀ a' c', [] ++ 47 :: b ≠ a' ++ 47 :: 46 :: 47 :: c') := ⟨Cl.shift_free3 [] [46, 46] b (fun a' c' e => HF2.out a' c' (by rw [← e, hrow] <;> simp))⟩
                obtain ⟨n9, hn9⟩ : ∃ n9 : Int, n9 = ((a.length + 3 : Nat) : Int) := ⟨_, rfl⟩
                have hw9 : wrap64 (r3 + 3) = n9 := by unfold wrap64; omega
                have hw43 : wrap64 3 = 3 := by unfold wrap64; omega
                obtain ⟨nd6, hnd6⟩ : ∃ n, n = L.length - 0 := ⟨_, rfl⟩
                obtain ⟨ns6, hns6⟩ : ∃ n, n = b.length + 1 := ⟨_, rfl⟩
                obtain ⟨c6, hc6⟩ : ∃ c6, c6 = c5 - 0 := ⟨_, rfl⟩
                obtain ⟨c7, hc7⟩ : ∃ c7, c7 = c5 - (a.length + 3) := ⟨_, rfl⟩
                obtain ⟨o7, ho7⟩ : ∃ o7, o7 = a.length + 3 := ⟨_, rfl⟩
                obtain ⟨n8, hn8⟩ : ∃ n8, n8 = 0 + (b.length + 1) := ⟨_, rfl⟩
                have HCUT1 := cutFrom (P := Try.prog) Try.underlying63 HI.out HSZ.out g 0 L.length c5 0 0 nd6 c6 (0 : Int) rfl (by omega) (by omega) (by omega) (by omega) hc6
                have HCUT2 := cutFrom (P := Try.prog) Try.underlying63 HI.out HSZ.out g 0 L.length c5 (a.length + 3) o7 ns6 c7 n9 hn9 (by omega) (by omega) (by omega) (by omega) hc7
                obtain ⟨x8, hx8⟩ : ∃ x8 : Int, x8 = (n8 : Int) := ⟨_, rfl⟩
                have hw8 : wrap64 ((L.length : Int) - n9) = x8 := by unfold wrap64; omega
                have hw8a : wrap64 (x8 + 0) = x8 := by unfold wrap64; omega
                have hw8b : wrap64 x8 = x8 := by unfold wrap64; omega
                have HCUT3 := cutTo (P := Try.prog) Try.underlying63 HI.out (some ⟨g, 0, none⟩) L.length c5 n8 x8 hx8 (by omega) hcq
                have HROW := Aside0.mk hrow
                have HND : Aside0 (nd6 = ([47, 46, 46]).length + (47 :: b).length) := ⟨by simp; omega⟩
                have HNS := Aside0.mk hns6
                have HO7 : Aside0 (o7 = 0 + ([47, 46, 46]).length) := ⟨by simp; omega⟩
                have HN8 := Aside0.mk hn8
                have HC8 : Aside0 (n8 ≤ c5 ∧ n8 < L.length ∧ n8 ≤ l0.length) := ⟨by have := HLEN.out; omega⟩
                have HQA := Aside0.mk hq
                clear hix hmin hr3 hql hcq hpl hc6 hc7 hx8 hrow hnd6 hns6 ho7 hn8 hq hra hn9 hal hr4 hev ha ha0 ht0
                go_wp2_with (first | ((with_reducible refine gate_callee (f := 95) rfl ?_); refine goesL_ (some 74) rfl rfl Try.func95 (by kernel_rfl) rfl #[] rfl (by (try simp only [List.map_toArray, List.map_cons, List.map_nil]); first | done | rfl) ?_; refine (strSDDS_calls _).mono ?_; rintro e wq ⟨gSV, cSV, rfl, hcSV, hbS, hbel⟩; refine ⟨_, rfl, ?_⟩; have HSV := Aside0.mk hbS; have n0_ := Aside0.mk (BR.below2 HR.out hbel rfl); have n1_ := Aside0.mk (below_step (by repeat (first | (with_reducible first | exact HB.out | apply below_alloc | apply pw_below_drewN | apply below_drew1) | exact HB.out)) hbel); clear HR HB; have HR := n0_; have HB := n1_; clear n0_ n1_ hbS hbel) | ((with_reducible refine gate_callee (f := 92) rfl ?_); refine goesL_ (some 75) rfl rfl Try.func92 (by kernel_rfl) rfl #[.slice (some ⟨g, 0, none⟩) L.length c5, .slice (some ⟨gSV, 0, none⟩) 4 cSV] rfl (by (try simp only [List.map_toArray, List.map_cons, List.map_nil]); first | done | rfl) ?_; refine (zz0_calls (q := L) (sub := [47, 46, 46, 47]) r3 HR3.out (HR.out.heap rfl) HC.out (HSV.out.heap rfl) hcSV (by decide) HPL.out (by decide)).mono ?_; rintro e wq ⟨rfl, ⟨nd, rfl⟩⟩; refine ⟨_, rfl, ?_⟩) | ((with_reducible refine gate_callee (f := 96) rfl ?_); refine goesL_ (some 81) rfl rfl Try.func96 (by kernel_rfl) rfl #[.slice (some ⟨g, 0, none⟩) a.length c5, .int .u8 47] rfl (by (try simp only [List.map_toArray, List.map_cons, List.map_nil]); first | done | rfl) ?_; refine (lib_calls (p := a) r4 HEV.out (BR.pre (q := [47, 46, 46, 47] ++ b) (by rw [← List.append_assoc, ← HQA.out]; exact HR.out.heap rfl)) HPC.out HPB.out).mono ?_; rintro e wq ⟨rfl, ⟨nd, rfl⟩⟩; refine ⟨_, rfl, ?_⟩) | ((with_reducible refine gate_callee (f := 95) rfl ?_); refine goesL_ (some 85) rfl rfl Try.func95 (by kernel_rfl) rfl #[] rfl (by (try simp only [List.map_toArray, List.map_cons, List.map_nil]); first | done | rfl) ?_; refine (strSDDS_calls _).mono ?_; rintro e wq ⟨gSX, cSX, rfl, hcSX, hbS, hbel⟩; refine ⟨_, rfl, ?_⟩; have HSX := Aside0.mk hbS; have n0_ := Aside0.mk (BR.below2 HR.out hbel rfl); have n1_ := Aside0.mk (below_step (by repeat (first | (with_reducible first | exact HB.out | apply below_alloc | apply pw_below_drewN | apply below_drew1) | exact HB.out)) hbel); clear HR HB; have HR := n0_; have HB := n1_; clear n0_ n1_ hbS hbel))
                go_still_tail 6, (by kernel_rfl)
                change wpList _ _ _ _ _ _
                ((with_reducible refine gate_builtin (b := .copy) (xs := #[.tmp 91, .tmp 94]) rfl ?_); refine shift_BR rfl (.tmp 91) (.tmp 94) 63 63 5 rfl Try.underlying63 (by rw [HI.out]; exact congrArg some HSZ.out) g c6 c7 (([] : List UInt8)) ([47, 46, 46]) (47 :: b) nd6 ns6 o7 HND.out (by rw [HNS.out]; simp) HO7.out rfl rfl (by rw [← HROW.out]; exact HR.out.heap rfl) w.heap.size HG.out ?_; intro w7 hbr hb; have n0_ := Aside0.mk (show Below w.heap.size w w7 from Below.trans (Below.drew HB.out) hb); clear HB HR; have HR := Aside0.mk hbr; have HB := n0_; clear n0_ hbr hb)
                go_wp2
                go_roundw
                case measure => exact HC8.out.2.1
                case rel => exact ⟨([] : List UInt8) ++ 47 :: b, c5, by rw [HN8.out]; simp, HR, ⟨by have := HC8.out.1; rw [HN8.out] at this; simpa using this⟩, HF3, HF4, HCL2, HSL2, ⟨by have := HC8.out.2.2; rw [HN8.out] at this; simpa using this⟩, ⟨(by repeat (first | (with_reducible first | exact HB.out | apply below_alloc | apply pw_below_drewN | apply below_drew1) | exact HB.out))⟩⟩
        · have b2 : decide (r2 < 0) = false := decide_eq_false (by omega)
          have hra : r2 = (a.length : Int) := by rw [← hr2, hix]
          have hql : L.length = a.length + (b.length + 3) := by rw [hq]; simp <;> omega
          have hcq := HC.out
          have hpl := HPL.out
          obtain ⟨n9, hn9⟩ : ∃ n9 : Int, n9 = ((a.length + 2 : Nat) : Int) := ⟨_, rfl⟩
          have hw9 : wrap64 (wrap64 (r2 + 3) - 1) = n9 := by unfold wrap64; omega
          obtain ⟨nd6, hnd6⟩ : ∃ n, n = b.length + 3 := ⟨_, rfl⟩
          obtain ⟨ns6, hns6⟩ : ∃ n, n = b.length + 1 := ⟨_, rfl⟩
          obtain ⟨c6, hc6⟩ : ∃ c6, c6 = c5 - a.length := ⟨_, rfl⟩
          obtain ⟨c7, hc7⟩ : ∃ c7, c7 = c5 - (a.length + 2) := ⟨_, rfl⟩
          obtain ⟨o7, ho7⟩ : ∃ o7, o7 = a.length + 2 := ⟨_, rfl⟩
          obtain ⟨n8, hn8⟩ : ∃ n8, n8 = a.length + (b.length + 1) := ⟨_, rfl⟩
          have HCUT1 := cutFrom (P := Try.prog) Try.underlying63 HI.out HSZ.out g 0 L.length c5 a.length a.length nd6 c6 r2 hra (by omega) (by omega) (by omega) (by omega) hc6
          have HCUT2 := cutFrom (P := Try.prog) Try.underlying63 HI.out HSZ.out g 0 L.length c5 (a.length + 2) o7 ns6 c7 n9 hn9 (by omega) (by omega) (by omega) (by omega) hc7
          obtain ⟨x8, hx8⟩ : ∃ x8 : Int, x8 = (n8 : Int) := ⟨_, rfl⟩
          have hw8 : wrap64 (wrap64 ((L.length : Int) - n9) + r2) = x8 := by unfold wrap64; omega
          have HCUT3 := cutTo (P := Try.prog) Try.underlying63 HI.out (some ⟨g, 0, none⟩) L.length c5 n8 x8 hx8 (by omega) hcq
          have hrow : L = a ++ [47, 46] ++ (47 :: b) := by rw [hq]; simp
          have HROW := Aside0.mk hrow
          have HND := Aside0.mk hnd6
          have HNS := Aside0.mk hns6
          have HO7 := Aside0.mk ho7
          have HN8 := Aside0.mk hn8
          have HC8 : Aside0 (n8 ≤ c5 ∧ n8 < L.length ∧ n8 ≤ l0.length) := ⟨by have := HLEN.out; omega⟩
          have HF3 : Aside0 (∀ a' c', a ++ 47 :: b ≠ a' ++ 47 :: 47 :: c') := ⟨Cl.shift_free2 a [46] b (fun a' c' e => HF.out a' c' (by rw [← e, hrow] <;> simp))⟩
          have HSL2 : Aside0 (∃ t, a ++ 47 :: b = 47 :: t) := ⟨by obtain ⟨t, ht⟩ := HSL.out; exact slash_first a b (46 :: 47 :: b) t (by rw [← ht, hrow]; simp)⟩
          have HCL2 : Aside0 (cleanK (a ++ 47 :: b) = cleanK l0) := ⟨by rw [← HCL.out, hrow]; have := Cl.clean_dot a b; simpa using this.symm⟩
          clear hix hmin hr2 hql hcq hpl hc6 hc7 hx8 hrow hnd6 hns6 ho7 hn8 hq hra hn9
          go_wp2_with (first | ((with_reducible refine gate_callee (f := 94) rfl ?_); refine goesL_ (some 49) rfl rfl Try.func94 (by kernel_rfl) rfl #[] rfl (by (try simp only [List.map_toArray, List.map_cons, List.map_nil]); first | done | rfl) ?_; refine (strSDS_calls _).mono ?_; rintro e wq ⟨gST, cST, rfl, hcST, hbS, hbel⟩; refine ⟨_, rfl, ?_⟩; have HST := Aside0.mk hbS; have n0_ := Aside0.mk (BR.below2 HR.out hbel rfl); have n1_ := Aside0.mk (below_step (by repeat (first | (with_reducible first | exact HB.out | apply below_alloc | apply pw_below_drewN | apply below_drew1) | exact HB.out)) hbel); clear HR HB; have HR := n0_; have HB := n1_; clear n0_ n1_ hbS hbel) | ((with_reducible refine gate_callee (f := 92) rfl ?_); refine goesL_ (some 50) rfl rfl Try.func92 (by kernel_rfl) rfl #[.slice (some ⟨g, 0, none⟩) L.length c5, .slice (some ⟨gST, 0, none⟩) 3 cST] rfl (by (try simp only [List.map_toArray, List.map_cons, List.map_nil]); first | done | rfl) ?_; refine (zz0_calls (q := L) (sub := [47, 46, 47]) r2 HR2.out (HR.out.heap rfl) HC.out (HST.out.heap rfl) hcST (by decide) HPL.out (by decide)).mono ?_; rintro e wq ⟨rfl, ⟨nd, rfl⟩⟩; refine ⟨_, rfl, ?_⟩) | ((with_reducible refine gate_callee (f := 94) rfl ?_); refine goesL_ (some 54) rfl rfl Try.func94 (by kernel_rfl) rfl #[] rfl (by (try simp only [List.map_toArray, List.map_cons, List.map_nil]); first | done | rfl) ?_; refine (strSDS_calls _).mono ?_; rintro e wq ⟨gSU, cSU, rfl, hcSU, hbS, hbel⟩; refine ⟨_, rfl, ?_⟩; have HSU := Aside0.mk hbS; have n0_ := Aside0.mk (BR.below2 HR.out hbel rfl); have n1_ := Aside0.mk (below_step (by repeat (first | (with_reducible first | exact HB.out | apply below_alloc | apply pw_below_drewN | apply below_drew1) | exact HB.out)) hbel); clear HR HB; have HR := n0_; have HB := n1_; clear n0_ n1_ hbS hbel))
          go_still_tail 6, (by kernel_rfl)
          change wpList _ _ _ _ _ _
          ((with_reducible refine gate_builtin (b := .copy) (xs := #[.tmp 60, .tmp 63]) rfl ?_); refine shift_BR rfl (.tmp 60) (.tmp 63) 63 63 5 rfl Try.underlying63 (by rw [HI.out]; exact congrArg some HSZ.out) g c6 c7 (a) ([47, 46]) (47 :: b) nd6 ns6 o7 (by rw [HND.out]; simp; omega) (by rw [HNS.out]; simp) (by rw [HO7.out]; simp) rfl rfl (by rw [← HROW.out]; exact HR.out.heap rfl) w.heap.size HG.out ?_; intro w7 hbr hb; have n0_ := Aside0.mk (show Below w.heap.size w w7 from Below.trans (Below.drew HB.out) hb); clear HB HR; have HR := Aside0.mk hbr; have HB := n0_; clear n0_ hbr hb)
          go_wp2
          go_roundw
          case measure => exact HC8.out.2.1
          case rel => exact ⟨a ++ 47 :: b, c5, by rw [HN8.out]; simp, HR, ⟨by have := HC8.out.1; rw [HN8.out] at this; simpa using this⟩, HF3, HCL2, HSL2, ⟨by have := HC8.out.2.2; rw [HN8.out] at this; simpa using this⟩, ⟨(by repeat (first | (with_reducible first | exact HB.out | apply below_alloc | apply pw_below_drewN | apply below_drew1) | exact HB.out))⟩⟩
    · have b1 : decide (r1 < 0) = false := decide_eq_false (by omega)
      have hra : r1 = (a.length : Int) := by rw [← hr1, hix]
      have hql : q.length = a.length + (b.length + 2) := by rw [hq]; simp <;> omega
      obtain ⟨c6, hc6⟩ : ∃ c6, c6 = c5 - a.length := ⟨_, rfl⟩
      obtain ⟨c7, hc7⟩ : ∃ c7, c7 = c6 - 1 := ⟨_, rfl⟩
      have hcq := HC.out
      obtain ⟨o6, ho6⟩ : ∃ o6, o6 = (p ++ a).length := ⟨_, rfl⟩
      obtain ⟨n6, hn6⟩ : ∃ n6, n6 = b.length + 2 := ⟨_, rfl⟩
      obtain ⟨n7, hn7⟩ : ∃ n7, n7 = b.length + 1 := ⟨_, rfl⟩
      have HCUT1 := cutFrom (P := Try.prog) Try.underlying63 HI.out HSZ.out g p.length q.length c5 a.length o6 n6 c6 r1 hra (by omega) (by omega) (by rw [ho6]; simp) (by omega) hc6
      have HCUT2 := cutFrom (P := Try.prog) Try.underlying63 HI.out HSZ.out g o6 n6 c6 1 (o6 + 1) n7 c7 1 rfl (by omega) (by omega) rfl (by omega) hc7
      have hw7 : wrap64 ((n6 : Int) - 1) = ((n7 : Nat) : Int) := by unfold wrap64; simp at HPL; have := HPL.out; omega
      obtain ⟨x7, hx7⟩ : ∃ x7 : Int, x7 = (n7 : Int) := ⟨_, rfl⟩
      rw [← hx7] at hw7
      have HCUT3 := cutTo (P := Try.prog) Try.underlying63 HI.out (some ⟨g, o6, none⟩) n6 c6 n7 x7 hx7 (by omega) (by omega)
      have HZW : Aside0 (wrap64 (z6 - 1) = (((p ++ a).length + (47 :: b).length : Nat) : Int)) := ⟨by have h1 := HZ6.out; have h2 := HPL.out; simp at h2 ⊢; unfold wrap64; omega⟩
      have HZM : Aside0 ((wrap64 (z6 - 1)).toNat < z6.toNat) := ⟨by have h1 := HZ6.out; rw [HZW.out]; simp; omega⟩
      have hrow : p ++ q = (p ++ a) ++ [47] ++ (47 :: b) := by rw [hq]; simp
      have HROW := Aside0.mk hrow
      have HO6 := Aside0.mk ho6
      have HN7 := Aside0.mk hn7
      have HN6 := Aside0.mk hn6
      have HQ := Aside0.mk hq
      have HC7 : Aside0 (n7 ≤ c6) := ⟨by omega⟩
      have HINV2 := Aside0.mk (SpA.dup_next p q a b hq hmin HINV.out)
      clear hix hmin hr1 hql hc6 hc7 hcq hx7 hrow ho6 hn6 hn7 hq hra
      go_wp2_with (first | ((with_reducible refine gate_callee (f := 93) rfl ?_); refine goesL_ (some 26) rfl rfl Try.func93 (by kernel_rfl) rfl #[] rfl (by (try simp only [List.map_toArray, List.map_cons, List.map_nil]); first | done | rfl) ?_; refine (strSS_calls _).mono ?_; rintro e wq ⟨gSS, cSS, rfl, hcSS, hbS, hbel⟩; refine ⟨_, rfl, ?_⟩; have HSS := Aside0.mk hbS; have n0_ := Aside0.mk (BR.below2 HR.out hbel rfl); have n1_ := Aside0.mk (below_step (by repeat (first | (with_reducible first | exact HB.out | apply below_alloc | apply pw_below_drewN | apply below_drew1) | exact HB.out)) hbel); clear HR HB; have HR := n0_; have HB := n1_; clear n0_ n1_ hbS hbel) | ((with_reducible refine gate_callee (f := 92) rfl ?_); refine goesL_ (some 27) rfl rfl Try.func92 (by kernel_rfl) rfl #[.slice (some ⟨g, p.length, none⟩) q.length c5, .slice (some ⟨gSS, 0, none⟩) 2 cSS] rfl (by (try simp only [List.map_toArray, List.map_cons, List.map_nil]); first | done | rfl) ?_; refine (zz_calls (p := p) (q := q) (sub := [47, 47]) r1 HR1.out (HR.out.heap rfl) HC.out (HSS.out.heap rfl) hcSS (by decide) HPL.out (by decide)).mono ?_; rintro e wq ⟨rfl, ⟨nd, rfl⟩⟩; refine ⟨_, rfl, ?_⟩) | ((with_reducible refine gate_builtin (b := .copy) (xs := #[.tmp 33, .tmp 35]) rfl ?_); refine shift_BR rfl (.tmp 33) (.tmp 35) 63 63 5 rfl Try.underlying63 (by rw [HI.out]; exact congrArg some HSZ.out) g c6 c7 (p ++ a) [47] (47 :: b) n6 n7 (o6 + 1) (by rw [HN6.out]; simp; omega) (by rw [HN7.out]; simp) (by rw [HO6.out]; simp) (by rw [← HO6.out]; rfl) rfl (by rw [← HROW.out]; exact HR.out.heap rfl) w.heap.size HG.out ?_; intro w7 hbr hb; have n0_ := Aside0.mk (Below.trans (by repeat (first | (with_reducible first | exact HB.out | apply below_alloc | apply pw_below_drewN | apply below_drew1) | exact HB.out)) hb); clear HB HR; have HR := Aside0.mk hbr; have HB := n0_; clear n0_ hbr hb))
      go_roundw
      case measure => exact HZM.out
      case rel => exact ⟨p ++ a, 47 :: b, c6, by rw [HO6.out, HN7.out]; rfl, congrArg (Value.int .i64) HZW.out, HR, ⟨by have := HC7.out; have := HN7.out; simp; omega⟩, HINV2, ⟨by rw [← HCL.out, HROW.out]; simp only [List.append_assoc, List.singleton_append]; rw [← List.append_assoc, ← List.append_assoc]; exact (Cl.clean_dup (p ++ a) b).symm⟩, ⟨by obtain ⟨t, ht⟩ := HSL.out; rw [HROW.out] at ht; cases hpa : p ++ a with | nil => exact ⟨b, by simp⟩ | cons x y => rw [hpa] at ht; simp at ht; exact ⟨y ++ 47 :: b, by rw [ht.1]; simp⟩⟩, ⟨by have h1 := HLEN.out; rw [HROW.out] at h1; simp at h1 ⊢; omega⟩, ⟨(by repeat (first | (with_reducible first | exact HB.out | apply below_alloc | apply pw_below_drewN | apply below_drew1) | exact HB.out))⟩⟩
end Go.Proofs.Ytfbllodbcmcndaa.Q
end
section
namespace Go.Proofs.Ytfbllodbcmcndaa.SpA
open Go.RowKit Go.Proofs.Ytfbllodbcmcndaa.Q Go.Proofs.YtfbllodbcmcndaaW.PrintWords Go.Proofs.YtfbllodbcmcndaaW.PrintLast Go.Proofs.YtfbllodbcmcndaaKit
def hx (c : UInt8) : Int := bt tab1 (c.toNat : Int)
def hx2 (x y : UInt8) : UInt8 := (Go.bits .or .u8 ((hx x * 16) % 256) (hx y)).toNat.toUInt8
def dec : List UInt8 → List UInt8
  | [] => []
  | [c] => [c]
  | [c, d] => [c, d]
  | c :: x :: y :: r => if c = 37 then (if hx x = 16 ∨ hx y = 16 then 37 :: dec (x :: y :: r) else hx2 x y :: dec r) else c :: dec (x :: y :: r)
termination_by l => l.length
theorem dec_plain (c : UInt8) (hc : c ≠ 37) : ∀ t, dec (c :: t) = c :: dec t
  | [] => by simp [dec]
  | [d] => by simp [dec]
  | x :: y :: r => by rw [dec, if_neg hc]
theorem dec_short (l : List UInt8) (h : l.length ≤ 2) : dec l = l := by
  match l, h with
  | [], _ => simp [dec]
  | [c], _ => simp [dec]
  | [c, d], _ => simp [dec]
theorem dec_none : ∀ (l : List UInt8), (37 : UInt8) ∉ l → dec l = l
  | [], _ => by simp [dec]
  | c :: t, h => by
    rw [dec_plain c (fun e => h (by simp [e])), dec_none t (fun e => h (by simp [e]))]
theorem tab_size : (tab1.size : Int) = 256 := by decide +kernel
theorem hx_all : ∀ c : Fin 256, 0 ≤ bt tab1 ((c : Nat) : Int) ∧ bt tab1 ((c : Nat) : Int) ≤ 16 := by decide +kernel
theorem hx_range (c : UInt8) : 0 ≤ hx c ∧ hx c ≤ 16 := hx_all ⟨c.toNat, c.toNat_lt⟩
set_option maxRecDepth 100000 in
set_option maxHeartbeats 4000000 in
theorem bits_all : ∀ a b : Fin 17, ((Go.bits .or .u8 (((a.val : Int) * 16) % 256) (b.val : Int)).toNat.toUInt8.toNat : Int) = Go.bits .or .u8 (((a.val : Int) * 16) % 256) (b.val : Int) := by decide +kernel
theorem hx2_toI (x y : UInt8) : ((hx2 x y).toNat : Int) = Go.bits .or .u8 ((hx x * 16) % 256) (hx y) := by
  have h1 := hx_range x
  have h2 := hx_range y
  have h := bits_all ⟨(hx x).toNat, by omega⟩ ⟨(hx y).toNat, by omega⟩
  simp only [show (((hx x).toNat : Nat) : Int) = hx x by omega, show (((hx y).toNat : Nat) : Int) = hx y by omega] at h
  exact h
theorem dec_len : ∀ (n : Nat) (l : List UInt8), l.length ≤ n → (dec l).length ≤ l.length
  | 0, l, h => by
    have : l = [] := List.length_eq_zero_iff.1 (by omega)
    subst this
    simp [dec]
  | n + 1, l, h => by
    match l, h with
    | [], _ => simp [dec]
    | [c], _ => simp [dec]
    | [c, d], _ => simp [dec]
    | c :: x :: y :: r, h =>
      have h1 := dec_len n (x :: y :: r) (by simp at h ⊢; omega)
      have h2 := dec_len n r (by simp at h ⊢; omega)
      rw [dec]
      simp only [List.length_cons] at h1 ⊢
      split
      · split
        · simp only [List.length_cons]; omega
        · simp only [List.length_cons]; omega
      · simp only [List.length_cons]; omega
theorem toI_snoc (a : List UInt8) (c : UInt8) : toI a ++ [(c.toNat : Int)] = toI (a ++ [c]) := by simp [toI]
theorem rd_at {l pre t : List UInt8} {c : UInt8} (h : l = pre ++ c :: t) (x : Int) (hx : x = (pre.length : Int)) : rd (toI l) x = (c.toNat : Int) := by rw [hx]; exact rd_mid h
theorem byte_lt (c : UInt8) : (c.toNat : Int) < 256 := by have := c.toNat_lt; omega
theorem dec_l (s : List UInt8) (hs : s.length ≤ 2147483647) : ∀ (n : Nat) (pre suf acc : List UInt8), suf.length ≤ n → s = pre ++ suf → acc.length + suf.length < 140737488355328 →
    Ev (fun k => hertzproto_decodeArgAppendNoPlus.l0 k (toI acc) (toI s) (pre.length : Int)) (toI (acc ++ dec suf)) := by
  intro n
  induction n with
  | zero =>
    intro pre suf acc hn e hacc
    have : suf = [] := List.length_eq_zero_iff.1 (by omega)
    subst this
    refine Ev.step (f := fun _ => some (toI acc)) (fun k => ?_) (by rw [show acc ++ dec [] = acc by simp [dec]]; exact Ev.now _)
    simp only [hertzproto_decodeArgAppendNoPlus.l0, toI_length]
    rw [if_neg (by rw [e]; simp)]
  | succ n ih =>
    intro pre suf acc hn e hacc
    cases suf with
    | nil =>
      refine Ev.step (f := fun _ => some (toI acc)) (fun k => ?_) (by rw [show acc ++ dec [] = acc by simp [dec]]; exact Ev.now _)
      simp only [hertzproto_decodeArgAppendNoPlus.l0, toI_length]
      rw [if_neg (by rw [e]; simp)]
    | cons c t =>
      have hsl : s.length = pre.length + (t.length + 1) := by rw [e]; simp
      simp only [List.length_cons] at hn hacc
      have g0 : (pre.length : Int) < (s.length : Int) := by omega
      have g1 : (0 : Int) ≤ (pre.length : Int) := by omega
      have hrd : rd (toI s) (pre.length : Int) = (c.toNat : Int) := rd_mid e
      have w1 : wrap64 ((pre.length : Int) + 1) = ((pre ++ [c]).length : Int) := by rw [wrap_id (by omega) (by omega)]; simp
      have w2 : wrap64 ((pre.length : Int) + 2) = (pre.length : Int) + 2 := wrap_id (by omega) (by omega)
      have hal : (acc.length : Nat) < 140737488355328 := by omega
      by_cases hc : c = 37
      · have hc' : (c.toNat : Int) = 37 := by rw [hc]; rfl
        match t, hn, hacc, e, hsl with
        | [], hn, hacc, e, hsl =>
          refine Ev.step (f := fun _ => some (toI (acc ++ dec [c]))) (fun k => ?_) (Ev.now _)
          simp only [hertzproto_decodeArgAppendNoPlus.l0, toI_length]
          rw [if_pos g0, if_pos g1, hrd, if_pos hc', w2, if_pos (by simp at hsl ⊢; omega), if_pos (by omega), Int.toNat_natCast, toI_drop, e, List.drop_left, dec_short [c] (by simp), Option.bind_some, toI_length, if_pos (by simp; omega), toI_append]
        | [d], hn, hacc, e, hsl =>
          refine Ev.step (f := fun _ => some (toI (acc ++ dec [c, d]))) (fun k => ?_) (Ev.now _)
          simp only [hertzproto_decodeArgAppendNoPlus.l0, toI_length]
          rw [if_pos g0, if_pos g1, hrd, if_pos hc', w2, if_pos (by simp at hsl ⊢; omega), if_pos (by omega), Int.toNat_natCast, toI_drop, e, List.drop_left, dec_short [c, d] (by simp), Option.bind_some, toI_length, if_pos (by simp at hacc ⊢; omega), toI_append]
        | x :: y :: r, hn, hacc, e, hsl =>
          simp only [List.length_cons] at hn hacc hsl
          have hrx : rd (toI s) ((pre ++ [c]).length : Int) = (x.toNat : Int) := rd_mid (pre := pre ++ [c]) (t := y :: r) (by rw [e]; simp)
          have hry : rd (toI s) ((pre.length : Int) + 2) = (y.toNat : Int) := rd_at (pre := pre ++ [c, x]) (t := r) (by rw [e]; simp) _ (by simp)
          have hlp : ((pre ++ [c]).length : Int) = (pre.length : Int) + 1 := by simp
          have gx0 : (0 : Int) ≤ (x.toNat : Int) := by omega
          have gy0 : (0 : Int) ≤ (y.toNat : Int) := by omega
          have gx1 : (x.toNat : Int) < (tab1.size : Int) := by rw [tab_size]; exact byte_lt x
          have gy1 : (y.toNat : Int) < (tab1.size : Int) := by rw [tab_size]; exact byte_lt y
          have k1 : ¬ (pre.length : Int) + 2 ≥ (s.length : Int) := by omega
          have k2 : (0 : Int) ≤ (pre.length : Int) + 2 := by omega
          have k3 : (pre.length : Int) + 2 < (s.length : Int) := by omega
          have k4 : (0 : Int) ≤ ((pre ++ [c]).length : Int) := by omega
          have k5 : ((pre ++ [c]).length : Int) < (s.length : Int) := by omega
          have ih1 := ih (pre ++ [c]) (x :: y :: r) (acc ++ [37]) (by simp; omega) (by rw [e]; simp) (by simp; omega)
          have ih2 := ih (pre ++ [c, x, y]) r (acc ++ [hx2 x y]) (by omega) (by rw [e]; simp) (by simp; omega)
          have hd : dec (c :: x :: y :: r) = if hx x = 16 ∨ hx y = 16 then 37 :: dec (x :: y :: r) else hx2 x y :: dec r := by rw [dec, if_pos hc]
          have w3 : wrap64 ((pre.length : Int) + 2 + 1) = ((pre ++ [c, x, y]).length : Int) := by rw [wrap_id (by omega) (by omega)]; simp; omega
          by_cases h1 : hx x = 16
          · rw [hd, if_pos (.inl h1), show acc ++ 37 :: dec (x :: y :: r) = acc ++ [37] ++ dec (x :: y :: r) by simp]
            refine Ev.step (fun k => ?_) ih1
            simp only [hertzproto_decodeArgAppendNoPlus.l0, toI_length]
            rw [if_pos g0, if_pos g1, hrd, if_pos hc', w2, w1, if_neg k1, if_pos k2, if_pos k3, hrx, hry, if_pos gy0, if_pos gy1, if_pos k4, if_pos k5, if_pos gx0, if_pos gx1, if_pos (show bt tab1 (x.toNat : Int) = 16 from h1), if_pos hal, show ([37] : List Int) = [((37 : UInt8).toNat : Int)] from rfl, toI_snoc]
          · by_cases h2 : hx y = 16
            · rw [hd, if_pos (.inr h2), show acc ++ 37 :: dec (x :: y :: r) = acc ++ [37] ++ dec (x :: y :: r) by simp]
              refine Ev.step (fun k => ?_) ih1
              simp only [hertzproto_decodeArgAppendNoPlus.l0, toI_length]
              rw [if_pos g0, if_pos g1, hrd, if_pos hc', w2, w1, if_neg k1, if_pos k2, if_pos k3, hrx, hry, if_pos gy0, if_pos gy1, if_pos k4, if_pos k5, if_pos gx0, if_pos gx1, if_neg (show ¬ bt tab1 (x.toNat : Int) = 16 from h1), if_pos (show bt tab1 (y.toNat : Int) = 16 from h2), if_pos hal, show ([37] : List Int) = [((37 : UInt8).toNat : Int)] from rfl, toI_snoc]
            · rw [hd, if_neg (by simp [h1, h2]), show acc ++ hx2 x y :: dec r = acc ++ [hx2 x y] ++ dec r by simp]
              refine Ev.step (fun k => ?_) ih2
              simp only [hertzproto_decodeArgAppendNoPlus.l0, toI_length]
              rw [if_pos g0, if_pos g1, hrd, if_pos hc', w2, w1, if_neg k1, if_pos k2, if_pos k3, hrx, hry, if_pos gy0, if_pos gy1, if_pos k4, if_pos k5, if_pos gx0, if_pos gx1, if_neg (show ¬ bt tab1 (x.toNat : Int) = 16 from h1), if_neg (show ¬ bt tab1 (y.toNat : Int) = 16 from h2), if_pos hal, w3, ← toI_snoc, hx2_toI]
              rfl
      · have hc' : ¬ (c.toNat : Int) = 37 := fun h => hc (UInt8.toNat_inj.1 (by have : (37 : UInt8).toNat = 37 := rfl; omega))
        have ih1 := ih (pre ++ [c]) t (acc ++ [c]) (by omega) (by rw [e]; simp) (by simp; omega)
        rw [dec_plain c hc, show acc ++ c :: dec t = acc ++ [c] ++ dec t by simp]
        refine Ev.step (fun k => ?_) ih1
        simp only [hertzproto_decodeArgAppendNoPlus.l0, toI_length]
        rw [if_pos g0, if_pos g1, hrd, if_neg hc', w1, if_pos hal, toI_snoc]
theorem bytesOf_toI' (l : List UInt8) : Lib.bytesOf (toI l) = l := by
  unfold Lib.bytesOf toI
  rw [List.map_map]
  conv => rhs; rw [← List.map_id l]
  refine List.map_congr_left fun c _ => ?_
  simp
theorem dec_f (a s : List UInt8) (ha : a.length ≤ 1) (hs : s.length ≤ 2147483647) : Ev (fun k => hertzproto_decodeArgAppendNoPlus.f k (toI a) (toI s)) (toI (a ++ dec s)) := by
  have hib : bytes_IndexByte.f (toI s) 37 = some (Lib.indexByte s 37) := by
    unfold bytes_IndexByte.f
    rw [bytesOf_toI']
    rfl
  by_cases h : Lib.indexByte s 37 < 0
  · have hn : (37 : UInt8) ∉ s := fun hm => by
      have h1 := Lib.indexByte_none (l := s) (c := 37) (by have := Lib.indexByte_ge s 37; omega)
      obtain ⟨k, hk, e⟩ := List.getElem_of_mem hm
      exact h1 k (by rw [List.getElem?_eq_getElem hk, e])
    refine ⟨0, fun k _ => ?_⟩
    simp only [hertzproto_decodeArgAppendNoPlus.f, hib, Option.bind_some]
    rw [if_pos h, toI_length, toI_length, if_pos (by omega), dec_none s hn, toI_append]
  · obtain ⟨K, hK⟩ := dec_l s hs s.length [] s a (Nat.le_refl _) rfl (by omega)
    refine ⟨K, fun k hk => ?_⟩
    have h2 := hK k hk
    simp only [hertzproto_decodeArgAppendNoPlus.f, hib, Option.bind_some]
    rw [if_neg h]
    exact h2
def lead : List UInt8 → List UInt8
  | [] => [47]
  | c :: _ => if c = 47 then [] else [47]
theorem lead_f (s : List UInt8) : hertzproto_addLeadingSlash.f [] (toI s) = some (toI (lead s)) := by
  cases s with
  | nil => rfl
  | cons c t =>
    have hr : rd (toI (c :: t)) 0 = (c.toNat : Int) := rd_at (pre := []) rfl 0 rfl
    simp only [hertzproto_addLeadingSlash.f, toI_length, lead]
    rw [if_neg (by simp only [List.length_cons]; omega), if_pos (by simp only [List.length_cons]; omega), hr]
    by_cases hc : c = 47
    · rw [if_pos (by rw [hc]; rfl), if_pos hc]; rfl
    · rw [if_neg (fun h => hc (UInt8.toNat_inj.1 (by have : (47 : UInt8).toNat = 47 := rfl; omega))), if_neg hc, if_pos (by decide)]; rfl
theorem lead_len (s : List UInt8) : (lead s).length ≤ 1 := by
  cases s with
  | nil => simp [lead]
  | cons c t =>
    rw [lead]
    split
    · exact Nat.zero_le _
    · exact Nat.le_refl _
theorem lead_slash (s : List UInt8) : ∃ t, lead s ++ dec s = 47 :: t := by
  cases s with
  | nil => exact ⟨[], by simp [lead, dec]⟩
  | cons c t =>
    by_cases hc : c = 47
    · exact ⟨dec t, by rw [lead, if_pos hc, dec_plain c (by rw [hc]; decide), hc]; rfl⟩
    · exact ⟨dec (c :: t), by rw [lead, if_neg hc]; rfl⟩
def norm (s : List UInt8) : List UInt8 := Cl.cleanK (lead s ++ dec s)
end Go.Proofs.Ytfbllodbcmcndaa.SpA
end
section
namespace Go.Proofs.Ytfbllodbcmcndaa.Cl
theorem join_len_drop (k : List (List UInt8)) : (joinS k.dropLast).length ≤ (joinS k).length := by
  rcases List.eq_nil_or_concat k with rfl | ⟨a, b, rfl⟩
  · simp
  · rw [List.concat_eq_append, List.dropLast_concat, joinS_app, List.length_append]
    omega
theorem step_len (k : List (List UInt8)) (q : List UInt8) : (joinS (stepK k q)).length ≤ (joinS k).length + (joinS [q]).length := by
  unfold stepK
  split
  · omega
  · split
    · have := join_len_drop k
      omega
    · rw [joinS_app, List.length_append]
      omega
theorem fold_len : ∀ (S k : List (List UInt8)), (joinS (S.foldl stepK k)).length ≤ (joinS k).length + (joinS S).length
  | [], k => by simp
  | q :: S, k => by
    have h1 := fold_len S (stepK k q)
    have h2 := step_len k q
    have h3 : (joinS (q :: S)).length = (joinS [q]).length + (joinS S).length := by rw [show q :: S = [q] ++ S from rfl, joinS_app, List.length_append]
    rw [List.foldl_cons]
    omega
theorem fin_len (k : List (List UInt8)) (last : List UInt8) : (finK k last).length ≤ (joinS k).length + (joinS [last]).length := by
  unfold finK
  split
  · rename_i h
    have h1 := join_len_drop k
    rw [joinS_app, List.length_append]
    have h2 : (joinS [[]]).length = 1 := by decide
    have h3 : (joinS [last]).length = last.length + 1 := by simp [joinS]
    omega
  · rw [joinS_app, List.length_append]
    omega
theorem clean_len (l : List UInt8) : (cleanK l).length ≤ l.length + 1 := by
  have h0 := congrArg List.length (join_split l)
  have hne := splitS_ne l
  have h1 := fin_len ((splitS l).dropLast.foldl stepK []) ((splitS l).getLastD [])
  have h2 := fold_len (splitS l).dropLast []
  have h3 : splitS l = (splitS l).dropLast ++ [(splitS l).getLastD []] := by
    rw [List.getLastD_eq_getLast?, List.getLast?_eq_some_getLast hne]
    exact (List.dropLast_concat_getLast hne).symm
  have h4 : (joinS (splitS l)).length = (joinS (splitS l).dropLast).length + (joinS [(splitS l).getLastD []]).length := by
    conv => lhs; rw [h3]
    rw [joinS_app, List.length_append]
  unfold cleanK
  simp only [List.length_cons] at h0
  have h5 : (joinS ([] : List (List UInt8))).length = 0 := rfl
  omega
end Go.Proofs.Ytfbllodbcmcndaa.Cl
end
section
namespace Go.Proofs.Ytfbllodbcmcndaa.Q
open Go.RowKit Go.Proofs.YtfbllodbcmcndaaW.PrintWords Go.Proofs.YtfbllodbcmcndaaW.PrintLast Go.Proofs.YtfbllodbcmcndaaW.PrintMore
open Go.Proofs.Ytfbllodbcmcndaa.SpA (toI toI_length toI_append norm lead)
open Go.Proofs.Ytfbllodbcmcndaa.Ob
set_option linter.unusedVariables false
set_option linter.unusedSimpArgs false
def CellPost (w : World) (g : Nat) (T : TypeId) (vals : List Value) (rows : List (Option (Bool × List UInt8))) (e : Ending) (w' : World) : Prop := e = .returned (.tuple #[]) ∧ OBJ w' g T vals rows ∧ Only (fun j => j = g) w w'
set_option maxHeartbeats 8000000 in
set_option maxRecDepth 100000 in
theorem setMaxAge_calls (w : World) (g : Nat) (vals : List Value) (rows : List (Option (Bool × List UInt8))) (x : Int) (u : Value) (h : OBJ w g 94 vals rows) (hr : ∀ l, rows[2]? ≠ some (some l)) (hu : vals[2]? = some u) :
    Calls Try.prog 54 #[.pointer (some ⟨g, 0, none⟩), .int .i64 x] w (CellPost w g 94 (vals.set 2 (.int .i64 x)) rows) := by
  have c0 := h.cell 2 _ hu
  have z0 := h.fz 2
  have hlen : 2 < vals.length := by rcases Nat.lt_or_ge 2 vals.length with h1 | h1; exact h1; rw [List.getElem?_eq_none h1] at hu; cases hu
  have H := Aside0.mk h
  have HR := Aside0.mk hr
  have HLEN := Aside0.mk hlen
  clear h hr hu hlen
  go_enter Try.func54, Try.ntmps54
  go_wp2
  go_end0
  exact ⟨rfl, OBJ.put H.out (by decide) 2 HLEN.out _ HR.out, Only.set (S := fun j => j = g) (Only.refl _ _) (.inl rfl) _ _⟩
set_option maxHeartbeats 8000000 in
set_option maxRecDepth 100000 in
theorem setHTTPOnly_calls (w : World) (g : Nat) (vals : List Value) (rows : List (Option (Bool × List UInt8))) (x : Bool) (u : Value) (h : OBJ w g 94 vals rows) (hr : ∀ l, rows[5]? ≠ some (some l)) (hu : vals[5]? = some u) :
    Calls Try.prog 55 #[.pointer (some ⟨g, 0, none⟩), .bool x] w (CellPost w g 94 (vals.set 5 (.bool x)) rows) := by
  have c0 := h.cell 5 _ hu
  have z0 := h.fz 5
  have hlen : 5 < vals.length := by rcases Nat.lt_or_ge 5 vals.length with h1 | h1; exact h1; rw [List.getElem?_eq_none h1] at hu; cases hu
  have H := Aside0.mk h
  have HR := Aside0.mk hr
  have HLEN := Aside0.mk hlen
  clear h hr hu hlen
  go_enter Try.func55, Try.ntmps55
  go_wp2
  go_end0
  exact ⟨rfl, OBJ.put H.out (by decide) 5 HLEN.out _ HR.out, Only.set (S := fun j => j = g) (Only.refl _ _) (.inl rfl) _ _⟩
set_option maxHeartbeats 8000000 in
set_option maxRecDepth 100000 in
theorem setSecure_calls (w : World) (g : Nat) (vals : List Value) (rows : List (Option (Bool × List UInt8))) (x : Bool) (u : Value) (h : OBJ w g 94 vals rows) (hr : ∀ l, rows[6]? ≠ some (some l)) (hu : vals[6]? = some u) :
    Calls Try.prog 56 #[.pointer (some ⟨g, 0, none⟩), .bool x] w (CellPost w g 94 (vals.set 6 (.bool x)) rows) := by
  have c0 := h.cell 6 _ hu
  have z0 := h.fz 6
  have hlen : 6 < vals.length := by rcases Nat.lt_or_ge 6 vals.length with h1 | h1; exact h1; rw [List.getElem?_eq_none h1] at hu; cases hu
  have H := Aside0.mk h
  have HR := Aside0.mk hr
  have HLEN := Aside0.mk hlen
  clear h hr hu hlen
  go_enter Try.func56, Try.ntmps56
  go_wp2
  go_end0
  exact ⟨rfl, OBJ.put H.out (by decide) 6 HLEN.out _ HR.out, Only.set (S := fun j => j = g) (Only.refl _ _) (.inl rfl) _ _⟩
set_option maxHeartbeats 8000000 in
set_option maxRecDepth 100000 in
theorem setSameSite_calls (w : World) (g : Nat) (vals : List Value) (rows : List (Option (Bool × List UInt8))) (x : Int) (u u6 : Value) (h : OBJ w g 94 vals rows) (hr : ∀ l, rows[8]? ≠ some (some l)) (hu : vals[8]? = some u) (hr6 : ∀ l, rows[6]? ≠ some (some l)) (hu6 : vals[6]? = some u6) :
    Calls Try.prog 57 #[.pointer (some ⟨g, 0, none⟩), .int .i64 x] w (CellPost w g 94 (if x = 4 then (vals.set 8 (.int .i64 x)).set 6 (.bool true) else vals.set 8 (.int .i64 x)) rows) := by
  have c0 := h.cell 8 _ hu
  have z0 := h.fz 8
  have hlen : 8 < vals.length := by rcases Nat.lt_or_ge 8 vals.length with h1 | h1; exact h1; rw [List.getElem?_eq_none h1] at hu; cases hu
  have h1 := OBJ.put h (by decide) 8 hlen (.int .i64 x) hr
  have hu6' : (vals.set 8 (.int .i64 x))[6]? = some u6 := by rw [List.getElem?_set, if_neg (by decide)]; exact hu6
  have ho := Only.set (S := fun j => j = g) (Only.refl _ w) (.inl rfl) 8 (.int .i64 x)
  have H1 := Aside0.mk h1
  have HR6 := Aside0.mk hr6
  have HU6 := Aside0.mk hu6'
  have HO := Aside0.mk ho
  clear h hr hu hlen h1 hr6 hu6 hu6' ho
  by_cases hx : x = 4
  · rw [if_pos hx]
    subst hx; have b1 : ((4 : Int) == 4) = true := rfl
    go_enter Try.func57, Try.ntmps57
    go_wp2_with (first | ((with_reducible refine gate_callee (f := 56) rfl ?_); refine goesL_ (some 11) rfl rfl Try.func56 (by kernel_rfl) rfl #[.pointer (some ⟨g, 0, none⟩), .bool true] rfl (by (try simp only [List.map_toArray, List.map_cons, List.map_nil]); first | done | rfl) ?_; refine (setSecure_calls _ g _ rows true u6 H1.out HR6.out HU6.out).mono ?_; rintro e w1 ⟨rfl, ha, hb⟩; refine ⟨_, rfl, ?_⟩; have HA := Aside0.mk ha; have HB := Aside0.mk hb; clear ha hb))
    go_end0
    exact ⟨rfl, HA.out, HO.out.trans HB.out (fun _ _ h => h)⟩
  · rw [if_neg hx]
    have b1 : (x == 4) = false := beq_eq_false_iff_ne.2 hx; clear hx
    go_enter Try.func57, Try.ntmps57
    go_wp2
    go_end0
    exact ⟨rfl, H1.out, HO.out⟩
set_option maxHeartbeats 8000000 in
set_option maxRecDepth 100000 in
theorem setPartitioned_calls (w : World) (g : Nat) (vals : List Value) (rows : List (Option (Bool × List UInt8))) (x : Bool) (u u6 : Value) (h : OBJ w g 94 vals rows) (hr : ∀ l, rows[7]? ≠ some (some l)) (hu : vals[7]? = some u) (hr6 : ∀ l, rows[6]? ≠ some (some l)) (hu6 : vals[6]? = some u6) :
    Calls Try.prog 58 #[.pointer (some ⟨g, 0, none⟩), .bool x] w (CellPost w g 94 (if x = true then (vals.set 7 (.bool x)).set 6 (.bool true) else vals.set 7 (.bool x)) rows) := by
  have c0 := h.cell 7 _ hu
  have z0 := h.fz 7
  have hlen : 7 < vals.length := by rcases Nat.lt_or_ge 7 vals.length with h1 | h1; exact h1; rw [List.getElem?_eq_none h1] at hu; cases hu
  have h1 := OBJ.put h (by decide) 7 hlen (.bool x) hr
  have hu6' : (vals.set 7 (.bool x))[6]? = some u6 := by rw [List.getElem?_set, if_neg (by decide)]; exact hu6
  have ho := Only.set (S := fun j => j = g) (Only.refl _ w) (.inl rfl) 7 (.bool x)
  have H1 := Aside0.mk h1
  have HR6 := Aside0.mk hr6
  have HU6 := Aside0.mk hu6'
  have HO := Aside0.mk ho
  clear h hr hu hlen h1 hr6 hu6 hu6' ho
  by_cases hx : x = true
  · rw [if_pos hx]
    subst hx
    go_enter Try.func58, Try.ntmps58
    go_wp2_with (first | ((with_reducible refine gate_callee (f := 56) rfl ?_); refine goesL_ (some 10) rfl rfl Try.func56 (by kernel_rfl) rfl #[.pointer (some ⟨g, 0, none⟩), .bool true] rfl (by (try simp only [List.map_toArray, List.map_cons, List.map_nil]); first | done | rfl) ?_; refine (setSecure_calls _ g _ rows true u6 H1.out HR6.out HU6.out).mono ?_; rintro e w1 ⟨rfl, ha, hb⟩; refine ⟨_, rfl, ?_⟩; have HA := Aside0.mk ha; have HB := Aside0.mk hb; clear ha hb))
    go_end0
    exact ⟨rfl, HA.out, HO.out.trans HB.out (fun _ _ h => h)⟩
  · rw [if_neg hx]
    obtain rfl : x = false := by simpa using hx
    go_enter Try.func58, Try.ntmps58
    go_wp2
    go_end0
    exact ⟨rfl, H1.out, HO.out⟩
theorem norm_len (l : List UInt8) (h : l.length ≤ 2147483647) : (norm l).length ≤ 4611686018427387904 := by
  have h1 := SpA.lead_len l
  have h2 := SpA.dec_len l.length l (Nat.le_refl _)
  have h3 := Cl.clean_len (lead l ++ SpA.dec l)
  unfold norm
  rw [List.length_append] at h3
  omega
theorem norm_of (w : World) (A : Option Addr) (n c : Nat) (l : List UInt8) (hC : Kd.C (Kd.int .u8) w A n (toI l)) (hc : n ≤ c) (hl : l.length ≤ 2147483647) : Calls Try.prog 82 #[.slice none 0 0, .slice A n c] w (NormPost w (norm l)) := by
  have hn : (toI l).length = n := hC.1
  subst hn
  obtain ⟨k, hk⟩ := SpA.dec_f (lead l) l (SpA.lead_len l) (by omega)
  exact norm_calls k A c l (lead l) (lead l ++ SpA.dec l) w hC hc (SpA.lead_f l) (hk k (Nat.le_refl k)) (SpA.lead_slash l) (by have h1 := SpA.lead_len l; have h2 := SpA.dec_len l.length l (Nat.le_refl _); simp; omega)
def SetPathPost (w : World) (g : Nat) (vals : List Value) (rows : List (Option (Bool × List UInt8))) (y : List UInt8) (e : Ending) (w' : World) : Prop := e = .returned (.tuple #[]) ∧ ∃ vp Ab nb cb, OBJ w' g 94 ((vals.set 12 (.slice Ab nb cb)).set 4 vp) ((rows.set 12 (some (true, y))).set 4 (some (false, norm y))) ∧ Only (fun j => j = g ∨ w.heap.size ≤ j) w w' ∧ ∀ j, (Value.slice Ab nb cb).ownBlock = some j → w.heap.size ≤ j
set_option maxHeartbeats 8000000 in
set_option maxRecDepth 100000 in
theorem setPath_calls (w : World) (g : Nat) (vals : List Value) (rows : List (Option (Bool × List UInt8))) (y : ByteArray) (h : OBJ w g 94 vals rows) (hr : rows[12]? = some (some (true, []))) (hv : vals[12]? = some (.slice none 0 0)) (hr4 : rows[4]? = some (some (false, []))) (hv4 : vals[4]? = some (.slice none 0 0)) (hy : y.size ≤ 2147483647) :
    Calls Try.prog 53 #[.pointer (some ⟨g, 0, none⟩), .string y] w (SetPathPost w g vals rows y.data.toList) := by
  obtain ⟨i0, hi0, _, hsz0, _⟩ := info_parts info5
  have c0 := h.cell 12 _ hv
  have HCUT := cut0_run (P := Try.prog) Try.underlying63 hi0 none 0 0 0 (0 : Int) rfl (Nat.zero_le _)
  have len : ∀ {i : Nat} {u : Value}, vals[i]? = some u → i < vals.length := fun {i u} h => by rcases Nat.lt_or_ge i vals.length with h1 | h1; exact h1; rw [List.getElem?_eq_none h1] at h; cases h
  have HL12 := Aside0.mk (len hv)
  have HL4 := Aside0.mk (len hv4)
  have H := Aside0.mk h
  have HR := Aside0.mk hr
  have HV := Aside0.mk hv
  have HR4 := Aside0.mk hr4
  have HV4 := Aside0.mk hv4
  have HY := Aside0.mk hy
  clear h hr hv hr4 hv4 hy hi0 hsz0 len
  go_enter Try.func53, Try.ntmps53
  go_upto_region 1 with ((with_reducible refine gate_builtin (b := .append) (xs := #[.tmp 9, .tmp 10]) rfl ?_); at_builtin; refine apps_BV rfl (.tmp 9) (.tmp 10) 63 9 rfl Try.underlying63 Try.underlying9 info5 (.slice none 0 0) [] y rfl rfl (BV.nil _) (by have := HY.out; simp; omega) ?_; intro v1 w1 h1 h2 h3; obtain ⟨A1, n1, m1, rfl⟩ := h1.form; obtain ⟨h4, h5⟩ := H.out.refill (by decide) 12 HR.out HV.out rfl h2 h3; have c1 := h4.cell 12 _ HV.out; have z1 := h4.fz 12; have H1 := Aside0.mk h1; have H2 := Aside0.mk h2; have H4 := Aside0.mk h4; have H5 := Aside0.mk h5; have HVB : Aside0 (∀ j, (Value.slice A1 n1 m1).ownBlock = some j → w.heap.size ≤ j) := ⟨fun j hj => by (rcases h3 with e | ⟨b, e, hb⟩; (rw [e] at hj; cases hj); (rw [e] at hj; cases hj; exact hb))⟩; clear h1 h2 h3 h4 h5)
  refine Go.Proofs.YtfbllodbcmcndaaX.gen_world (fun W => OBJ W g 94 (vals.set 12 (.slice A1 n1 m1)) (rows.set 12 (some (true, y.data.toList))) ∧ Only (fun j => j = g ∨ w.heap.size ≤ j) w W) ⟨OBJ.restore (by decide) 12 HL12.out H4.out H5.out (BV.rw (by have := H1.out; rwa [List.nil_append] at this)), Only.set (S := fun j => j = g ∨ w.heap.size ≤ j) (H2.out.mono fun k _ hk => by cases hk) (.inl (.inl rfl)) _ _⟩ ?_
  intro W hW
  obtain ⟨hob, hon⟩ := hW
  have r12 : (rows.set 12 (some (true, y.data.toList)))[12]? = some (some (true, y.data.toList)) := by rw [List.getElem?_set, if_pos rfl, if_pos (by rcases Nat.lt_or_ge 12 rows.length with h1 | h1; exact h1; have := HR.out; rw [List.getElem?_eq_none h1] at this; cases this)]
  have r4 : (rows.set 12 (some (true, y.data.toList)))[4]? = some (some (false, [])) := by rw [List.getElem?_set, if_neg (by decide)]; exact HR4.out
  have v12 : (vals.set 12 (.slice A1 n1 m1))[12]? = some (.slice A1 n1 m1) := by rw [List.getElem?_set, if_pos rfl, if_pos HL12.out]
  have v4 : (vals.set 12 (.slice A1 n1 m1))[4]? = some (.slice none 0 0) := by rw [List.getElem?_set, if_neg (by decide)]; exact HV4.out
  have k4 := hob.cell 4 _ v4
  have k12 := hob.cell 12 _ v12
  obtain ⟨u, hu, hb⟩ := hob.row 12 true _ r12
  rw [v12] at hu
  cases hu
  have HC := Aside0.mk hb.C
  have HCAP := Aside0.mk hb.cap.2
  have HOB := Aside0.mk hob
  have HON := Aside0.mk hon
  have R4 := Aside0.mk r4
  have V4 := Aside0.mk v4
  clear H1 H2 H4 H5 c0 c1 z1 hob hon r12 r4 v12 v4 hb HCUT
  go_region_with (go_at_call 82; refine (norm_of _ _ _ _ _ (Kd.C_below HC.out (Below.refl _ _).drew) HCAP.out (by have := HY.out; simpa using this)).mono ?_; rintro e w2 ⟨g2, c2, rfl, hbr, hbel, hg2, hcap⟩; have hbl2 := below_step (Below.refl _ _).drew hbel; have ho2 := HOB.out.below hbl2; have q4 := ho2.cell 4 _ V4.out; have z4 := ho2.fz 4; have HBR := Aside0.mk hbr; have HBL := Aside0.mk hbl2; have HG2 := Aside0.mk hg2; have HCP := Aside0.mk hcap; have HO2 := Aside0.mk ho2; clear hbr hbel hg2 hcap hbl2 ho2)
  all_goals go_wp2
  all_goals go_end0
  all_goals (
    refine ⟨rfl, _, _, _, _, OBJ.store HO2.out (by decide) 4 (by rw [List.length_set]; exact HL4.out) (.slice (some ⟨g2, 0, none⟩) (norm y.data.toList).length c2) false (norm y.data.toList) ⟨.inr ⟨g2, c2, rfl, HCP.out, HBR.out⟩, norm_len _ (by have := HY.out; simpa using this)⟩ ?_, ?_, HVB.out⟩
    · exact ((HOB.out.drop 4).apart_new (b := g2) rfl (by have := HG2.out; exact this))
    · refine Only.set (S := fun j => j = g ∨ w.heap.size ≤ j) (HON.out.trans (Only.of_below (S := fun _ => False) HBL.out) fun _ _ h => h.elim) (.inl (.inl rfl)) _ _)
end Go.Proofs.Ytfbllodbcmcndaa.Q
end
section
namespace Go.Proofs.Ytfbllodbcmcndaa.Q
open Go.RowKit Go.Proofs.YtfbllodbcmcndaaW.PrintWords Go.Proofs.YtfbllodbcmcndaaW.PrintLast Go.Proofs.YtfbllodbcmcndaaW.PrintMore
open Go.Proofs.Ytfbllodbcmcndaa.SpA (toI toI_length toI_append norm lead)
open Go.Proofs.Ytfbllodbcmcndaa.Ob
set_option linter.unusedVariables false
set_option linter.unusedSimpArgs false
theorem conv_BV {P : Program} {W : World} {A : Option Addr} {n c : Nat} {l : List UInt8} {t : TypeId} (h : BV W (.slice A n c) l) (ht : P.underlying t = some (.slice 5)) (h5 : P.underlying 5 = some (.int .u8)) (h9 : P.underlying 9 = some .string) : (convert t 9 (.slice A n c)).run P W = .ok (.string ⟨l.toArray⟩) W := by
  obtain ⟨hn, _, hc⟩ := Kd.R_reads' h.R
  have := Kd.C_string (P := P) (c := c) ht h5 h9 hc
  rw [← hn] at this
  rw [this]
  congr 2
  exact Go.Proofs.YtfbllodbcmcndaaKit.ext (by rw [SpA.L_strOf])
theorem norm_len2 (l : List UInt8) : (norm l).length ≤ l.length + 2 := by
  have h1 := SpA.lead_len l
  have h2 := SpA.dec_len l.length l (Nat.le_refl _)
  have h3 := Cl.clean_len (lead l ++ SpA.dec l)
  unfold norm
  rw [List.length_append] at h3
  omega
def TextPost (w : World) (g : Nat) (t : List UInt8) (e : Ending) (w' : World) : Prop := ∃ A n c, e = .returned (.slice A n c) ∧ BV w' (.slice A n c) t ∧ Only (fun j => w.heap.size ≤ j ∨ j = g ∨ ∃ v, w.cell? ⟨g, 12, none⟩ = some v ∧ v.ownBlock = some j) w w'
set_option maxHeartbeats 8000000 in
set_option maxRecDepth 100000 in
theorem cookie_calls (w : World) (g : Nat) (vk vv vd vp : Value) (Ab : Option Addr) (nb cb : Nat) (ma ss : Int) (ho se pa : Bool) (k v d p y : List UInt8) (hma : -9223372036854775808 ≤ ma ∧ ma ≤ 9223372036854775807)
    (h : OBJ w g 94 (ckVals vk vv vd vp (.slice Ab nb cb) ma ho se pa ss) (ckRows k v d p (some (true, y))))
    (hk : k.length ≤ 10000000) (hv : v.length ≤ 10000000) (hd : d.length ≤ 10000000) (hp : p.length ≤ 10000000) :
    Calls Try.prog 83 #[.pointer (some ⟨g, 0, none⟩)] w (TextPost w g (ckText k v ma d p ho se ss pa)) := by
  obtain ⟨i0, hi0, _, hsz0, _⟩ := info_parts info5
  have c0 := h.cell 12 (.slice Ab nb cb) rfl
  have HCUT := cut0_run (P := Try.prog) Try.underlying63 hi0 Ab nb cb 0 (0 : Int) rfl (Nat.zero_le _)
  obtain ⟨u, hu, hb⟩ := h.row 12 true y rfl
  cases hu
  have hsame : (Value.slice Ab 0 cb).ownBlock = (Value.slice Ab nb cb).ownBlock := by cases Ab <;> rfl
  have hap := h.apart (by decide) 12 (l := (true, y)) (v := .slice Ab nb cb) (u := .slice Ab 0 cb) rfl rfl hsame
  have hst : ST w (.slice Ab 0 cb) w g 94 (ckVals vk vv vd vp (.slice Ab nb cb) ma ho se pa ss) (ckRows k v d p none) (.slice Ab 0 cb) [] := ⟨h.drop 12, hb.bv.cut0, hap, Only.refl _ _, .inl rfl⟩
  have HC0 := Aside0.mk c0
  have HS := Aside0.mk hst
  have HSAME := Aside0.mk hsame
  have HMA := Aside0.mk hma
  have HK := Aside0.mk hk
  have HV := Aside0.mk hv
  have HD := Aside0.mk hd
  have HP := Aside0.mk hp
  clear h hb hap hst hma hk hv hd hp hi0 hsz0 hsame
  go_enter Try.func83, Try.ntmps83
  go_wp2_with (first | ((with_reducible refine gate_callee (f := 100) rfl ?_); refine goesL_ (some 10) rfl rfl Try.func100 (by kernel_rfl) rfl #[.pointer (some ⟨g, 0, none⟩), .slice Ab 0 cb] rfl (by (try simp only [List.map_toArray, List.map_cons, List.map_nil]); first | done | rfl) ?_; refine (ab_calls w g vk vv vd vp (.slice Ab nb cb) (.slice Ab 0 cb) ma ss ho se pa k v d p HMA.out HS.out HK.out HV.out HD.out HP.out).mono ?_; rintro e w1 ⟨v1, rfl, h1⟩; refine ⟨_, rfl, ?_⟩; obtain ⟨A1, n1, m1, rfl⟩ := h1.bv.form; have c1 := h1.ob.cell 12 (.slice Ab nb cb) rfl; have z1 := h1.ob.fz 12; have hs2 := OBJ.restore (vals := ckVals vk vv vd vp (.slice Ab nb cb) ma ho se pa ss) (rows := ckRows k v d p (some (true, y))) (by decide) 12 (show 12 < 13 by decide) h1.ob h1.ap (BV.rw h1.bv); have k2 := hs2.cell 12 (.slice A1 n1 m1) rfl; have H1 := Aside0.mk h1; have HS2 := Aside0.mk hs2; clear h1 hs2))
  go_ret
  refine ⟨A1, n1, m1, rfl, H1.out.bv.move fun j hj => Below.heap_setCell _ _ _ _ (fun e => H1.out.ap.1 (by rw [← show j = g from e]; exact hj)), ?_⟩
  refine Only.set (H1.out.on.mono fun j _ hj => .inr (.inr ⟨.slice Ab nb cb, HC0.out, by rw [← HSAME.out]; exact hj⟩)) (.inl (.inr (.inl rfl))) _ _
def StrPost2 (w : World) (t : List UInt8) (g : Nat) (e : Ending) (w' : World) : Prop := e = .returned (.string ⟨t.toArray⟩) ∧ Only (fun j => w.heap.size ≤ j ∨ j = g ∨ ∃ v, w.cell? ⟨g, 12, none⟩ = some v ∧ v.ownBlock = some j) w w'
set_option maxHeartbeats 8000000 in
set_option maxRecDepth 100000 in
theorem cookieString_calls (w : World) (g : Nat) (vk vv vd vp : Value) (Ab : Option Addr) (nb cb : Nat) (ma ss : Int) (ho se pa : Bool) (k v d p y : List UInt8) (hma : -9223372036854775808 ≤ ma ∧ ma ≤ 9223372036854775807)
    (h : OBJ w g 94 (ckVals vk vv vd vp (.slice Ab nb cb) ma ho se pa ss) (ckRows k v d p (some (true, y))))
    (hk : k.length ≤ 10000000) (hv : v.length ≤ 10000000) (hd : d.length ≤ 10000000) (hp : p.length ≤ 10000000) :
    Calls Try.prog 59 #[.pointer (some ⟨g, 0, none⟩)] w (StrPost2 w (ckText k v ma d p ho se ss pa) g) := by
  have HC := Aside0.mk (cookie_calls w g vk vv vd vp Ab nb cb ma ss ho se pa k v d p y hma h hk hv hd hp)
  clear h hk hv hd hp hma
  go_enter Try.func59, Try.ntmps59
  go_wp2_with (first | ((with_reducible refine gate_callee (f := 83) rfl ?_); refine goesL_ (some 4) rfl rfl Try.func83 (by kernel_rfl) rfl #[.pointer (some ⟨g, 0, none⟩)] rfl (by (try simp only [List.map_toArray, List.map_cons, List.map_nil]); first | done | rfl) ?_; refine (HC.out).mono ?_; rintro e w1 ⟨A1, n1, m1, rfl, hb, ho⟩; refine ⟨_, rfl, ?_⟩; have hcv := conv_BV (P := Try.prog) hb Try.underlying63 Try.underlying5 Try.underlying9; have HO := Aside0.mk ho; clear hb ho))
  go_ret
  exact ⟨rfl, HO.out⟩
def zVals : List Value := [.slice none 0 0, .slice none 0 0, .int .i64 0, .slice none 0 0, .slice none 0 0, .bool false, .bool false, .bool false, .int .i64 0, .slice none 0 0, .slice none 0 0, .bool false, .slice none 0 0]
def zRows : List (Option (Bool × List UInt8)) := [some (true, []), some (true, []), none, some (true, []), some (false, []), none, none, none, none, none, none, none, some (true, [])]
theorem zObj {W : World} {g : Nat} (h : W.heap[g]? = some (.cells zVals.toArray 94 (0, 0))) : OBJ W g 94 zVals zRows := by
  refine OBJ.fresh h (by intro v hv; simp only [zVals, List.mem_cons, List.not_mem_nil, or_false] at hv; rcases hv with rfl | rfl | rfl | rfl | rfl | rfl | rfl | rfl | rfl | rfl | rfl | rfl | rfl <;> rfl) fun i b l hi => ?_
  have h13 : i < 13 := (List.getElem?_eq_some_iff.1 hi).1
  rcases (by omega : i = 0 ∨ i = 1 ∨ i = 2 ∨ i = 3 ∨ i = 4 ∨ i = 5 ∨ i = 6 ∨ i = 7 ∨ i = 8 ∨ i = 9 ∨ i = 10 ∨ i = 11 ∨ i = 12) with rfl | rfl | rfl | rfl | rfl | rfl | rfl | rfl | rfl | rfl | rfl | rfl | rfl <;> first | (cases hi; exact ⟨rfl, rfl⟩) | cases hi
structure CS (w W : World) (g0 g : Nat) (cv : Array Value) (vals : List Value) (rows : List (Option (Bool × List UInt8))) : Prop where
  src : W.heap[g0]? = some (.cells cv 53 (0, 0))
  ob : OBJ W g 94 vals rows
  be : Below w.heap.size w W
  ge : w.heap.size ≤ g0 ∧ g0 < g
theorem CS.next {w W W' : World} {g0 g : Nat} {cv : Array Value} {vals vals' : List Value} {rows rows' : List (Option (Bool × List UInt8))} (h : CS w W g0 g cv vals rows) (ho : OBJ W' g 94 vals' rows') (hn : Only (fun j => j = g ∨ W.heap.size ≤ j) W W') : CS w W' g0 g cv vals' rows' := by
  have hg := h.ge
  have hl := h.ob.lt
  refine ⟨(hn.block g0 (by omega) (by rintro (e | e) <;> omega)).trans h.src, ho, ?_, hg⟩
  refine ⟨hn.os.trans h.be.os, hn.tape.trans h.be.tape, hn.output.trans h.be.output, Nat.le_trans h.be.size hn.size, fun k hk => ?_⟩
  have hs := h.be.size
  exact (hn.block k (by omega) (by rintro (e | e) <;> omega)).trans (h.be.block k hk)
theorem CS.fin {w W W' : World} {g0 g : Nat} {cv : Array Value} {vals : List Value} {rows : List (Option (Bool × List UInt8))} (h : CS w W g0 g cv vals rows) (hn : Only (fun j => W.heap.size ≤ j ∨ j = g ∨ ∃ v, W.cell? ⟨g, 12, none⟩ = some v ∧ v.ownBlock = some j) W W') (vb : Value) (hv : vals[12]? = some vb) (hb : ∀ j, vb.ownBlock = some j → w.heap.size ≤ j) : Below w.heap.size w W' := by
  have hg := h.ge
  have hs := h.be.size
  refine ⟨hn.os.trans h.be.os, hn.tape.trans h.be.tape, hn.output.trans h.be.output, Nat.le_trans h.be.size hn.size, fun k hk => ?_⟩
  refine (hn.block k (by omega) ?_).trans (h.be.block k hk)
  rintro (e | e | ⟨v, e1, e2⟩)
  · omega
  · omega
  · rw [h.ob.cell 12 vb hv] at e1
    cases e1
    have := hb k e2
    omega
theorem CS.f {w W : World} {g0 g : Nat} {cv : Array Value} {vals : List Value} {rows : List (Option (Bool × List UInt8))} (h : CS w W g0 g cv vals rows) (i : Nat) (v : Value) (hv : cv[i]? = some v) : W.cell? ⟨g0, i, none⟩ = some v := by
  unfold World.cell?
  rw [h.src]
  exact hv
theorem site_vals (v0 v1 v2 v3 v4 v5 v7 v8 v9 v10 v11 v12 : Value) (se : Bool) (x : Int) : (if x = 4 then ([v0, v1, v2, v3, v4, v5, .bool se, v7, v8, v9, v10, v11, v12].set 8 (.int .i64 x)).set 6 (.bool true) else [v0, v1, v2, v3, v4, v5, .bool se, v7, v8, v9, v10, v11, v12].set 8 (.int .i64 x)) = [v0, v1, v2, v3, v4, v5, .bool (se || decide (x = 4)), v7, .int .i64 x, v9, v10, v11, v12] := by
  by_cases h : x = 4
  · rw [if_pos h]; simp [h]
  · rw [if_neg h]; simp [h]
theorem apart_vals (v0 v1 v2 v3 v4 v5 v7 v8 v9 v10 v11 v12 : Value) (se x : Bool) : (if x = true then ([v0, v1, v2, v3, v4, v5, .bool se, v7, v8, v9, v10, v11, v12].set 7 (.bool x)).set 6 (.bool true) else [v0, v1, v2, v3, v4, v5, .bool se, v7, v8, v9, v10, v11, v12].set 7 (.bool x)) = [v0, v1, v2, v3, v4, v5, .bool (se || x), .bool x, v8, v9, v10, v11, v12] := by
  cases x <;> simp
set_option maxHeartbeats 16000000 in
set_option maxRecDepth 100000 in
theorem cookieText_calls (a0 a1 a2 a3 : ByteArray) (a4 a5 : Int) (a6 a7 a8 : Bool) (w : World) (h0 : a0.size ≤ 2000) (h1 : a1.size ≤ 2000) (h2 : a2.size ≤ 2000) (h3 : a3.size ≤ 2000) (hma : -9223372036854775808 ≤ a4 ∧ a4 ≤ 9223372036854775807) :
    Calls Try.prog 21 #[.agg #[.string a0, .string a1, .string a2, .string a3, .int .i64 a4, .int .i64 a5, .bool a6, .bool a7, .bool a8]] w fun e w' => e = .returned (.string ⟨(ckText a0.data.toList a1.data.toList a4 a2.data.toList (if a3.data.toList = [] then [] else norm a3.data.toList) a6 (a7 || decide (a5 = 4) || a8) a5 a8).toArray⟩) ∧ Below w.heap.size w w' := by
  have hst : CS w ((w.alloc (.cells #[.string a0, .string a1, .string a2, .string a3, .int .i64 a4, .int .i64 a5, .bool a6, .bool a7, .bool a8] 53)).alloc (.cells zVals.toArray 94)) w.heap.size (w.heap.size + 1) #[.string a0, .string a1, .string a2, .string a3, .int .i64 a4, .int .i64 a5, .bool a6, .bool a7, .bool a8] zVals zRows := by
    have e1 := heap_alloc_new (w.alloc (.cells #[.string a0, .string a1, .string a2, .string a3, .int .i64 a4, .int .i64 a5, .bool a6, .bool a7, .bool a8] 53)) (.cells zVals.toArray 94)
    rw [show (w.alloc (.cells #[.string a0, .string a1, .string a2, .string a3, .int .i64 a4, .int .i64 a5, .bool a6, .bool a7, .bool a8] 53)).heap.size = w.heap.size + 1 by simp] at e1
    refine ⟨?_, zObj e1, below_alloc (below_alloc (Below.refl _ _) _) _, Nat.le_refl _, Nat.lt_succ_self _⟩
    rw [Below.heap_alloc _ _ _ (by simp)]
    exact heap_alloc_new w _
  have f0 := hst.f 0 _ rfl
  have HS0 := Aside0.mk hst
  have HZ0 := Aside0.mk h0
  have HZ1 := Aside0.mk h1
  have HZ2 := Aside0.mk h2
  have HZ3 := Aside0.mk h3
  have HMA := Aside0.mk hma
  clear hst h0 h1 h2 h3 hma
  by_cases hp : a3.data.toList = []
  · obtain rfl : a3 = ⟨#[]⟩ := Go.Proofs.YtfbllodbcmcndaaKit.ext hp
    clear hp
    go_enter Try.func21, Try.ntmps21
    go_wp2_with (first | ((with_reducible refine gate_callee (f := 50) rfl ?_); refine goesL_ (some 6) rfl rfl Try.func50 (by kernel_rfl) rfl #[.pointer (some ⟨w.heap.size + 1, 0, none⟩), .string a0] rfl (by (try simp only [List.map_toArray, List.map_cons, List.map_nil]); first | done | rfl) ?_; refine (setKey_calls _ _ _ _ [] none 0 0 a0 HS0.out.ob rfl rfl (by have := HZ0.out; omega)).mono ?_; rintro e w1 ⟨rfl, v1, h1, h2⟩; refine ⟨_, rfl, ?_⟩; have hs1 := HS0.out.next h1 (h2.mono (fun j _ h => .inl (h.elim id (fun e => by cases e)))); have f1 := hs1.f 1 _ rfl; have HS1 := Aside0.mk hs1; clear hs1; clear h1 h2) | ((with_reducible refine gate_callee (f := 51) rfl ?_); refine goesL_ (some 9) rfl rfl Try.func51 (by kernel_rfl) rfl #[.pointer (some ⟨w.heap.size + 1, 0, none⟩), .string a1] rfl (by (try simp only [List.map_toArray, List.map_cons, List.map_nil]); first | done | rfl) ?_; refine (setValue_calls _ _ _ _ [] none 0 0 a1 HS1.out.ob rfl rfl (by have := HZ1.out; omega)).mono ?_; rintro e w2 ⟨rfl, v2, h1, h2⟩; refine ⟨_, rfl, ?_⟩; have hs2 := HS1.out.next h1 (h2.mono (fun j _ h => .inl (h.elim id (fun e => by cases e)))); have f2 := hs2.f 2 _ rfl; have HS2 := Aside0.mk hs2; clear hs2; clear h1 h2) | ((with_reducible refine gate_callee (f := 52) rfl ?_); refine goesL_ (some 12) rfl rfl Try.func52 (by kernel_rfl) rfl #[.pointer (some ⟨w.heap.size + 1, 0, none⟩), .string a2] rfl (by (try simp only [List.map_toArray, List.map_cons, List.map_nil]); first | done | rfl) ?_; refine (setDomain_calls _ _ _ _ [] none 0 0 a2 HS2.out.ob rfl rfl (by have := HZ2.out; omega)).mono ?_; rintro e w3 ⟨rfl, v3, h1, h2⟩; refine ⟨_, rfl, ?_⟩; have hs3 := HS2.out.next h1 (h2.mono (fun j _ h => .inl (h.elim id (fun e => by cases e)))); have f3 := hs3.f 3 _ rfl; have f3b := hs3.f 4 _ rfl; have HS3 := Aside0.mk hs3; clear hs3; clear h1 h2) | ((with_reducible refine gate_callee (f := 54) rfl ?_); refine goesL_ (some 21) rfl rfl Try.func54 (by kernel_rfl) rfl #[.pointer (some ⟨w.heap.size + 1, 0, none⟩), .int .i64 a4] rfl (by (try simp only [List.map_toArray, List.map_cons, List.map_nil]); first | done | rfl) ?_; refine (setMaxAge_calls _ _ _ _ a4 (.int .i64 0) HS3.out.ob (by intro l e; cases e) rfl).mono ?_; rintro e w5 ⟨rfl, h1, h2⟩; refine ⟨_, rfl, ?_⟩; have hs5 := HS3.out.next h1 (h2.mono (fun j _ h => .inl h)); have f5 := hs5.f 6 _ rfl; have HS5 := Aside0.mk hs5; clear hs5; clear h1 h2) | ((with_reducible refine gate_callee (f := 55) rfl ?_); refine goesL_ (some 24) rfl rfl Try.func55 (by kernel_rfl) rfl #[.pointer (some ⟨w.heap.size + 1, 0, none⟩), .bool a6] rfl (by (try simp only [List.map_toArray, List.map_cons, List.map_nil]); first | done | rfl) ?_; refine (setHTTPOnly_calls _ _ _ _ a6 (.bool false) HS5.out.ob (by intro l e; cases e) rfl).mono ?_; rintro e w6 ⟨rfl, h1, h2⟩; refine ⟨_, rfl, ?_⟩; have hs6 := HS5.out.next h1 (h2.mono (fun j _ h => .inl h)); have f6 := hs6.f 7 _ rfl; have HS6 := Aside0.mk hs6; clear hs6; clear h1 h2) | ((with_reducible refine gate_callee (f := 56) rfl ?_); refine goesL_ (some 27) rfl rfl Try.func56 (by kernel_rfl) rfl #[.pointer (some ⟨w.heap.size + 1, 0, none⟩), .bool a7] rfl (by (try simp only [List.map_toArray, List.map_cons, List.map_nil]); first | done | rfl) ?_; refine (setSecure_calls _ _ _ _ a7 (.bool false) HS6.out.ob (by intro l e; cases e) rfl).mono ?_; rintro e w7 ⟨rfl, h1, h2⟩; refine ⟨_, rfl, ?_⟩; have hs7 := HS6.out.next h1 (h2.mono (fun j _ h => .inl h)); have f7 := hs7.f 5 _ rfl; have HS7 := Aside0.mk hs7; clear hs7; clear h1 h2) | ((with_reducible refine gate_callee (f := 57) rfl ?_); refine goesL_ (some 30) rfl rfl Try.func57 (by kernel_rfl) rfl #[.pointer (some ⟨w.heap.size + 1, 0, none⟩), .int .i64 a5] rfl (by (try simp only [List.map_toArray, List.map_cons, List.map_nil]); first | done | rfl) ?_; refine (setSameSite_calls _ _ _ _ a5 (.int .i64 0) (.bool a7) HS7.out.ob (by intro l e; cases e) rfl (by intro l e; cases e) rfl).mono ?_; rintro e w8 ⟨rfl, h1, h2⟩; refine ⟨_, rfl, ?_⟩; have h3 := (site_vals _ _ _ _ _ _ _ _ _ _ _ _ a7 a5) ▸ h1; have hs8 := HS7.out.next h3 (h2.mono (fun j _ h => .inl h)); have f8 := hs8.f 8 _ rfl; have HS8 := Aside0.mk hs8; clear hs8; clear h1 h2 h3) | ((with_reducible refine gate_callee (f := 58) rfl ?_); refine goesL_ (some 33) rfl rfl Try.func58 (by kernel_rfl) rfl #[.pointer (some ⟨w.heap.size + 1, 0, none⟩), .bool a8] rfl (by (try simp only [List.map_toArray, List.map_cons, List.map_nil]); first | done | rfl) ?_; refine (setPartitioned_calls _ _ _ _ a8 (.bool false) (.bool (a7 || decide (a5 = 4))) HS8.out.ob (by intro l e; cases e) rfl (by intro l e; cases e) rfl).mono ?_; rintro e w9 ⟨rfl, h1, h2⟩; refine ⟨_, rfl, ?_⟩; have h3 := (apart_vals _ _ _ _ _ _ _ _ _ _ _ _ (a7 || decide (a5 = 4)) a8) ▸ h1; have HS9 := Aside0.mk (HS8.out.next h3 (h2.mono (fun j _ h => .inl h))); clear h1 h2 h3) | ((with_reducible refine gate_callee (f := 59) rfl ?_); refine goesL_ (some 34) rfl rfl Try.func59 (by kernel_rfl) rfl #[.pointer (some ⟨w.heap.size + 1, 0, none⟩)] rfl (by (try simp only [List.map_toArray, List.map_cons, List.map_nil]); first | done | rfl) ?_; refine (cookieString_calls _ _ _ _ _ _ _ _ _ a4 a5 a6 (a7 || decide (a5 = 4) || a8) a8 a0.data.toList a1.data.toList a2.data.toList [] [] HMA.out HS9.out.ob (by have := HZ0.out; simp; omega) (by have := HZ1.out; simp; omega) (by have := HZ2.out; simp; omega) (by simp)).mono ?_; rintro e w10 ⟨rfl, hon⟩; refine ⟨_, rfl, ?_⟩; have HON := Aside0.mk hon; clear hon))
    go_ret
    refine ⟨rfl, HS9.out.fin HON.out (.slice none 0 0) rfl (fun j hj => by cases hj)⟩
  · rw [if_neg hp]
    have hp2 : a3.toList = a3.data.toList := Go.Proofs.YtfbllodbcmcndaaKit.tl a3
    have q0 : a3.toList.isEmpty = false := by rw [hp2]; simpa using hp
    have q1 : (a3.toList == ([] : List UInt8)) = false := by rw [hp2]; exact beq_eq_false_iff_ne.2 hp
    clear hp hp2
    go_enter Try.func21, Try.ntmps21
    go_wp2_with (first | ((with_reducible refine gate_callee (f := 50) rfl ?_); refine goesL_ (some 6) rfl rfl Try.func50 (by kernel_rfl) rfl #[.pointer (some ⟨w.heap.size + 1, 0, none⟩), .string a0] rfl (by (try simp only [List.map_toArray, List.map_cons, List.map_nil]); first | done | rfl) ?_; refine (setKey_calls _ _ _ _ [] none 0 0 a0 HS0.out.ob rfl rfl (by have := HZ0.out; omega)).mono ?_; rintro e w1 ⟨rfl, v1, h1, h2⟩; refine ⟨_, rfl, ?_⟩; have hs1 := HS0.out.next h1 (h2.mono (fun j _ h => .inl (h.elim id (fun e => by cases e)))); have f1 := hs1.f 1 _ rfl; have HS1 := Aside0.mk hs1; clear hs1; clear h1 h2) | ((with_reducible refine gate_callee (f := 51) rfl ?_); refine goesL_ (some 9) rfl rfl Try.func51 (by kernel_rfl) rfl #[.pointer (some ⟨w.heap.size + 1, 0, none⟩), .string a1] rfl (by (try simp only [List.map_toArray, List.map_cons, List.map_nil]); first | done | rfl) ?_; refine (setValue_calls _ _ _ _ [] none 0 0 a1 HS1.out.ob rfl rfl (by have := HZ1.out; omega)).mono ?_; rintro e w2 ⟨rfl, v2, h1, h2⟩; refine ⟨_, rfl, ?_⟩; have hs2 := HS1.out.next h1 (h2.mono (fun j _ h => .inl (h.elim id (fun e => by cases e)))); have f2 := hs2.f 2 _ rfl; have HS2 := Aside0.mk hs2; clear hs2; clear h1 h2) | ((with_reducible refine gate_callee (f := 52) rfl ?_); refine goesL_ (some 12) rfl rfl Try.func52 (by kernel_rfl) rfl #[.pointer (some ⟨w.heap.size + 1, 0, none⟩), .string a2] rfl (by (try simp only [List.map_toArray, List.map_cons, List.map_nil]); first | done | rfl) ?_; refine (setDomain_calls _ _ _ _ [] none 0 0 a2 HS2.out.ob rfl rfl (by have := HZ2.out; omega)).mono ?_; rintro e w3 ⟨rfl, v3, h1, h2⟩; refine ⟨_, rfl, ?_⟩; have hs3 := HS2.out.next h1 (h2.mono (fun j _ h => .inl (h.elim id (fun e => by cases e)))); have f3 := hs3.f 3 _ rfl; have f3b := hs3.f 4 _ rfl; have HS3 := Aside0.mk hs3; clear hs3; clear h1 h2) | ((with_reducible refine gate_callee (f := 53) rfl ?_); refine goesL_ (some 18) rfl rfl Try.func53 (by kernel_rfl) rfl #[.pointer (some ⟨w.heap.size + 1, 0, none⟩), .string a3] rfl (by (try simp only [List.map_toArray, List.map_cons, List.map_nil]); first | done | rfl) ?_; refine (setPath_calls _ _ _ _ a3 HS3.out.ob rfl rfl rfl rfl (by have := HZ3.out; omega)).mono ?_; rintro e w4 ⟨rfl, vp, Ab, nb, cb, h1, h2, h6⟩; refine ⟨_, rfl, ?_⟩; have hs4 := HS3.out.next h1 h2; have f4 := hs4.f 4 _ rfl; have HS4 := Aside0.mk hs4; clear hs4; have HVB : Aside0 (∀ j, (Value.slice Ab nb cb).ownBlock = some j → w.heap.size ≤ j) := ⟨fun j hj => Nat.le_trans HS3.out.be.size (h6 j hj)⟩; clear h1 h2 h6) | ((with_reducible refine gate_callee (f := 54) rfl ?_); refine goesL_ (some 21) rfl rfl Try.func54 (by kernel_rfl) rfl #[.pointer (some ⟨w.heap.size + 1, 0, none⟩), .int .i64 a4] rfl (by (try simp only [List.map_toArray, List.map_cons, List.map_nil]); first | done | rfl) ?_; refine (setMaxAge_calls _ _ _ _ a4 (.int .i64 0) HS4.out.ob (by intro l e; cases e) rfl).mono ?_; rintro e w5 ⟨rfl, h1, h2⟩; refine ⟨_, rfl, ?_⟩; have hs5 := HS4.out.next h1 (h2.mono (fun j _ h => .inl h)); have f5 := hs5.f 6 _ rfl; have HS5 := Aside0.mk hs5; clear hs5; clear h1 h2) | ((with_reducible refine gate_callee (f := 55) rfl ?_); refine goesL_ (some 24) rfl rfl Try.func55 (by kernel_rfl) rfl #[.pointer (some ⟨w.heap.size + 1, 0, none⟩), .bool a6] rfl (by (try simp only [List.map_toArray, List.map_cons, List.map_nil]); first | done | rfl) ?_; refine (setHTTPOnly_calls _ _ _ _ a6 (.bool false) HS5.out.ob (by intro l e; cases e) rfl).mono ?_; rintro e w6 ⟨rfl, h1, h2⟩; refine ⟨_, rfl, ?_⟩; have hs6 := HS5.out.next h1 (h2.mono (fun j _ h => .inl h)); have f6 := hs6.f 7 _ rfl; have HS6 := Aside0.mk hs6; clear hs6; clear h1 h2) | ((with_reducible refine gate_callee (f := 56) rfl ?_); refine goesL_ (some 27) rfl rfl Try.func56 (by kernel_rfl) rfl #[.pointer (some ⟨w.heap.size + 1, 0, none⟩), .bool a7] rfl (by (try simp only [List.map_toArray, List.map_cons, List.map_nil]); first | done | rfl) ?_; refine (setSecure_calls _ _ _ _ a7 (.bool false) HS6.out.ob (by intro l e; cases e) rfl).mono ?_; rintro e w7 ⟨rfl, h1, h2⟩; refine ⟨_, rfl, ?_⟩; have hs7 := HS6.out.next h1 (h2.mono (fun j _ h => .inl h)); have f7 := hs7.f 5 _ rfl; have HS7 := Aside0.mk hs7; clear hs7; clear h1 h2) | ((with_reducible refine gate_callee (f := 57) rfl ?_); refine goesL_ (some 30) rfl rfl Try.func57 (by kernel_rfl) rfl #[.pointer (some ⟨w.heap.size + 1, 0, none⟩), .int .i64 a5] rfl (by (try simp only [List.map_toArray, List.map_cons, List.map_nil]); first | done | rfl) ?_; refine (setSameSite_calls _ _ _ _ a5 (.int .i64 0) (.bool a7) HS7.out.ob (by intro l e; cases e) rfl (by intro l e; cases e) rfl).mono ?_; rintro e w8 ⟨rfl, h1, h2⟩; refine ⟨_, rfl, ?_⟩; have h3 := (site_vals _ _ _ _ _ _ _ _ _ _ _ _ a7 a5) ▸ h1; have hs8 := HS7.out.next h3 (h2.mono (fun j _ h => .inl h)); have f8 := hs8.f 8 _ rfl; have HS8 := Aside0.mk hs8; clear hs8; clear h1 h2 h3) | ((with_reducible refine gate_callee (f := 58) rfl ?_); refine goesL_ (some 33) rfl rfl Try.func58 (by kernel_rfl) rfl #[.pointer (some ⟨w.heap.size + 1, 0, none⟩), .bool a8] rfl (by (try simp only [List.map_toArray, List.map_cons, List.map_nil]); first | done | rfl) ?_; refine (setPartitioned_calls _ _ _ _ a8 (.bool false) (.bool (a7 || decide (a5 = 4))) HS8.out.ob (by intro l e; cases e) rfl (by intro l e; cases e) rfl).mono ?_; rintro e w9 ⟨rfl, h1, h2⟩; refine ⟨_, rfl, ?_⟩; have h3 := (apart_vals _ _ _ _ _ _ _ _ _ _ _ _ (a7 || decide (a5 = 4)) a8) ▸ h1; have HS9 := Aside0.mk (HS8.out.next h3 (h2.mono (fun j _ h => .inl h))); clear h1 h2 h3) | ((with_reducible refine gate_callee (f := 59) rfl ?_); refine goesL_ (some 34) rfl rfl Try.func59 (by kernel_rfl) rfl #[.pointer (some ⟨w.heap.size + 1, 0, none⟩)] rfl (by (try simp only [List.map_toArray, List.map_cons, List.map_nil]); first | done | rfl) ?_; refine (cookieString_calls _ _ _ _ _ _ _ _ _ a4 a5 a6 (a7 || decide (a5 = 4) || a8) a8 a0.data.toList a1.data.toList a2.data.toList (norm a3.data.toList) a3.data.toList HMA.out HS9.out.ob (by have := HZ0.out; simp; omega) (by have := HZ1.out; simp; omega) (by have := HZ2.out; simp; omega) (by have q := norm_len2 a3.data.toList; have q2 := HZ3.out; have q3 : a3.data.toList.length = a3.size := (Go.Proofs.YtfbllodbcmcndaaKit.size_L a3).symm; omega)).mono ?_; rintro e w10 ⟨rfl, hon⟩; refine ⟨_, rfl, ?_⟩; have HON := Aside0.mk hon; clear hon))
    go_ret
    exact ⟨rfl, HS9.out.fin HON.out (.slice Ab nb cb) rfl HVB.out⟩
end Go.Proofs.Ytfbllodbcmcndaa.Q
end
section
namespace Go.Proofs.Ytfbllodbcmcndaa.Q
open Go.RowKit Go.Proofs.YtfbllodbcmcndaaW.PrintWords Go.Proofs.YtfbllodbcmcndaaW.PrintLast Go.Proofs.YtfbllodbcmcndaaW.PrintMore
attribute [local go_sem] max2_int min2_int max_two min_two max_three min_three max_four min_four
set_option linter.unusedVariables false
set_option linter.unusedSimpArgs false
def impl_CookieText.f (a0_0 : ByteArray) (a0_1 : ByteArray) (a0_2 : ByteArray) (a0_3 : ByteArray) (a0_4 : Int) (a0_5 : Int) (a0_6 : Bool) (a0_7 : Bool) (a0_8 : Bool) : Option (ByteArray) := if (a0_0.size ≤ 2000 ∧ a0_1.size ≤ 2000 ∧ a0_2.size ≤ 2000 ∧ a0_3.size ≤ 2000) ∧ (-9223372036854775808 ≤ a0_4 ∧ a0_4 ≤ 9223372036854775807) then some ⟨(ckText a0_0.data.toList a0_1.data.toList a0_4 a0_2.data.toList (if a0_3.data.toList = [] then [] else Go.Proofs.Ytfbllodbcmcndaa.SpA.norm a0_3.data.toList) a0_6 (a0_7 || decide (a0_5 = 4) || a0_8) a0_5 a0_8).toArray⟩ else none
theorem impl_CookieText.calls (a0_0 : ByteArray) (a0_1 : ByteArray) (a0_2 : ByteArray) (a0_3 : ByteArray) (a0_4 : Int) (a0_5 : Int) (a0_6 : Bool) (a0_7 : Bool) (a0_8 : Bool) (r : ByteArray) (w : World) (h : impl_CookieText.f a0_0 a0_1 a0_2 a0_3 a0_4 a0_5 a0_6 a0_7 a0_8 = some r) :
    Calls Try.prog 21 #[.agg #[.string a0_0, .string a0_1, .string a0_2, .string a0_3, .int .i64 a0_4, .int .i64 a0_5, .bool a0_6, .bool a0_7, .bool a0_8]] w fun e w' => e = .returned (.string r) ∧ Below w.heap.size w w' := by
  unfold impl_CookieText.f at h
  split at h
  · rename_i hc
    obtain rfl := Option.some.inj h
    exact cookieText_calls a0_0 a0_1 a0_2 a0_3 a0_4 a0_5 a0_6 a0_7 a0_8 w hc.1.1 hc.1.2.1 hc.1.2.2.1 hc.1.2.2.2 hc.2
  · cases h
end Go.Proofs.Ytfbllodbcmcndaa.Q
end
