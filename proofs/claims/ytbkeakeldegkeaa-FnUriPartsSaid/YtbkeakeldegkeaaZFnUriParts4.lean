/- FnUriParts: the law's function, called with any arguments, returns true and leaves its arguments as they were: every input, no condition. Part 5 of 9. -/
import Derived.Test.YtbkeakeldegkeaaZFnUriParts1
import Derived.Test.YtbkeakeldegkeaaZFnUriParts3
import Derived.Test.YtbkeakeldegkeaaZFnUriParts2
import Derived.Deep.RegionLaw
section
namespace Go.Proofs.Ytbkeakeldegkeaa.Q
open Go.RowKit Go.Proofs.YtbkeakeldegkeaaW.PrintWords Go.Proofs.YtbkeakeldegkeaaW.PrintLast Go.Proofs.YtbkeakeldegkeaaW.PrintMore
set_option linter.unusedVariables false
set_option linter.unusedSimpArgs false
open Go.Proofs.Ytbkeakeldegkeaa.SpA (toI toI_length toI_append ix)
open Go.Proofs.Ytbkeakeldegkeaa.Cl (cleanK Free)
def NormPost (w : World) (l : List UInt8) (e : Ending) (w' : World) : Prop := ∃ g c, e = .returned (.slice (some ⟨g, 0, none⟩) l.length c) ∧ BR w' g 5 l ∧ Below w.heap.size w w' ∧ w.heap.size ≤ g ∧ l.length ≤ c
set_option maxHeartbeats 16000000 in
set_option maxRecDepth 100000 in
theorem norm_calls (k : Nat) (A1 : Option Addr) (c1 : Nat) (s a0 l0 : List UInt8) (w : World) (hsrc : Kd.C (Kd.int .u8) w A1 (toI s).length (toI s)) (hc1 : (toI s).length ≤ c1) (hA : hertzproto_addLeadingSlash.f [] (toI s) = some (toI a0)) (hD : hertzproto_decodeArgAppendNoPlus.f k (toI a0) (toI s) = some (toI l0)) (hs : ∃ t, l0 = 47 :: t) (hl : l0.length ≤ 4611686018427387) :
    Calls Try.prog 74 #[.slice none 0 0, .slice A1 (toI s).length c1] w (NormPost w (cleanK l0)) := by
  obtain ⟨i0, hi0, _, hsz0, _⟩ := info_parts info5
  have HI := Aside0.mk hi0
  have HSZ := Aside0.mk hsz0
  have HSRC := Aside0.mk hsrc
  have HC1 := Aside0.mk hc1
  have HA := Aside0.mk hA
  have HD := Aside0.mk hD
  have HS0 := Aside0.mk hs
  have HL := Aside0.mk hl
  have HNE : Aside0 (l0 ≠ []) := ⟨by obtain ⟨t, rfl⟩ := hs; simp⟩
  have HB := Aside0.mk (Below.refl w.heap.size w)
  clear hsrc hc1 hA hD hs hl hi0 hsz0
  go_enter Try.func74, Try.ntmps74
  go_wp2_with (first | ((with_reducible refine gate_callee (f := 92) rfl ?_); refine goesL_ (some 18) rfl rfl Try.func92 (by kernel_rfl) rfl #[.slice none 0 0, .slice A1 (toI s).length c1] rfl (by (try simp only [List.map_toArray, List.map_cons, List.map_nil]); first | done | rfl) ?_; (refine (hertzproto_addLeadingSlash.calls (fun _ => False) (.slice none 0 0) ([] : List Int) A1 c1 (toI s) (toI a0) w _ HB.out (Kd.R_nil _ _ _ _ _) (Kd.C_kept_came (Kd.heap_int _) HSRC.out HB.out (fun _ h => h.elim)) HC1.out HA.out).mono ?_); rintro e w6 ⟨v6, rfl, ho, hb, _⟩; refine ⟨_, rfl, ?_⟩; have HO := Aside0.mk (Kd.R_mono (ok' := fun k_ => w.heap.size ≤ k_) ho (fun k_ hk_ => hk_.elim (fun h => h.elim) id)); clear HB; have HB := Aside0.mk hb; clear hb ho) | ((with_reducible refine gate_callee (f := 93) rfl ?_); refine goesL_ (some 21) rfl rfl Try.func93 (by kernel_rfl) rfl #[v6, .slice A1 (toI s).length c1] rfl (by (try simp only [List.map_toArray, List.map_cons, List.map_nil]); first | done | rfl) ?_; (refine (hertzproto_decodeArgAppendNoPlus.calls k (fun k_ => w.heap.size ≤ k_) v6 (toI a0) A1 c1 (toI s) (toI l0) w _ HB.out HO.out (Kd.C_kept_came (Kd.heap_int _) HSRC.out HB.out (fun _ h => h)) HC1.out HD.out).mono ?_); rintro e w7 ⟨v7, rfl, ho, hb, _⟩; refine ⟨_, rfl, ?_⟩; clear HO HB; obtain ⟨g, c, rfl, hg, hc, hcm, hbr⟩ := BR.of_R ho HNE.out; have HG := Aside0.mk hg; have HC := Aside0.mk hc; have HR := Aside0.mk hbr; have HB := Aside0.mk hb; clear ho hb hg hc hcm hbr))
  go_loopw [5, 6] (fun s5 s6 wr => ∃ (p q : List UInt8) (c5 : Nat), s5 = .slice (some ⟨g, p.length, none⟩) q.length c5 ∧ s6 = .int .i64 ((p.length + q.length : Nat) : Int) ∧ Aside0 (BR wr g 5 (p ++ q)) ∧ Aside0 (q.length ≤ c5) ∧ Aside0 (∀ a' b', p ++ q = a' ++ [47, 47] ++ b' → p.length ≤ a'.length) ∧ Aside0 (cleanK (p ++ q) = cleanK l0) ∧ Aside0 (∃ t, p ++ q = 47 :: t) ∧ Aside0 ((p ++ q).length ≤ l0.length) ∧ Aside0 (Below w.heap.size w wr)) (fun _ s6 _ => (intOf s6).toNat)
  case atStart => exact ⟨[], l0, c, rfl, by simp, ⟨HR.out.heap rfl⟩, HC, ⟨fun _ _ _ => Nat.zero_le _⟩, ⟨rfl⟩, HS0, ⟨Nat.le_refl _⟩, ⟨(by repeat (first | (with_reducible first | exact HB.out | apply below_alloc | apply pw_below_drewN | apply below_drew1) | exact HB.out))⟩⟩
  case round =>
    have HC0 := HC
    clear HR HB HC HSRC HC1 HA HD
    obtain ⟨p, q, c5, rfl, rfl, HR, HC, HINV, HCL, HSL, HLEN, HB⟩ := hrel
    obtain ⟨r1, hr1⟩ : ∃ r1, ix [47, 47] q 0 = r1 := ⟨_, rfl⟩
    have HR1 := Aside0.mk hr1
    obtain ⟨z6, hz6⟩ : ∃ z6 : Int, z6 = ((p.length + q.length : Nat) : Int) := ⟨_, rfl⟩
    rw [← hz6]
    have HZ6 := Aside0.mk hz6
    clear hz6
    have HPL : Aside0 ((p ++ q).length ≤ 4611686018427387) := ⟨Nat.le_trans HLEN.out HL.out⟩
    rcases SpA.ix_cases [47, 47] (by decide) q with ⟨hix, hno⟩ | ⟨a, b, hq, hix, hmin⟩
    · have b1 : decide (r1 < 0) = true := decide_eq_true (by omega)
      have HF := Aside0.mk (SpA.dup_none p q hno HINV.out)
      obtain ⟨L1, hL1⟩ : ∃ L1, L1 = p ++ q := ⟨_, rfl⟩
      have HCUT := cutTo (P := Try.prog) Try.underlying49 HI.out (some ⟨g, 0, none⟩) l0.length c L1.length z6 (by rw [HZ6.out, hL1]; simp) (by rw [hL1]; exact HLEN.out) HC0.out
      have HL1 := Aside0.mk hL1
      clear hix hno hr1 hL1
      go_wp2_with (first | ((with_reducible refine gate_callee (f := 94) rfl ?_); refine goesL_ (some 26) rfl rfl Try.func94 (by kernel_rfl) rfl #[] rfl (by (try simp only [List.map_toArray, List.map_cons, List.map_nil]); first | done | rfl) ?_; refine (strSS_calls _).mono ?_; rintro e wq ⟨gSS, cSS, rfl, hcSS, hbS, hbel⟩; refine ⟨_, rfl, ?_⟩; have HSS := Aside0.mk hbS; have n0_ := Aside0.mk (BR.below2 HR.out hbel rfl); have n1_ := Aside0.mk (below_step (by repeat (first | (with_reducible first | exact HB.out | apply below_alloc | apply pw_below_drewN | apply below_drew1) | exact HB.out)) hbel); clear HR HB; have HR := n0_; have HB := n1_; clear n0_ n1_ hbS hbel) | ((with_reducible refine gate_callee (f := 83) rfl ?_); refine goesL_ (some 27) rfl rfl Try.func83 (by kernel_rfl) rfl #[.slice (some ⟨g, p.length, none⟩) q.length c5, .slice (some ⟨gSS, 0, none⟩) 2 cSS] rfl (by (try simp only [List.map_toArray, List.map_cons, List.map_nil]); first | done | rfl) ?_; refine (zz_calls (p := p) (q := q) (sub := [47, 47]) r1 HR1.out (HR.out.heap rfl) HC.out (HSS.out.heap rfl) hcSS (by decide) HPL.out (by decide)).mono ?_; rintro e wq ⟨rfl, ⟨nd, rfl⟩⟩; refine ⟨_, rfl, ?_⟩))
      rw [← HL1.out] at HR HF HCL HSL HLEN HPL
      have HC : Aside0 (L1.length ≤ c) := ⟨Nat.le_trans HLEN.out HC0.out⟩
      clear HCUT HL1 HINV HR1 HZ6 HSS hcSS
      go_loopw [5] (fun s5 wr => ∃ (L : List UInt8) (c5 : Nat), s5 = .slice (some ⟨g, 0, none⟩) L.length c5 ∧ Aside0 (BR wr g 5 L) ∧ Aside0 (L.length ≤ c5) ∧ Aside0 (∀ a b, L ≠ a ++ 47 :: 47 :: b) ∧ Aside0 (cleanK L = cleanK l0) ∧ Aside0 (∃ t, L = 47 :: t) ∧ Aside0 (L.length ≤ l0.length) ∧ Aside0 (Below w.heap.size w wr)) (fun s5 _ => lenV s5)
      case atStart => exact ⟨L1, c, rfl, ⟨HR.out.heap rfl⟩, HC, HF, HCL, HSL, HLEN, ⟨(by repeat (first | (with_reducible first | exact HB.out | apply below_alloc | apply pw_below_drewN | apply below_drew1) | exact HB.out))⟩⟩
      case round =>
        clear HR HB HC HF HCL HSL HLEN HPL
        obtain ⟨L, c5, rfl, HR, HC, HF, HCL, HSL, HLEN, HB⟩ := hrel
        obtain ⟨r2, hr2⟩ : ∃ r2, ix [47, 46, 47] L 0 = r2 := ⟨_, rfl⟩
        have HR2 := Aside0.mk hr2
        have HPL : Aside0 (L.length ≤ 4611686018427387) := ⟨Nat.le_trans HLEN.out HL.out⟩
        rcases SpA.ix_cases [47, 46, 47] (by decide) L with ⟨hix, hno⟩ | ⟨a, b, hq, hix, hmin⟩
        · have b2 : decide (r2 < 0) = true := decide_eq_true (by omega)
          have HF2 : Aside0 (∀ a b, L ≠ a ++ 47 :: 46 :: 47 :: b) := ⟨fun a b e => hno a b (by rw [e]; simp)⟩
          clear hix hno hr2
          go_wp2_with (first | ((with_reducible refine gate_callee (f := 95) rfl ?_); refine goesL_ (some 49) rfl rfl Try.func95 (by kernel_rfl) rfl #[] rfl (by (try simp only [List.map_toArray, List.map_cons, List.map_nil]); first | done | rfl) ?_; refine (strSDS_calls _).mono ?_; rintro e wq ⟨gST, cST, rfl, hcST, hbS, hbel⟩; refine ⟨_, rfl, ?_⟩; have HST := Aside0.mk hbS; have n0_ := Aside0.mk (BR.below2 HR.out hbel rfl); have n1_ := Aside0.mk (below_step (by repeat (first | (with_reducible first | exact HB.out | apply below_alloc | apply pw_below_drewN | apply below_drew1) | exact HB.out)) hbel); clear HR HB; have HR := n0_; have HB := n1_; clear n0_ n1_ hbS hbel) | ((with_reducible refine gate_callee (f := 83) rfl ?_); refine goesL_ (some 50) rfl rfl Try.func83 (by kernel_rfl) rfl #[.slice (some ⟨g, 0, none⟩) L.length c5, .slice (some ⟨gST, 0, none⟩) 3 cST] rfl (by (try simp only [List.map_toArray, List.map_cons, List.map_nil]); first | done | rfl) ?_; refine (zz0_calls (q := L) (sub := [47, 46, 47]) r2 HR2.out (HR.out.heap rfl) HC.out (HST.out.heap rfl) hcST (by decide) HPL.out (by decide)).mono ?_; rintro e wq ⟨rfl, ⟨nd, rfl⟩⟩; refine ⟨_, rfl, ?_⟩))
          clear HR2 HST hcST
          go_loopw [5] (fun s5 wr => ∃ (L : List UInt8) (c5 : Nat), s5 = .slice (some ⟨g, 0, none⟩) L.length c5 ∧ Aside0 (BR wr g 5 L) ∧ Aside0 (L.length ≤ c5) ∧ Aside0 (∀ a b, L ≠ a ++ 47 :: 47 :: b) ∧ Aside0 (∀ a b, L ≠ a ++ 47 :: 46 :: 47 :: b) ∧ Aside0 (cleanK L = cleanK l0) ∧ Aside0 (∃ t, L = 47 :: t) ∧ Aside0 (L.length ≤ l0.length) ∧ Aside0 (Below w.heap.size w wr)) (fun s5 _ => lenV s5)
          case atStart => exact ⟨L, c5, rfl, ⟨HR.out.heap rfl⟩, HC, HF, HF2, HCL, HSL, HLEN, ⟨(by repeat (first | (with_reducible first | exact HB.out | apply below_alloc | apply pw_below_drewN | apply below_drew1) | exact HB.out))⟩⟩
          case round =>
            clear HR HB HC HF HF2 HCL HSL HLEN HPL
            obtain ⟨L, c5, rfl, HR, HC, HF, HF2, HCL, HSL, HLEN, HB⟩ := hrel
            obtain ⟨r3, hr3⟩ : ∃ r3, ix [47, 46, 46, 47] L 0 = r3 := ⟨_, rfl⟩
            have HR3 := Aside0.mk hr3
            have HPL : Aside0 (L.length ≤ 4611686018427387) := ⟨Nat.le_trans HLEN.out HL.out⟩
            rcases SpA.ix_cases [47, 46, 46, 47] (by decide) L with ⟨hix, hno⟩ | ⟨a, b, hq, hix, hmin⟩
            · have b3 : decide (r3 < 0) = true := decide_eq_true (by omega)
              have HF3 : Aside0 (Free L) := ⟨⟨HF.out, HF2.out, fun a b e => hno a b (by rw [e]; simp)⟩⟩
              clear hix hno hr3
              obtain ⟨r5, hev5, hsuf, hnsuf, hb5⟩ := SpA.lastIdx L HPL.out
              have HEV5 := Aside0.mk hev5
              by_cases hx : ∃ x, L = x ++ [47, 46, 46]
              · obtain ⟨x, hx⟩ := hx
                have HX := Aside0.mk hx
                have hr5 := hsuf x hx
                have hxl : L.length = x.length + 3 := by rw [hx]; simp
                have hcq := HC.out
                have hpl := HPL.out
                have HPC : Aside0 (x.length ≤ c5) := ⟨by omega⟩
                have HPB : Aside0 (x.length ≤ 4611686018427387) := ⟨by omega⟩
                have b5 : decide (r5 ≥ 0) = true := decide_eq_true (by omega)
                have b5' : decide (0 ≤ r5) = true := decide_eq_true (by omega)
                have b6 : (wrap64 (r5 + 3) == (L.length : Int)) = true := beq_iff_eq.2 (by unfold wrap64; omega)
                have b7 : wrap64 (r5 + 3) = (L.length : Int) := beq_iff_eq.1 b6
                have HCUT5 := cutTo (P := Try.prog) Try.underlying49 HI.out (some ⟨g, 0, none⟩) L.length c5 x.length r5 hr5 (by omega) hcq
                rcases SpA.lastIB x 47 (by omega) with ⟨p', y, ha, hy, hev⟩ | ⟨ha, hev⟩
                · have hal : x.length = p'.length + (y.length + 1) := by rw [ha]; simp
                  obtain ⟨r6, hr6⟩ : ∃ r6 : Int, r6 = (p'.length : Int) := ⟨_, rfl⟩
                  rw [← hr6] at hev
                  have HEV6 := Aside0.mk hev
                  have b8 : decide (r6 < 0) = false := decide_eq_false (by omega)
                  obtain ⟨n7, hn7⟩ : ∃ n7, n7 = p'.length + 1 := ⟨_, rfl⟩
                  obtain ⟨x7, hx7⟩ : ∃ x7 : Int, x7 = (n7 : Int) := ⟨_, rfl⟩
                  have hw7 : wrap64 (r6 + 1) = x7 := by unfold wrap64; omega
                  have HCUT6 := cutTo (P := Try.prog) Try.underlying49 HI.out (some ⟨g, 0, none⟩) L.length c5 n7 x7 hx7 (by omega) hcq
                  have hrow : L = p' ++ 47 :: y ++ [47, 46, 46] := by rw [hx, ha]
                  have HCLN : Aside0 (cleanK l0 = p' ++ [47]) := ⟨by
                    rw [← HCL.out, hrow]
                    refine Cl.clean_end p' y (by rw [← hrow]; exact HF3.out) hy ?_
                    obtain ⟨t, ht⟩ := HSL.out
                    cases p' with
                    | nil => exact .inl rfl
                    | cons z p' => rw [hrow] at ht; exact .inr ⟨p', by rw [(List.cons.inj ht).1]⟩⟩
                  have HN7 : Aside0 (n7 = (cleanK l0).length) := ⟨by rw [HCLN.out]; simp; exact hn7⟩
                  have HROW : Aside0 (L = cleanK l0 ++ (y ++ [47, 46, 46])) := ⟨by rw [HCLN.out, hrow]; simp⟩
                  clear hev5 hsuf hnsuf hb5 hx hr5 hxl hcq hpl ha hy hev hal hr6 hn7 hx7 hrow
                  go_wp2_with (first | ((with_reducible refine gate_callee (f := 96) rfl ?_); refine goesL_ (some 74) rfl rfl Try.func96 (by kernel_rfl) rfl #[] rfl (by (try simp only [List.map_toArray, List.map_cons, List.map_nil]); first | done | rfl) ?_; refine (strSDDS_calls _).mono ?_; rintro e wq ⟨gSV, cSV, rfl, hcSV, hbS, hbel⟩; refine ⟨_, rfl, ?_⟩; have HSV := Aside0.mk hbS; have n0_ := Aside0.mk (BR.below2 HR.out hbel rfl); have n1_ := Aside0.mk (below_step (by repeat (first | (with_reducible first | exact HB.out | apply below_alloc | apply pw_below_drewN | apply below_drew1) | exact HB.out)) hbel); clear HR HB; have HR := n0_; have HB := n1_; clear n0_ n1_ hbS hbel) | ((with_reducible refine gate_callee (f := 83) rfl ?_); refine goesL_ (some 75) rfl rfl Try.func83 (by kernel_rfl) rfl #[.slice (some ⟨g, 0, none⟩) L.length c5, .slice (some ⟨gSV, 0, none⟩) 4 cSV] rfl (by (try simp only [List.map_toArray, List.map_cons, List.map_nil]); first | done | rfl) ?_; refine (zz0_calls (q := L) (sub := [47, 46, 46, 47]) r3 HR3.out (HR.out.heap rfl) HC.out (HSV.out.heap rfl) hcSV (by decide) HPL.out (by decide)).mono ?_; rintro e wq ⟨rfl, ⟨nd, rfl⟩⟩; refine ⟨_, rfl, ?_⟩) | ((with_reducible refine gate_callee (f := 98) rfl ?_); refine goesL_ (some 105) rfl rfl Try.func98 (by kernel_rfl) rfl #[] rfl (by (try simp only [List.map_toArray, List.map_cons, List.map_nil]); first | done | rfl) ?_; refine (strSDD_calls _).mono ?_; rintro e wq ⟨gSY, cSY, rfl, hcSY, hbS, hbel⟩; refine ⟨_, rfl, ?_⟩; have HSY := Aside0.mk hbS; have n0_ := Aside0.mk (BR.below2 HR.out hbel rfl); have n1_ := Aside0.mk (below_step (by repeat (first | (with_reducible first | exact HB.out | apply below_alloc | apply pw_below_drewN | apply below_drew1) | exact HB.out)) hbel); clear HR HB; have HR := n0_; have HB := n1_; clear n0_ n1_ hbS hbel) | ((with_reducible refine gate_callee (f := 97) rfl ?_); refine goesL_ (some 106) rfl rfl Try.func97 (by kernel_rfl) rfl #[.slice (some ⟨g, 0, none⟩) L.length c5, .slice (some ⟨gSY, 0, none⟩) 3 cSY] rfl (by (try simp only [List.map_toArray, List.map_cons, List.map_nil]); first | done | rfl) ?_; refine (lix_calls (p := L) r5 HEV5.out (HR.out.heap rfl) HC.out (HSY.out.heap rfl) hcSY HPL.out).mono ?_; rintro e wq ⟨rfl, ⟨nd, rfl⟩⟩; refine ⟨_, rfl, ?_⟩) | ((with_reducible refine gate_callee (f := 98) rfl ?_); (refine gate_guard (by kernel_rfl) ?_); refine goesL_ (some 111) rfl rfl Try.func98 (by kernel_rfl) rfl #[] rfl (by (try simp only [List.map_toArray, List.map_cons, List.map_nil]); first | done | rfl) ?_; refine (strSDD_calls _).mono ?_; rintro e wq ⟨gSZ, cSZ, rfl, hcSZ, hbS, hbel⟩; refine ⟨_, rfl, ?_⟩; have HSZ := Aside0.mk hbS; have n0_ := Aside0.mk (BR.below2 HR.out hbel rfl); have n1_ := Aside0.mk (below_step (by repeat (first | (with_reducible first | exact HB.out | apply below_alloc | apply pw_below_drewN | apply below_drew1) | exact HB.out)) hbel); clear HR HB; have HR := n0_; have HB := n1_; clear n0_ n1_ hbS hbel) | ((with_reducible refine gate_callee (f := 71) rfl ?_); refine goesL_ (some 121) rfl rfl Try.func71 (by kernel_rfl) rfl #[.slice (some ⟨g, 0, none⟩) x.length c5, .int .u8 47] rfl (by (try simp only [List.map_toArray, List.map_cons, List.map_nil]); first | done | rfl) ?_; refine (lib_calls (p := x) r6 HEV6.out (BR.pre (q := [47, 46, 46]) (by rw [← HX.out]; exact HR.out.heap rfl)) HPC.out HPB.out).mono ?_; rintro e wq ⟨rfl, ⟨nd, rfl⟩⟩; refine ⟨_, rfl, ?_⟩))
                  go_ret
                  exact ⟨g, c5, congrArg Ending.returned (congrArg (fun n => Value.slice (some ⟨g, 0, none⟩) n c5) HN7.out), BR.pre (q := y ++ [47, 46, 46]) (by rw [← HROW.out]; exact HR.out.heap rfl), (by repeat (first | (with_reducible first | exact HB.out | apply below_alloc | apply pw_below_drewN | apply below_drew1) | exact HB.out)), HG.out, (by have h1 := HC.out; have h2 := congrArg List.length HROW.out; simp only [List.length_append] at h2; omega)⟩
                · obtain ⟨t0, ht0⟩ := HSL.out
                  have ha0 : x = [] := no_slash_first x t0 L [47, 46, 46] hx ht0 ha
                  obtain ⟨r6, hr6⟩ : ∃ r6 : Int, r6 = -1 := ⟨_, rfl⟩
                  rw [← hr6] at hev
                  have HEV6 := Aside0.mk hev
                  have b8 : decide (r6 < 0) = true := decide_eq_true (by omega)
                  have HCLN : Aside0 (cleanK l0 = [47]) := ⟨by rw [← HCL.out, hx, ha0]; exact Cl.clean_end0⟩
                  clear hev5 hsuf hnsuf hb5 hx hr5 hxl hcq hpl ha hev hr6 ht0 ha0
                  go_wp2_with (first | ((with_reducible refine gate_callee (f := 96) rfl ?_); refine goesL_ (some 74) rfl rfl Try.func96 (by kernel_rfl) rfl #[] rfl (by (try simp only [List.map_toArray, List.map_cons, List.map_nil]); first | done | rfl) ?_; refine (strSDDS_calls _).mono ?_; rintro e wq ⟨gSV, cSV, rfl, hcSV, hbS, hbel⟩; refine ⟨_, rfl, ?_⟩; have HSV := Aside0.mk hbS; have n0_ := Aside0.mk (BR.below2 HR.out hbel rfl); have n1_ := Aside0.mk (below_step (by repeat (first | (with_reducible first | exact HB.out | apply below_alloc | apply pw_below_drewN | apply below_drew1) | exact HB.out)) hbel); clear HR HB; have HR := n0_; have HB := n1_; clear n0_ n1_ hbS hbel) | ((with_reducible refine gate_callee (f := 83) rfl ?_); refine goesL_ (some 75) rfl rfl Try.func83 (by kernel_rfl) rfl #[.slice (some ⟨g, 0, none⟩) L.length c5, .slice (some ⟨gSV, 0, none⟩) 4 cSV] rfl (by (try simp only [List.map_toArray, List.map_cons, List.map_nil]); first | done | rfl) ?_; refine (zz0_calls (q := L) (sub := [47, 46, 46, 47]) r3 HR3.out (HR.out.heap rfl) HC.out (HSV.out.heap rfl) hcSV (by decide) HPL.out (by decide)).mono ?_; rintro e wq ⟨rfl, ⟨nd, rfl⟩⟩; refine ⟨_, rfl, ?_⟩) | ((with_reducible refine gate_callee (f := 98) rfl ?_); refine goesL_ (some 105) rfl rfl Try.func98 (by kernel_rfl) rfl #[] rfl (by (try simp only [List.map_toArray, List.map_cons, List.map_nil]); first | done | rfl) ?_; refine (strSDD_calls _).mono ?_; rintro e wq ⟨gSY, cSY, rfl, hcSY, hbS, hbel⟩; refine ⟨_, rfl, ?_⟩; have HSY := Aside0.mk hbS; have n0_ := Aside0.mk (BR.below2 HR.out hbel rfl); have n1_ := Aside0.mk (below_step (by repeat (first | (with_reducible first | exact HB.out | apply below_alloc | apply pw_below_drewN | apply below_drew1) | exact HB.out)) hbel); clear HR HB; have HR := n0_; have HB := n1_; clear n0_ n1_ hbS hbel) | ((with_reducible refine gate_callee (f := 97) rfl ?_); refine goesL_ (some 106) rfl rfl Try.func97 (by kernel_rfl) rfl #[.slice (some ⟨g, 0, none⟩) L.length c5, .slice (some ⟨gSY, 0, none⟩) 3 cSY] rfl (by (try simp only [List.map_toArray, List.map_cons, List.map_nil]); first | done | rfl) ?_; refine (lix_calls (p := L) r5 HEV5.out (HR.out.heap rfl) HC.out (HSY.out.heap rfl) hcSY HPL.out).mono ?_; rintro e wq ⟨rfl, ⟨nd, rfl⟩⟩; refine ⟨_, rfl, ?_⟩) | ((with_reducible refine gate_callee (f := 98) rfl ?_); (refine gate_guard (by kernel_rfl) ?_); refine goesL_ (some 111) rfl rfl Try.func98 (by kernel_rfl) rfl #[] rfl (by (try simp only [List.map_toArray, List.map_cons, List.map_nil]); first | done | rfl) ?_; refine (strSDD_calls _).mono ?_; rintro e wq ⟨gSZ, cSZ, rfl, hcSZ, hbS, hbel⟩; refine ⟨_, rfl, ?_⟩; have HSZ := Aside0.mk hbS; have n0_ := Aside0.mk (BR.below2 HR.out hbel rfl); have n1_ := Aside0.mk (below_step (by repeat (first | (with_reducible first | exact HB.out | apply below_alloc | apply pw_below_drewN | apply below_drew1) | exact HB.out)) hbel); clear HR HB; have HR := n0_; have HB := n1_; clear n0_ n1_ hbS hbel) | ((with_reducible refine gate_callee (f := 71) rfl ?_); refine goesL_ (some 121) rfl rfl Try.func71 (by kernel_rfl) rfl #[.slice (some ⟨g, 0, none⟩) x.length c5, .int .u8 47] rfl (by (try simp only [List.map_toArray, List.map_cons, List.map_nil]); first | done | rfl) ?_; refine (lib_calls (p := x) r6 HEV6.out (BR.pre (q := [47, 46, 46]) (by rw [← HX.out]; exact HR.out.heap rfl)) HPC.out HPB.out).mono ?_; rintro e wq ⟨rfl, ⟨nd, rfl⟩⟩; refine ⟨_, rfl, ?_⟩) | ((with_reducible refine gate_callee (f := 88) rfl ?_); refine goesL_ (some 124) rfl rfl Try.func88 (by kernel_rfl) rfl #[] rfl (by (try simp only [List.map_toArray, List.map_cons, List.map_nil]); first | done | rfl) ?_; refine (strSlash_calls _).mono ?_; rintro e wq ⟨gSO, cSO, rfl, hcSO, hbS, hgSO, hbel⟩; refine ⟨_, rfl, ?_⟩; have HGSO : Aside0 (w.heap.size ≤ gSO) := ⟨(by have h1 := HB.out.size; have h2 : _ ≤ gSO := hgSO; exact Nat.le_trans h1 h2)⟩; clear hgSO; have HSO := Aside0.mk hbS; have n0_ := Aside0.mk (BR.below2 HR.out hbel rfl); have n1_ := Aside0.mk (below_step (by repeat (first | (with_reducible first | exact HB.out | apply below_alloc | apply pw_below_drewN | apply below_drew1) | exact HB.out)) hbel); clear HR HB; have HR := n0_; have HB := n1_; clear n0_ n1_ hbS hbel))
                  go_ret
                  rw [HCLN.out]
                  exact ⟨gSO, cSO, rfl, HSO.out.heap rfl, (by repeat (first | (with_reducible first | exact HB.out | apply below_alloc | apply pw_below_drewN | apply below_drew1) | exact HB.out)), HGSO.out, hcSO⟩
              · have hno : ∀ x, L ≠ x ++ [47, 46, 46] := fun x e => hx ⟨x, e⟩
                have HCLN : Aside0 (cleanK l0 = L) := ⟨by
                  obtain ⟨t, ht⟩ := HSL.out
                  rw [← HCL.out, ht]
                  exact Cl.clean_stays t (by rw [← ht]; exact HF3.out) (by rw [← ht]; exact hno)⟩
                have hpl := HPL.out
                by_cases h5 : 0 ≤ r5
                · have b5 : decide (r5 ≥ 0) = true := decide_eq_true h5
                  have b5' : decide (0 ≤ r5) = true := decide_eq_true h5
                  have hle5 : r5 ≤ 4611686018427387904 := by have := HPL.out; omega
                  have b7 : ¬ wrap64 (r5 + 3) = (L.length : Int) := by have := hnsuf hno; unfold wrap64; omega
                  have b6 : (wrap64 (r5 + 3) == (L.length : Int)) = false := beq_eq_false_iff_ne.2 b7
                  have b9 : (r5 + 3 == (L.length : Int)) = false := beq_eq_false_iff_ne.2 (by have := hnsuf hno; omega)
                  clear hle5 hev5 hsuf hnsuf hb5 hx hno hpl
                  go_wp2_with (first | ((with_reducible refine gate_callee (f := 96) rfl ?_); refine goesL_ (some 74) rfl rfl Try.func96 (by kernel_rfl) rfl #[] rfl (by (try simp only [List.map_toArray, List.map_cons, List.map_nil]); first | done | rfl) ?_; refine (strSDDS_calls _).mono ?_; rintro e wq ⟨gSV, cSV, rfl, hcSV, hbS, hbel⟩; refine ⟨_, rfl, ?_⟩; have HSV := Aside0.mk hbS; have n0_ := Aside0.mk (BR.below2 HR.out hbel rfl); have n1_ := Aside0.mk (below_step (by repeat (first | (with_reducible first | exact HB.out | apply below_alloc | apply pw_below_drewN | apply below_drew1) | exact HB.out)) hbel); clear HR HB; have HR := n0_; have HB := n1_; clear n0_ n1_ hbS hbel) | ((with_reducible refine gate_callee (f := 83) rfl ?_); refine goesL_ (some 75) rfl rfl Try.func83 (by kernel_rfl) rfl #[.slice (some ⟨g, 0, none⟩) L.length c5, .slice (some ⟨gSV, 0, none⟩) 4 cSV] rfl (by (try simp only [List.map_toArray, List.map_cons, List.map_nil]); first | done | rfl) ?_; refine (zz0_calls (q := L) (sub := [47, 46, 46, 47]) r3 HR3.out (HR.out.heap rfl) HC.out (HSV.out.heap rfl) hcSV (by decide) HPL.out (by decide)).mono ?_; rintro e wq ⟨rfl, ⟨nd, rfl⟩⟩; refine ⟨_, rfl, ?_⟩) | ((with_reducible refine gate_callee (f := 98) rfl ?_); refine goesL_ (some 105) rfl rfl Try.func98 (by kernel_rfl) rfl #[] rfl (by (try simp only [List.map_toArray, List.map_cons, List.map_nil]); first | done | rfl) ?_; refine (strSDD_calls _).mono ?_; rintro e wq ⟨gSY, cSY, rfl, hcSY, hbS, hbel⟩; refine ⟨_, rfl, ?_⟩; have HSY := Aside0.mk hbS; have n0_ := Aside0.mk (BR.below2 HR.out hbel rfl); have n1_ := Aside0.mk (below_step (by repeat (first | (with_reducible first | exact HB.out | apply below_alloc | apply pw_below_drewN | apply below_drew1) | exact HB.out)) hbel); clear HR HB; have HR := n0_; have HB := n1_; clear n0_ n1_ hbS hbel) | ((with_reducible refine gate_callee (f := 97) rfl ?_); refine goesL_ (some 106) rfl rfl Try.func97 (by kernel_rfl) rfl #[.slice (some ⟨g, 0, none⟩) L.length c5, .slice (some ⟨gSY, 0, none⟩) 3 cSY] rfl (by (try simp only [List.map_toArray, List.map_cons, List.map_nil]); first | done | rfl) ?_; refine (lix_calls (p := L) r5 HEV5.out (HR.out.heap rfl) HC.out (HSY.out.heap rfl) hcSY HPL.out).mono ?_; rintro e wq ⟨rfl, ⟨nd, rfl⟩⟩; refine ⟨_, rfl, ?_⟩) | ((with_reducible refine gate_callee (f := 98) rfl ?_); (refine gate_guard (by kernel_rfl) ?_); refine goesL_ (some 111) rfl rfl Try.func98 (by kernel_rfl) rfl #[] rfl (by (try simp only [List.map_toArray, List.map_cons, List.map_nil]); first | done | rfl) ?_; refine (strSDD_calls _).mono ?_; rintro e wq ⟨gSZ, cSZ, rfl, hcSZ, hbS, hbel⟩; refine ⟨_, rfl, ?_⟩; have HSZ := Aside0.mk hbS; have n0_ := Aside0.mk (BR.below2 HR.out hbel rfl); have n1_ := Aside0.mk (below_step (by repeat (first | (with_reducible first | exact HB.out | apply below_alloc | apply pw_below_drewN | apply below_drew1) | exact HB.out)) hbel); clear HR HB; have HR := n0_; have HB := n1_; clear n0_ n1_ hbS hbel))
                  go_ret
                  rw [HCLN.out]
                  exact ⟨g, c5, rfl, HR.out.heap rfl, (by repeat (first | (with_reducible first | exact HB.out | apply below_alloc | apply pw_below_drewN | apply below_drew1) | exact HB.out)), HG.out, HC.out⟩
                · have b5 : decide (r5 ≥ 0) = false := decide_eq_false h5
                  have b5' : decide (0 ≤ r5) = false := decide_eq_false h5
                  clear hev5 hsuf hnsuf hb5 hx hno hpl
                  go_wp2_with (first | ((with_reducible refine gate_callee (f := 96) rfl ?_); refine goesL_ (some 74) rfl rfl Try.func96 (by kernel_rfl) rfl #[] rfl (by (try simp only [List.map_toArray, List.map_cons, List.map_nil]); first | done | rfl) ?_; refine (strSDDS_calls _).mono ?_; rintro e wq ⟨gSV, cSV, rfl, hcSV, hbS, hbel⟩; refine ⟨_, rfl, ?_⟩; have HSV := Aside0.mk hbS; have n0_ := Aside0.mk (BR.below2 HR.out hbel rfl); have n1_ := Aside0.mk (below_step (by repeat (first | (with_reducible first | exact HB.out | apply below_alloc | apply pw_below_drewN | apply below_drew1) | exact HB.out)) hbel); clear HR HB; have HR := n0_; have HB := n1_; clear n0_ n1_ hbS hbel) | ((with_reducible refine gate_callee (f := 83) rfl ?_); refine goesL_ (some 75) rfl rfl Try.func83 (by kernel_rfl) rfl #[.slice (some ⟨g, 0, none⟩) L.length c5, .slice (some ⟨gSV, 0, none⟩) 4 cSV] rfl (by (try simp only [List.map_toArray, List.map_cons, List.map_nil]); first | done | rfl) ?_; refine (zz0_calls (q := L) (sub := [47, 46, 46, 47]) r3 HR3.out (HR.out.heap rfl) HC.out (HSV.out.heap rfl) hcSV (by decide) HPL.out (by decide)).mono ?_; rintro e wq ⟨rfl, ⟨nd, rfl⟩⟩; refine ⟨_, rfl, ?_⟩) | ((with_reducible refine gate_callee (f := 98) rfl ?_); refine goesL_ (some 105) rfl rfl Try.func98 (by kernel_rfl) rfl #[] rfl (by (try simp only [List.map_toArray, List.map_cons, List.map_nil]); first | done | rfl) ?_; refine (strSDD_calls _).mono ?_; rintro e wq ⟨gSY, cSY, rfl, hcSY, hbS, hbel⟩; refine ⟨_, rfl, ?_⟩; have HSY := Aside0.mk hbS; have n0_ := Aside0.mk (BR.below2 HR.out hbel rfl); have n1_ := Aside0.mk (below_step (by repeat (first | (with_reducible first | exact HB.out | apply below_alloc | apply pw_below_drewN | apply below_drew1) | exact HB.out)) hbel); clear HR HB; have HR := n0_; have HB := n1_; clear n0_ n1_ hbS hbel) | ((with_reducible refine gate_callee (f := 97) rfl ?_); refine goesL_ (some 106) rfl rfl Try.func97 (by kernel_rfl) rfl #[.slice (some ⟨g, 0, none⟩) L.length c5, .slice (some ⟨gSY, 0, none⟩) 3 cSY] rfl (by (try simp only [List.map_toArray, List.map_cons, List.map_nil]); first | done | rfl) ?_; refine (lix_calls (p := L) r5 HEV5.out (HR.out.heap rfl) HC.out (HSY.out.heap rfl) hcSY HPL.out).mono ?_; rintro e wq ⟨rfl, ⟨nd, rfl⟩⟩; refine ⟨_, rfl, ?_⟩))
                  go_ret
                  rw [HCLN.out]
                  exact ⟨g, c5, rfl, HR.out.heap rfl, (by repeat (first | (with_reducible first | exact HB.out | apply below_alloc | apply pw_below_drewN | apply below_drew1) | exact HB.out)), HG.out, HC.out⟩
            · have b3 : decide (r3 < 0) = false := decide_eq_false (by omega)
              rcases SpA.lastIB a 47 (by rw [hq] at HPL; have := HPL.out; simp at this; omega) with ⟨p', y, ha, hy, hev⟩ | ⟨ha, hev⟩
              · have hra : r3 = (a.length : Int) := by rw [← hr3, hix]
                have hql : L.length = a.length + (b.length + 4) := by rw [hq]; simp <;> omega
                have hcq := HC.out
                have hpl := HPL.out
                have HPC : Aside0 (a.length ≤ c5) := ⟨by omega⟩
                have HPB : Aside0 (a.length ≤ 4611686018427387) := ⟨by omega⟩
                have HCUT0 := cutTo (P := Try.prog) Try.underlying49 HI.out (some ⟨g, 0, none⟩) L.length c5 a.length r3 hra (by omega) hcq
                have hal : a.length = p'.length + (y.length + 1) := by rw [ha]; simp
                obtain ⟨r4, hr4⟩ : ∃ r4 : Int, r4 = (p'.length : Int) := ⟨_, rfl⟩
                rw [← hr4] at hev
                have HEV := Aside0.mk hev
                have b4 : decide (r4 < 0) = false := decide_eq_false (by omega)
                have hgood : Cl.good y := good_part L p' y b HF.out HF2.out (by rw [hq, ha]) (by rw [← ha]; exact hmin)
                have hrow : L = p' ++ (47 :: y ++ [47, 46, 46]) ++ (47 :: b) := by rw [hq, ha]; simp
                have HCL2 : Aside0 (cleanK (p' ++ 47 :: b) = cleanK l0) := ⟨by rw [← HCL.out, hrow]; have := Cl.clean_up p' y b hy hgood; simpa using this.symm⟩
                have HSL2 : Aside0 (∃ t, p' ++ 47 :: b = 47 :: t) := ⟨by obtain ⟨t, ht⟩ := HSL.out; exact slash_first p' b (y ++ [47, 46, 46] ++ 47 :: b) t (by rw [← ht, hrow]; simp)⟩
                have HF3 : Aside0 (∀ a' c', p' ++ 47 :: b ≠ a' ++ 47 :: 47 :: c') := ⟨Cl.shift_free2 p' (y ++ [47, 46, 46]) b (fun a' c' e => HF.out a' c' (by rw [← e, hrow] <;> simp))⟩
                have HF4 : Aside0 (∀ a' c', p' ++ 47 :: b ≠ a' ++ 47 :: 46 :: 47 :: c') := ⟨Cl.shift_free3 p' (y ++ [47, 46, 46]) b (fun a' c' e => HF2.out a' c' (by rw [← e, hrow] <;> simp))⟩
                obtain ⟨n9, hn9⟩ : ∃ n9 : Int, n9 = ((a.length + 3 : Nat) : Int) := ⟨_, rfl⟩
                have hw9 : wrap64 (r3 + 3) = n9 := by unfold wrap64; omega
                have hw43 : wrap64 3 = 3 := by unfold wrap64; omega
                obtain ⟨nd6, hnd6⟩ : ∃ n, n = L.length - p'.length := ⟨_, rfl⟩
                obtain ⟨ns6, hns6⟩ : ∃ n, n = b.length + 1 := ⟨_, rfl⟩
                obtain ⟨c6, hc6⟩ : ∃ c6, c6 = c5 - p'.length := ⟨_, rfl⟩
                obtain ⟨c7, hc7⟩ : ∃ c7, c7 = c5 - (a.length + 3) := ⟨_, rfl⟩
                obtain ⟨o7, ho7⟩ : ∃ o7, o7 = a.length + 3 := ⟨_, rfl⟩
                obtain ⟨n8, hn8⟩ : ∃ n8, n8 = p'.length + (b.length + 1) := ⟨_, rfl⟩
                have HCUT1 := cutFrom (P := Try.prog) Try.underlying49 HI.out HSZ.out g 0 L.length c5 p'.length p'.length nd6 c6 r4 hr4 (by omega) (by omega) (by omega) (by omega) hc6
                have HCUT2 := cutFrom (P := Try.prog) Try.underlying49 HI.out HSZ.out g 0 L.length c5 (a.length + 3) o7 ns6 c7 n9 hn9 (by omega) (by omega) (by omega) (by omega) hc7
                obtain ⟨x8, hx8⟩ : ∃ x8 : Int, x8 = (n8 : Int) := ⟨_, rfl⟩
                have hw8 : wrap64 (wrap64 ((L.length : Int) - n9) + r4) = x8 := by unfold wrap64; omega
                have HCUT3 := cutTo (P := Try.prog) Try.underlying49 HI.out (some ⟨g, 0, none⟩) L.length c5 n8 x8 hx8 (by omega) hcq
                have HROW := Aside0.mk hrow
                have HND : Aside0 (nd6 = (47 :: y ++ [47, 46, 46]).length + (47 :: b).length) := ⟨by simp; omega⟩
                have HNS := Aside0.mk hns6
                have HO7 : Aside0 (o7 = p'.length + (47 :: y ++ [47, 46, 46]).length) := ⟨by simp; omega⟩
                have HN8 := Aside0.mk hn8
                have HC8 : Aside0 (n8 ≤ c5 ∧ n8 < L.length ∧ n8 ≤ l0.length) := ⟨by have := HLEN.out; omega⟩
                have HQA := Aside0.mk hq
                clear hix hmin hr3 hql hcq hpl hc6 hc7 hx8 hrow hnd6 hns6 ho7 hn8 hq hra hn9 hal hr4 hev ha hy hgood
                go_wp2_with (first | ((with_reducible refine gate_callee (f := 96) rfl ?_); refine goesL_ (some 74) rfl rfl Try.func96 (by kernel_rfl) rfl #[] rfl (by (try simp only [List.map_toArray, List.map_cons, List.map_nil]); first | done | rfl) ?_; refine (strSDDS_calls _).mono ?_; rintro e wq ⟨gSV, cSV, rfl, hcSV, hbS, hbel⟩; refine ⟨_, rfl, ?_⟩; have HSV := Aside0.mk hbS; have n0_ := Aside0.mk (BR.below2 HR.out hbel rfl); have n1_ := Aside0.mk (below_step (by repeat (first | (with_reducible first | exact HB.out | apply below_alloc | apply pw_below_drewN | apply below_drew1) | exact HB.out)) hbel); clear HR HB; have HR := n0_; have HB := n1_; clear n0_ n1_ hbS hbel) | ((with_reducible refine gate_callee (f := 83) rfl ?_); refine goesL_ (some 75) rfl rfl Try.func83 (by kernel_rfl) rfl #[.slice (some ⟨g, 0, none⟩) L.length c5, .slice (some ⟨gSV, 0, none⟩) 4 cSV] rfl (by (try simp only [List.map_toArray, List.map_cons, List.map_nil]); first | done | rfl) ?_; refine (zz0_calls (q := L) (sub := [47, 46, 46, 47]) r3 HR3.out (HR.out.heap rfl) HC.out (HSV.out.heap rfl) hcSV (by decide) HPL.out (by decide)).mono ?_; rintro e wq ⟨rfl, ⟨nd, rfl⟩⟩; refine ⟨_, rfl, ?_⟩) | ((with_reducible refine gate_callee (f := 71) rfl ?_); refine goesL_ (some 81) rfl rfl Try.func71 (by kernel_rfl) rfl #[.slice (some ⟨g, 0, none⟩) a.length c5, .int .u8 47] rfl (by (try simp only [List.map_toArray, List.map_cons, List.map_nil]); first | done | rfl) ?_; refine (lib_calls (p := a) r4 HEV.out (BR.pre (q := [47, 46, 46, 47] ++ b) (by rw [← List.append_assoc, ← HQA.out]; exact HR.out.heap rfl)) HPC.out HPB.out).mono ?_; rintro e wq ⟨rfl, ⟨nd, rfl⟩⟩; refine ⟨_, rfl, ?_⟩) | ((with_reducible refine gate_callee (f := 96) rfl ?_); refine goesL_ (some 85) rfl rfl Try.func96 (by kernel_rfl) rfl #[] rfl (by (try simp only [List.map_toArray, List.map_cons, List.map_nil]); first | done | rfl) ?_; refine (strSDDS_calls _).mono ?_; rintro e wq ⟨gSX, cSX, rfl, hcSX, hbS, hbel⟩; refine ⟨_, rfl, ?_⟩; have HSX := Aside0.mk hbS; have n0_ := Aside0.mk (BR.below2 HR.out hbel rfl); have n1_ := Aside0.mk (below_step (by repeat (first | (with_reducible first | exact HB.out | apply below_alloc | apply pw_below_drewN | apply below_drew1) | exact HB.out)) hbel); clear HR HB; have HR := n0_; have HB := n1_; clear n0_ n1_ hbS hbel))
                go_still_tail 6, (by kernel_rfl)
                change wpList _ _ _ _ _ _
                ((with_reducible refine gate_builtin (b := .copy) (xs := #[.tmp 91, .tmp 94]) rfl ?_); refine shift_BR rfl (.tmp 91) (.tmp 94) 49 49 5 rfl Try.underlying49 (by rw [HI.out]; exact congrArg some HSZ.out) g c6 c7 (p') (47 :: y ++ [47, 46, 46]) (47 :: b) nd6 ns6 o7 HND.out (by rw [HNS.out]; simp) HO7.out rfl rfl (by rw [← HROW.out]; exact HR.out.heap rfl) w.heap.size HG.out ?_; intro w7 hbr hb; have n0_ := Aside0.mk (show Below w.heap.size w w7 from Below.trans (Below.drew HB.out) hb); clear HB HR; have HR := Aside0.mk hbr; have HB := n0_; clear n0_ hbr hb)
                go_wp2
                go_roundw
                case measure => exact HC8.out.2.1
                case rel => exact ⟨p' ++ 47 :: b, c5, by rw [HN8.out]; simp, HR, ⟨by have := HC8.out.1; rw [HN8.out] at this; simpa using this⟩, HF3, HF4, HCL2, HSL2, ⟨by have := HC8.out.2.2; rw [HN8.out] at this; simpa using this⟩, ⟨(by repeat (first | (with_reducible first | exact HB.out | apply below_alloc | apply pw_below_drewN | apply below_drew1) | exact HB.out))⟩⟩
              · have hra : r3 = (a.length : Int) := by rw [← hr3, hix]
                have hql : L.length = a.length + (b.length + 4) := by rw [hq]; simp <;> omega
                have hcq := HC.out
                have hpl := HPL.out
                have HPC : Aside0 (a.length ≤ c5) := ⟨by omega⟩
                have HPB : Aside0 (a.length ≤ 4611686018427387) := ⟨by omega⟩
                have HCUT0 := cutTo (P := Try.prog) Try.underlying49 HI.out (some ⟨g, 0, none⟩) L.length c5 a.length r3 hra (by omega) hcq
                obtain ⟨t0, ht0⟩ := HSL.out
                have ha0 : a = [] := no_slash_first a t0 L ([47, 46, 46, 47] ++ b) (by rw [hq]; simp) ht0 ha
                have hal : a.length = 0 := by rw [ha0]; rfl
                obtain ⟨r4, hr4⟩ : ∃ r4 : Int, r4 = -1 := ⟨_, rfl⟩
                rw [← hr4] at hev
                have HEV := Aside0.mk hev
                have b4 : decide (r4 < 0) = true := decide_eq_true (by omega)
                have hrow : L = [] ++ [47, 46, 46] ++ (47 :: b) := by rw [hq, ha0]; simp
                have HCL2 : Aside0 (cleanK ([] ++ 47 :: b) = cleanK l0) := ⟨by rw [← HCL.out, hrow]; have := Cl.clean_up0 b; simpa using this.symm⟩
                have HSL2 : Aside0 (∃ t, [] ++ 47 :: b = 47 :: t) := ⟨b, rfl⟩
                have HF3 : Aside0 (∀ a' c', [] ++ 47 :: b ≠ a' ++ 47 :: 47 :: c') := ⟨Cl.shift_free2 [] [46, 46] b (fun a' c' e => HF.out a' c' (by rw [← e, hrow] <;> simp))⟩
                have HF4 : Aside0 (∀ a' c', [] ++ 47 :: b ≠ a' ++ 47 :: 46 :: 47 :: c') := ⟨Cl.shift_free3 [] [46, 46] b (fun a' c' e => HF2.out a' c' (by rw [← e, hrow] <;> simp))⟩
                obtain ⟨n9, hn9⟩ : ∃ n9 : Int, n9 = ((a.length + 3 : Nat) : Int) := ⟨_, rfl⟩
                have hw9 : wrap64 (r3 + 3) = n9 := by unfold wrap64; omega
                have hw43 : wrap64 3 = 3 := by unfold wrap64; omega
                obtain ⟨nd6, hnd6⟩ : ∃ n, n = L.length - 0 := ⟨_, rfl⟩
                obtain ⟨ns6, hns6⟩ : ∃ n, n = b.length + 1 := ⟨_, rfl⟩
                obtain ⟨c6, hc6⟩ : ∃ c6, c6 = c5 - 0 := ⟨_, rfl⟩
                obtain ⟨c7, hc7⟩ : ∃ c7, c7 = c5 - (a.length + 3) := ⟨_, rfl⟩
                obtain ⟨o7, ho7⟩ : ∃ o7, o7 = a.length + 3 := ⟨_, rfl⟩
                obtain ⟨n8, hn8⟩ : ∃ n8, n8 = 0 + (b.length + 1) := ⟨_, rfl⟩
                have HCUT1 := cutFrom (P := Try.prog) Try.underlying49 HI.out HSZ.out g 0 L.length c5 0 0 nd6 c6 (0 : Int) rfl (by omega) (by omega) (by omega) (by omega) hc6
                have HCUT2 := cutFrom (P := Try.prog) Try.underlying49 HI.out HSZ.out g 0 L.length c5 (a.length + 3) o7 ns6 c7 n9 hn9 (by omega) (by omega) (by omega) (by omega) hc7
                obtain ⟨x8, hx8⟩ : ∃ x8 : Int, x8 = (n8 : Int) := ⟨_, rfl⟩
                have hw8 : wrap64 ((L.length : Int) - n9) = x8 := by unfold wrap64; omega
                have hw8a : wrap64 (x8 + 0) = x8 := by unfold wrap64; omega
                have hw8b : wrap64 x8 = x8 := by unfold wrap64; omega
                have HCUT3 := cutTo (P := Try.prog) Try.underlying49 HI.out (some ⟨g, 0, none⟩) L.length c5 n8 x8 hx8 (by omega) hcq
                have HROW := Aside0.mk hrow
                have HND : Aside0 (nd6 = ([47, 46, 46]).length + (47 :: b).length) := ⟨by simp; omega⟩
                have HNS := Aside0.mk hns6
                have HO7 : Aside0 (o7 = 0 + ([47, 46, 46]).length) := ⟨by simp; omega⟩
                have HN8 := Aside0.mk hn8
                have HC8 : Aside0 (n8 ≤ c5 ∧ n8 < L.length ∧ n8 ≤ l0.length) := ⟨by have := HLEN.out; omega⟩
                have HQA := Aside0.mk hq
                clear hix hmin hr3 hql hcq hpl hc6 hc7 hx8 hrow hnd6 hns6 ho7 hn8 hq hra hn9 hal hr4 hev ha ha0 ht0
                go_wp2_with (first | ((with_reducible refine gate_callee (f := 96) rfl ?_); refine goesL_ (some 74) rfl rfl Try.func96 (by kernel_rfl) rfl #[] rfl (by (try simp only [List.map_toArray, List.map_cons, List.map_nil]); first | done | rfl) ?_; refine (strSDDS_calls _).mono ?_; rintro e wq ⟨gSV, cSV, rfl, hcSV, hbS, hbel⟩; refine ⟨_, rfl, ?_⟩; have HSV := Aside0.mk hbS; have n0_ := Aside0.mk (BR.below2 HR.out hbel rfl); have n1_ := Aside0.mk (below_step (by repeat (first | (with_reducible first | exact HB.out | apply below_alloc | apply pw_below_drewN | apply below_drew1) | exact HB.out)) hbel); clear HR HB; have HR := n0_; have HB := n1_; clear n0_ n1_ hbS hbel) | ((with_reducible refine gate_callee (f := 83) rfl ?_); refine goesL_ (some 75) rfl rfl Try.func83 (by kernel_rfl) rfl #[.slice (some ⟨g, 0, none⟩) L.length c5, .slice (some ⟨gSV, 0, none⟩) 4 cSV] rfl (by (try simp only [List.map_toArray, List.map_cons, List.map_nil]); first | done | rfl) ?_; refine (zz0_calls (q := L) (sub := [47, 46, 46, 47]) r3 HR3.out (HR.out.heap rfl) HC.out (HSV.out.heap rfl) hcSV (by decide) HPL.out (by decide)).mono ?_; rintro e wq ⟨rfl, ⟨nd, rfl⟩⟩; refine ⟨_, rfl, ?_⟩) | ((with_reducible refine gate_callee (f := 71) rfl ?_); refine goesL_ (some 81) rfl rfl Try.func71 (by kernel_rfl) rfl #[.slice (some ⟨g, 0, none⟩) a.length c5, .int .u8 47] rfl (by (try simp only [List.map_toArray, List.map_cons, List.map_nil]); first | done | rfl) ?_; refine (lib_calls (p := a) r4 HEV.out (BR.pre (q := [47, 46, 46, 47] ++ b) (by rw [← List.append_assoc, ← HQA.out]; exact HR.out.heap rfl)) HPC.out HPB.out).mono ?_; rintro e wq ⟨rfl, ⟨nd, rfl⟩⟩; refine ⟨_, rfl, ?_⟩) | ((with_reducible refine gate_callee (f := 96) rfl ?_); refine goesL_ (some 85) rfl rfl Try.func96 (by kernel_rfl) rfl #[] rfl (by (try simp only [List.map_toArray, List.map_cons, List.map_nil]); first | done | rfl) ?_; refine (strSDDS_calls _).mono ?_; rintro e wq ⟨gSX, cSX, rfl, hcSX, hbS, hbel⟩; refine ⟨_, rfl, ?_⟩; have HSX := Aside0.mk hbS; have n0_ := Aside0.mk (BR.below2 HR.out hbel rfl); have n1_ := Aside0.mk (below_step (by repeat (first | (with_reducible first | exact HB.out | apply below_alloc | apply pw_below_drewN | apply below_drew1) | exact HB.out)) hbel); clear HR HB; have HR := n0_; have HB := n1_; clear n0_ n1_ hbS hbel))
                go_still_tail 6, (by kernel_rfl)
                change wpList _ _ _ _ _ _
                ((with_reducible refine gate_builtin (b := .copy) (xs := #[.tmp 91, .tmp 94]) rfl ?_); refine shift_BR rfl (.tmp 91) (.tmp 94) 49 49 5 rfl Try.underlying49 (by rw [HI.out]; exact congrArg some HSZ.out) g c6 c7 (([] : List UInt8)) ([47, 46, 46]) (47 :: b) nd6 ns6 o7 HND.out (by rw [HNS.out]; simp) HO7.out rfl rfl (by rw [← HROW.out]; exact HR.out.heap rfl) w.heap.size HG.out ?_; intro w7 hbr hb; have n0_ := Aside0.mk (show Below w.heap.size w w7 from Below.trans (Below.drew HB.out) hb); clear HB HR; have HR := Aside0.mk hbr; have HB := n0_; clear n0_ hbr hb)
                go_wp2
                go_roundw
                case measure => exact HC8.out.2.1
                case rel => exact ⟨([] : List UInt8) ++ 47 :: b, c5, by rw [HN8.out]; simp, HR, ⟨by have := HC8.out.1; rw [HN8.out] at this; simpa using this⟩, HF3, HF4, HCL2, HSL2, ⟨by have := HC8.out.2.2; rw [HN8.out] at this; simpa using this⟩, ⟨(by repeat (first | (with_reducible first | exact HB.out | apply below_alloc | apply pw_below_drewN | apply below_drew1) | exact HB.out))⟩⟩
        · have b2 : decide (r2 < 0) = false := decide_eq_false (by omega)
          have hra : r2 = (a.length : Int) := by rw [← hr2, hix]
          have hql : L.length = a.length + (b.length + 3) := by rw [hq]; simp <;> omega
          have hcq := HC.out
          have hpl := HPL.out
          obtain ⟨n9, hn9⟩ : ∃ n9 : Int, n9 = ((a.length + 2 : Nat) : Int) := ⟨_, rfl⟩
          have hw9 : wrap64 (wrap64 (r2 + 3) - 1) = n9 := by unfold wrap64; omega
          obtain ⟨nd6, hnd6⟩ : ∃ n, n = b.length + 3 := ⟨_, rfl⟩
          obtain ⟨ns6, hns6⟩ : ∃ n, n = b.length + 1 := ⟨_, rfl⟩
          obtain ⟨c6, hc6⟩ : ∃ c6, c6 = c5 - a.length := ⟨_, rfl⟩
          obtain ⟨c7, hc7⟩ : ∃ c7, c7 = c5 - (a.length + 2) := ⟨_, rfl⟩
          obtain ⟨o7, ho7⟩ : ∃ o7, o7 = a.length + 2 := ⟨_, rfl⟩
          obtain ⟨n8, hn8⟩ : ∃ n8, n8 = a.length + (b.length + 1) := ⟨_, rfl⟩
          have HCUT1 := cutFrom (P := Try.prog) Try.underlying49 HI.out HSZ.out g 0 L.length c5 a.length a.length nd6 c6 r2 hra (by omega) (by omega) (by omega) (by omega) hc6
          have HCUT2 := cutFrom (P := Try.prog) Try.underlying49 HI.out HSZ.out g 0 L.length c5 (a.length + 2) o7 ns6 c7 n9 hn9 (by omega) (by omega) (by omega) (by omega) hc7
          obtain ⟨x8, hx8⟩ : ∃ x8 : Int, x8 = (n8 : Int) := ⟨_, rfl⟩
          have hw8 : wrap64 (wrap64 ((L.length : Int) - n9) + r2) = x8 := by unfold wrap64; omega
          have HCUT3 := cutTo (P := Try.prog) Try.underlying49 HI.out (some ⟨g, 0, none⟩) L.length c5 n8 x8 hx8 (by omega) hcq
          have hrow : L = a ++ [47, 46] ++ (47 :: b) := by rw [hq]; simp
          have HROW := Aside0.mk hrow
          have HND := Aside0.mk hnd6
          have HNS := Aside0.mk hns6
          have HO7 := Aside0.mk ho7
          have HN8 := Aside0.mk hn8
          have HC8 : Aside0 (n8 ≤ c5 ∧ n8 < L.length ∧ n8 ≤ l0.length) := ⟨by have := HLEN.out; omega⟩
          have HF3 : Aside0 (∀ a' c', a ++ 47 :: b ≠ a' ++ 47 :: 47 :: c') := ⟨Cl.shift_free2 a [46] b (fun a' c' e => HF.out a' c' (by rw [← e, hrow] <;> simp))⟩
          have HSL2 : Aside0 (∃ t, a ++ 47 :: b = 47 :: t) := ⟨by obtain ⟨t, ht⟩ := HSL.out; exact slash_first a b (46 :: 47 :: b) t (by rw [← ht, hrow]; simp)⟩
          have HCL2 : Aside0 (cleanK (a ++ 47 :: b) = cleanK l0) := ⟨by rw [← HCL.out, hrow]; have := Cl.clean_dot a b; simpa using this.symm⟩
          clear hix hmin hr2 hql hcq hpl hc6 hc7 hx8 hrow hnd6 hns6 ho7 hn8 hq hra hn9
          go_wp2_with (first | ((with_reducible refine gate_callee (f := 95) rfl ?_); refine goesL_ (some 49) rfl rfl Try.func95 (by kernel_rfl) rfl #[] rfl (by (try simp only [List.map_toArray, List.map_cons, List.map_nil]); first | done | rfl) ?_; refine (strSDS_calls _).mono ?_; rintro e wq ⟨gST, cST, rfl, hcST, hbS, hbel⟩; refine ⟨_, rfl, ?_⟩; have HST := Aside0.mk hbS; have n0_ := Aside0.mk (BR.below2 HR.out hbel rfl); have n1_ := Aside0.mk (below_step (by repeat (first | (with_reducible first | exact HB.out | apply below_alloc | apply pw_below_drewN | apply below_drew1) | exact HB.out)) hbel); clear HR HB; have HR := n0_; have HB := n1_; clear n0_ n1_ hbS hbel) | ((with_reducible refine gate_callee (f := 83) rfl ?_); refine goesL_ (some 50) rfl rfl Try.func83 (by kernel_rfl) rfl #[.slice (some ⟨g, 0, none⟩) L.length c5, .slice (some ⟨gST, 0, none⟩) 3 cST] rfl (by (try simp only [List.map_toArray, List.map_cons, List.map_nil]); first | done | rfl) ?_; refine (zz0_calls (q := L) (sub := [47, 46, 47]) r2 HR2.out (HR.out.heap rfl) HC.out (HST.out.heap rfl) hcST (by decide) HPL.out (by decide)).mono ?_; rintro e wq ⟨rfl, ⟨nd, rfl⟩⟩; refine ⟨_, rfl, ?_⟩) | ((with_reducible refine gate_callee (f := 95) rfl ?_); refine goesL_ (some 54) rfl rfl Try.func95 (by kernel_rfl) rfl #[] rfl (by (try simp only [List.map_toArray, List.map_cons, List.map_nil]); first | done | rfl) ?_; refine (strSDS_calls _).mono ?_; rintro e wq ⟨gSU, cSU, rfl, hcSU, hbS, hbel⟩; refine ⟨_, rfl, ?_⟩; have HSU := Aside0.mk hbS; have n0_ := Aside0.mk (BR.below2 HR.out hbel rfl); have n1_ := Aside0.mk (below_step (by repeat (first | (with_reducible first | exact HB.out | apply below_alloc | apply pw_below_drewN | apply below_drew1) | exact HB.out)) hbel); clear HR HB; have HR := n0_; have HB := n1_; clear n0_ n1_ hbS hbel))
          go_still_tail 6, (by kernel_rfl)
          change wpList _ _ _ _ _ _
          ((with_reducible refine gate_builtin (b := .copy) (xs := #[.tmp 60, .tmp 63]) rfl ?_); refine shift_BR rfl (.tmp 60) (.tmp 63) 49 49 5 rfl Try.underlying49 (by rw [HI.out]; exact congrArg some HSZ.out) g c6 c7 (a) ([47, 46]) (47 :: b) nd6 ns6 o7 (by rw [HND.out]; simp; omega) (by rw [HNS.out]; simp) (by rw [HO7.out]; simp) rfl rfl (by rw [← HROW.out]; exact HR.out.heap rfl) w.heap.size HG.out ?_; intro w7 hbr hb; have n0_ := Aside0.mk (show Below w.heap.size w w7 from Below.trans (Below.drew HB.out) hb); clear HB HR; have HR := Aside0.mk hbr; have HB := n0_; clear n0_ hbr hb)
          go_wp2
          go_roundw
          case measure => exact HC8.out.2.1
          case rel => exact ⟨a ++ 47 :: b, c5, by rw [HN8.out]; simp, HR, ⟨by have := HC8.out.1; rw [HN8.out] at this; simpa using this⟩, HF3, HCL2, HSL2, ⟨by have := HC8.out.2.2; rw [HN8.out] at this; simpa using this⟩, ⟨(by repeat (first | (with_reducible first | exact HB.out | apply below_alloc | apply pw_below_drewN | apply below_drew1) | exact HB.out))⟩⟩
    · have b1 : decide (r1 < 0) = false := decide_eq_false (by omega)
      have hra : r1 = (a.length : Int) := by rw [← hr1, hix]
      have hql : q.length = a.length + (b.length + 2) := by rw [hq]; simp <;> omega
      obtain ⟨c6, hc6⟩ : ∃ c6, c6 = c5 - a.length := ⟨_, rfl⟩
      obtain ⟨c7, hc7⟩ : ∃ c7, c7 = c6 - 1 := ⟨_, rfl⟩
      have hcq := HC.out
      obtain ⟨o6, ho6⟩ : ∃ o6, o6 = (p ++ a).length := ⟨_, rfl⟩
      obtain ⟨n6, hn6⟩ : ∃ n6, n6 = b.length + 2 := ⟨_, rfl⟩
      obtain ⟨n7, hn7⟩ : ∃ n7, n7 = b.length + 1 := ⟨_, rfl⟩
      have HCUT1 := cutFrom (P := Try.prog) Try.underlying49 HI.out HSZ.out g p.length q.length c5 a.length o6 n6 c6 r1 hra (by omega) (by omega) (by rw [ho6]; simp) (by omega) hc6
      have HCUT2 := cutFrom (P := Try.prog) Try.underlying49 HI.out HSZ.out g o6 n6 c6 1 (o6 + 1) n7 c7 1 rfl (by omega) (by omega) rfl (by omega) hc7
      have hw7 : wrap64 ((n6 : Int) - 1) = ((n7 : Nat) : Int) := by unfold wrap64; simp at HPL; have := HPL.out; omega
      obtain ⟨x7, hx7⟩ : ∃ x7 : Int, x7 = (n7 : Int) := ⟨_, rfl⟩
      rw [← hx7] at hw7
      have HCUT3 := cutTo (P := Try.prog) Try.underlying49 HI.out (some ⟨g, o6, none⟩) n6 c6 n7 x7 hx7 (by omega) (by omega)
      have HZW : Aside0 (wrap64 (z6 - 1) = (((p ++ a).length + (47 :: b).length : Nat) : Int)) := ⟨by have h1 := HZ6.out; have h2 := HPL.out; simp at h2 ⊢; unfold wrap64; omega⟩
      have HZM : Aside0 ((wrap64 (z6 - 1)).toNat < z6.toNat) := ⟨by have h1 := HZ6.out; rw [HZW.out]; simp; omega⟩
      have hrow : p ++ q = (p ++ a) ++ [47] ++ (47 :: b) := by rw [hq]; simp
      have HROW := Aside0.mk hrow
      have HO6 := Aside0.mk ho6
      have HN7 := Aside0.mk hn7
      have HN6 := Aside0.mk hn6
      have HQ := Aside0.mk hq
      have HC7 : Aside0 (n7 ≤ c6) := ⟨by omega⟩
      have HINV2 := Aside0.mk (SpA.dup_next p q a b hq hmin HINV.out)
      clear hix hmin hr1 hql hc6 hc7 hcq hx7 hrow ho6 hn6 hn7 hq hra
      go_wp2_with (first | ((with_reducible refine gate_callee (f := 94) rfl ?_); refine goesL_ (some 26) rfl rfl Try.func94 (by kernel_rfl) rfl #[] rfl (by (try simp only [List.map_toArray, List.map_cons, List.map_nil]); first | done | rfl) ?_; refine (strSS_calls _).mono ?_; rintro e wq ⟨gSS, cSS, rfl, hcSS, hbS, hbel⟩; refine ⟨_, rfl, ?_⟩; have HSS := Aside0.mk hbS; have n0_ := Aside0.mk (BR.below2 HR.out hbel rfl); have n1_ := Aside0.mk (below_step (by repeat (first | (with_reducible first | exact HB.out | apply below_alloc | apply pw_below_drewN | apply below_drew1) | exact HB.out)) hbel); clear HR HB; have HR := n0_; have HB := n1_; clear n0_ n1_ hbS hbel) | ((with_reducible refine gate_callee (f := 83) rfl ?_); refine goesL_ (some 27) rfl rfl Try.func83 (by kernel_rfl) rfl #[.slice (some ⟨g, p.length, none⟩) q.length c5, .slice (some ⟨gSS, 0, none⟩) 2 cSS] rfl (by (try simp only [List.map_toArray, List.map_cons, List.map_nil]); first | done | rfl) ?_; refine (zz_calls (p := p) (q := q) (sub := [47, 47]) r1 HR1.out (HR.out.heap rfl) HC.out (HSS.out.heap rfl) hcSS (by decide) HPL.out (by decide)).mono ?_; rintro e wq ⟨rfl, ⟨nd, rfl⟩⟩; refine ⟨_, rfl, ?_⟩) | ((with_reducible refine gate_builtin (b := .copy) (xs := #[.tmp 33, .tmp 35]) rfl ?_); refine shift_BR rfl (.tmp 33) (.tmp 35) 49 49 5 rfl Try.underlying49 (by rw [HI.out]; exact congrArg some HSZ.out) g c6 c7 (p ++ a) [47] (47 :: b) n6 n7 (o6 + 1) (by rw [HN6.out]; simp; omega) (by rw [HN7.out]; simp) (by rw [HO6.out]; simp) (by rw [← HO6.out]; rfl) rfl (by rw [← HROW.out]; exact HR.out.heap rfl) w.heap.size HG.out ?_; intro w7 hbr hb; have n0_ := Aside0.mk (Below.trans (by repeat (first | (with_reducible first | exact HB.out | apply below_alloc | apply pw_below_drewN | apply below_drew1) | exact HB.out)) hb); clear HB HR; have HR := Aside0.mk hbr; have HB := n0_; clear n0_ hbr hb))
      go_roundw
      case measure => exact HZM.out
      case rel => exact ⟨p ++ a, 47 :: b, c6, by rw [HO6.out, HN7.out]; rfl, congrArg (Value.int .i64) HZW.out, HR, ⟨by have := HC7.out; have := HN7.out; simp; omega⟩, HINV2, ⟨by rw [← HCL.out, HROW.out]; simp only [List.append_assoc, List.singleton_append]; rw [← List.append_assoc, ← List.append_assoc]; exact (Cl.clean_dup (p ++ a) b).symm⟩, ⟨by obtain ⟨t, ht⟩ := HSL.out; rw [HROW.out] at ht; cases hpa : p ++ a with | nil => exact ⟨b, by simp⟩ | cons x y => rw [hpa] at ht; simp at ht; exact ⟨y ++ 47 :: b, by rw [ht.1]; simp⟩⟩, ⟨by have h1 := HLEN.out; rw [HROW.out] at h1; simp at h1 ⊢; omega⟩, ⟨(by repeat (first | (with_reducible first | exact HB.out | apply below_alloc | apply pw_below_drewN | apply below_drew1) | exact HB.out))⟩⟩
end Go.Proofs.Ytbkeakeldegkeaa.Q
end
section
namespace Go.Proofs.Ytbkeakeldegkeaa.Cl
theorem join_len_drop (k : List (List UInt8)) : (joinS k.dropLast).length ≤ (joinS k).length := by
  rcases List.eq_nil_or_concat k with rfl | ⟨a, b, rfl⟩
  · simp
  · rw [List.concat_eq_append, List.dropLast_concat, joinS_app, List.length_append]
    omega
theorem step_len (k : List (List UInt8)) (q : List UInt8) : (joinS (stepK k q)).length ≤ (joinS k).length + (joinS [q]).length := by
  unfold stepK
  split
  · omega
  · split
    · have := join_len_drop k
      omega
    · rw [joinS_app, List.length_append]
      omega
theorem fold_len : ∀ (S k : List (List UInt8)), (joinS (S.foldl stepK k)).length ≤ (joinS k).length + (joinS S).length
  | [], k => by simp
  | q :: S, k => by
    have h1 := fold_len S (stepK k q)
    have h2 := step_len k q
    have h3 : (joinS (q :: S)).length = (joinS [q]).length + (joinS S).length := by rw [show q :: S = [q] ++ S from rfl, joinS_app, List.length_append]
    rw [List.foldl_cons]
    omega
theorem fin_len (k : List (List UInt8)) (last : List UInt8) : (finK k last).length ≤ (joinS k).length + (joinS [last]).length := by
  unfold finK
  split
  · rename_i h
    have h1 := join_len_drop k
    rw [joinS_app, List.length_append]
    have h2 : (joinS [[]]).length = 1 := by decide
    have h3 : (joinS [last]).length = last.length + 1 := by simp [joinS]
    omega
  · rw [joinS_app, List.length_append]
    omega
theorem clean_len (l : List UInt8) : (cleanK l).length ≤ l.length + 1 := by
  have h0 := congrArg List.length (join_split l)
  have hne := splitS_ne l
  have h1 := fin_len ((splitS l).dropLast.foldl stepK []) ((splitS l).getLastD [])
  have h2 := fold_len (splitS l).dropLast []
  have h3 : splitS l = (splitS l).dropLast ++ [(splitS l).getLastD []] := by
    rw [List.getLastD_eq_getLast?, List.getLast?_eq_some_getLast hne]
    exact (List.dropLast_concat_getLast hne).symm
  have h4 : (joinS (splitS l)).length = (joinS (splitS l).dropLast).length + (joinS [(splitS l).getLastD []]).length := by
    conv => lhs; rw [h3]
    rw [joinS_app, List.length_append]
  unfold cleanK
  simp only [List.length_cons] at h0
  have h5 : (joinS ([] : List (List UInt8))).length = 0 := rfl
  omega
end Go.Proofs.Ytbkeakeldegkeaa.Cl
end
section
namespace Go.Proofs.Ytbkeakeldegkeaa.Q
open Go.RowKit Go.Proofs.YtbkeakeldegkeaaW.PrintWords Go.Proofs.YtbkeakeldegkeaaW.PrintLast Go.Proofs.YtbkeakeldegkeaaW.PrintMore
open Go.Proofs.Ytbkeakeldegkeaa.SpA (toI toI_length toI_append lowU)
open Go.Proofs.Ytbkeakeldegkeaa.Ob
set_option linter.unusedVariables false
set_option linter.unusedSimpArgs false
def isRow (i : Nat) : Bool := i == 0 || i == 1 || i == 2 || i == 3 || i == 4 || i == 5 || i == 12 || i == 13
def OS (g : Nat) (vals : List Value) (j : Nat) : Prop := j = g ∨ ∃ i v, isRow i = true ∧ vals[i]? = some v ∧ v.ownBlock = some j
structure PStep (g : Nat) (W : World) (vals : List Value) (W2 : World) (vals2 : List Value) : Prop where
  on : Only (OS g vals) W W2
  grow : ∀ k, OS g vals2 k → OS g vals k ∨ W.heap.size ≤ k
section
variable {g : Nat} {W W1 W2 W3 : World} {vals vals2 vals3 : List Value} {T : TypeId} {rows : List (Option (Bool × List UInt8))}
theorem PStep.refl (g : Nat) (W : World) (vals : List Value) : PStep g W vals W vals := ⟨Only.refl _ _, fun k h => .inl h⟩
theorem PStep.trans (h : PStep g W vals W2 vals2) (k : PStep g W2 vals2 W3 vals3) : PStep g W vals W3 vals3 := by
  refine ⟨h.on.trans k.on fun i hi hs => ?_, fun j hj => ?_⟩
  · rcases h.grow i hs with h1 | h1
    · exact h1
    · omega
  · rcases k.grow j hj with h1 | h1
    · exact h.grow j h1
    · exact .inr (Nat.le_trans h.on.size h1)
theorem PStep.below (hb : Below W.heap.size W W2) : PStep g W vals W2 vals := ⟨Only.of_below hb, fun k h => .inl h⟩
theorem VW.step {A : Option Addr} {n c : Nat} {l : List UInt8} (h : VW (OS g vals) W A n c l) (k : PStep g W vals W2 vals2) : VW (OS g vals2) W2 A n c l := by
  refine ⟨h.len, h.cap, fun W3 ho => h.rd W3 ?_⟩
  refine k.on.trans ho fun i hi hs => ?_
  rcases k.grow i hs with h1 | h1
  · exact h1
  · omega
theorem OS_set {i : Nat} {v v1 : Value} {k : Nat} (hi : isRow i = true) (hv : vals[i]? = some v) (h : OS g (vals.set i v1) k) : OS g vals k ∨ v1.ownBlock = some k := by
  rcases h with h | ⟨j, u, hj, hu, hk⟩
  · exact .inl (.inl h)
  · by_cases e : i = j
    · subst e
      rw [List.getElem?_set, if_pos rfl] at hu
      split at hu
      · cases hu; exact .inr hk
      · cases hu
    · rw [List.getElem?_set, if_neg e] at hu
      exact .inl (.inr ⟨j, u, hj, hu, hk⟩)
theorem OS_put {i : Nat} {v1 : Value} {k : Nat} (h1 : v1.ownBlock = none) (h : OS g (vals.set i v1) k) : OS g vals k := by
  rcases h with h | ⟨j, u, hj, hu, hk⟩
  · exact .inl h
  · by_cases e : i = j
    · subst e
      rw [List.getElem?_set, if_pos rfl] at hu
      split at hu
      · cases hu; rw [h1] at hk; cases hk
      · cases hu
    · rw [List.getElem?_set, if_neg e] at hu
      exact .inr ⟨j, u, hj, hu, hk⟩
theorem PStep.row {i : Nat} {v v0 v1 : Value} (hi : isRow i = true) (hv : vals[i]? = some v0) (hsame : v.ownBlock = v0.ownBlock) (ho : Only (fun j => v.ownBlock = some j) W W1) (hat : v1.ownBlock = v.ownBlock ∨ ∃ b, v1.ownBlock = some b ∧ W.heap.size ≤ b) :
    PStep g W vals (W1.setCell ⟨g, i, none⟩ v1) (vals.set i v1) := by
  refine ⟨Only.set (ho.mono fun j _ h => .inr ⟨i, v0, hi, hv, by rw [← hsame]; exact h⟩) (.inl (.inl rfl)) _ _, fun k hk => ?_⟩
  rcases OS_set hi hv hk with h | h
  · exact .inl h
  · rcases hat with e | ⟨b, e, hb⟩
    · exact .inl (.inr ⟨i, v0, hi, hv, by rw [← hsame, ← e]; exact h⟩)
    · rw [e] at h; cases h; exact .inr hb
theorem PStep.put {i : Nat} {v1 : Value} (h1 : v1.ownBlock = none) : PStep g W vals (W.setCell ⟨g, i, none⟩ v1) (vals.set i v1) :=
  ⟨Only.set (Only.refl _ _) (.inl (.inl rfl)) _ _, fun k hk => .inl (OS_put h1 hk)⟩
theorem PStep.turn {i : Nat} {v : Value} (hi : isRow i = true) (hv : vals[i]? = some v) (ho : Only (fun j => v.ownBlock = some j) W W1) : PStep g W vals W1 vals :=
  ⟨ho.mono fun j _ h => .inr ⟨i, v, hi, hv, h⟩, fun k h => .inl h⟩
theorem OBJ.turn (h : OBJ W g T vals rows) (hT : T ≠ 5) {i : Nat} {v : Value} {b : Bool} {l l1 : List UInt8} (hr : rows[i]? = some (some (b, l))) (hv : vals[i]? = some v) (ho : Only (fun j => v.ownBlock = some j) W W1) (hb : RW b W1 v l1) : OBJ W1 g T vals (rows.set i (some (b, l1))) := by
  have ha := h.apart hT i hr hv (u := v) rfl
  have hd := (h.drop i).only ha ho
  refine ⟨hd.heap, fun j c m hj => ?_, fun a c la lc va vc k hra hrc hac hva hvc hka => ?_⟩
  · by_cases e : i = j
    · subst e
      rw [List.getElem?_set, if_pos rfl] at hj
      split at hj
      · cases hj; exact ⟨v, hv, hb⟩
      · cases hj
    · rw [List.getElem?_set, if_neg e] at hj
      exact hd.row j c m (by rw [List.getElem?_set, if_neg e]; exact hj)
  · have old : ∀ (j : Nat) m, (rows.set i (some (b, l1)))[j]? = some (some m) → ∃ m', rows[j]? = some (some m') := fun j m hj => by
      by_cases e : i = j
      · subst e; exact ⟨_, hr⟩
      · rw [List.getElem?_set, if_neg e] at hj; exact ⟨m, hj⟩
    obtain ⟨la', ha'⟩ := old a la hra
    obtain ⟨lc', hc'⟩ := old c lc hrc
    exact h.sep a c la' lc' va vc k ha' hc' hac hva hvc hka
theorem ur_app {i : Nat} {A : Option Addr} {n n' c : Nat} {l l1 : List UInt8} {v1 : Value} (h : OBJ W g T vals rows) (hT : T ≠ 5) (hi : isRow i = true) (hr : rows[i]? = some (some (true, l))) (hv : vals[i]? = some (.slice A n c)) (hb : BV W1 v1 l1) (ho : Only (fun j => (Value.slice A n' c).ownBlock = some j) W W1) (hat : v1.ownBlock = (Value.slice A n' c).ownBlock ∨ ∃ b, v1.ownBlock = some b ∧ W.heap.size ≤ b) :
    OBJ W1 g T vals (rows.set i none) ∧ OBJ (W1.setCell ⟨g, i, none⟩ v1) g T (vals.set i v1) (rows.set i (some (true, l1))) ∧ PStep g W vals (W1.setCell ⟨g, i, none⟩ v1) (vals.set i v1) := by
  have hsame : (Value.slice A n' c).ownBlock = (Value.slice A n c).ownBlock := by cases A <;> rfl
  obtain ⟨h1, h2⟩ := OBJ.refill h hT i hr hv hsame ho hat
  have hlen : i < vals.length := by rcases Nat.lt_or_ge i vals.length with h1 | h1; exact h1; rw [List.getElem?_eq_none h1] at hv; cases hv
  exact ⟨h1, OBJ.restore hT i hlen h1 h2 (BV.rw hb), PStep.row hi hv hsame ho hat⟩
end
theorem step_app_BV {P : Program} {ops : Array Oper} {o : Oper} {a : Act} {w : World} {K : Act → World → Prop} {Q : Exit → Act → World → Prop}
    (hgd : o.guard = none) (s x : Operand) (t : TypeId) (ho : o.op = .call { callee := .builtin .append, args := #[s, x], argTypes := #[t, t] })
    (ht : P.underlying t = some (.slice 5)) (hinfo : (P.info? 5).map (fun i => (i.zero, i.size, i.bytes)) = some (some (.int .u8 0), 1, 1))
    (v : Value) (l m : List UInt8) (A : Option Addr) (n c : Nat) (hs : a.eval s = v) (hx : a.eval x = .slice A n c) (hv : BV w v l) (hm : Kd.C (Kd.int .u8) w A n (toI m)) (hl : l.length + m.length ≤ 140737488355328)
    (h : ∀ v1 W1, BV W1 v1 (l ++ m) → Only (fun j => v.ownBlock = some j) w W1 → (v1.ownBlock = v.ownBlock ∨ ∃ b, v1.ownBlock = some b ∧ w.heap.size ≤ b) → K (a.put o.dst v1) W1) :
    if Region.wanted o (yielded ops a.tmps) = true then Oper.wp P o a w K Q else K (a.put o.dst undef) w := by
  have hn : n = m.length := by have := hm.1; rw [toI_length] at this; exact this.symm
  refine Kd.R_append_rows_step (Kd.int .u8) (w0 := w) 0 (by simp [Region.wanted, hgd]) s x t 5 (.int .u8 0) 1 ho ht hinfo rfl (by decide) (by omega) v (toI l) (toI m) A n c (fun _ => True) (fun _ => False) hs hx hv.R hm (fun _ _ h => h) (fun _ h => h.elim) (fun _ _ => trivial) (Below.refl _ _) (Nat.zero_le _) (by rw [toI_length, hn]; omega) ?_
  intro v1 w1 hr _ hg hat
  exact h v1 w1 (BV.of_R (by rw [toI_append]; exact hr)) (Only.of_grown hg) hat
theorem ctl_l (l : List UInt8) (hl : l.length ≤ 4611686018427387904) : ∀ (suf pre : List UInt8), l = pre ++ suf → Ev (fun k => hertzproto_stringContainsCTLByte.l0 k (toI l) (pre.length : Int)) (suf.any SpA.isCtl) := by
  intro suf
  induction suf with
  | nil =>
    intro pre h
    refine Ev.step (f := fun _ => some false) (fun k => ?_) (Ev.now _)
    simp only [hertzproto_stringContainsCTLByte.l0, toI_length]
    rw [if_neg (by rw [h]; simp)]
  | cons c t ih =>
    intro pre h
    have hlen : l.length = pre.length + (t.length + 1) := by rw [h]; simp
    have hrd := SpA.rd_at h (pre.length : Int) rfl
    have hany : (c :: t).any SpA.isCtl = (SpA.isCtl c || t.any SpA.isCtl) := rfl
    rw [hany]
    by_cases h1 : c.toNat < 32
    · rw [show SpA.isCtl c = true by simp [SpA.isCtl, h1]]
      refine Ev.step (f := fun _ => some true) (fun k => ?_) (Ev.now _)
      simp only [hertzproto_stringContainsCTLByte.l0, toI_length]
      rw [if_pos (by omega), if_pos (by omega), hrd, if_pos (by omega)]
    · by_cases h2 : c = 127
      · subst h2
        refine Ev.step (f := fun _ => some true) (fun k => ?_) (Ev.now _)
        simp only [hertzproto_stringContainsCTLByte.l0, toI_length]
        rw [if_pos (by omega), if_pos (by omega), hrd, if_neg (by omega), if_pos (by decide)]
      · have hc : SpA.isCtl c = false := by simp [SpA.isCtl, h1, h2]
        have h3 : ¬ (c.toNat : Int) = 127 := fun e => h2 (UInt8.toNat_inj.1 (by show c.toNat = 127; omega))
        rw [hc, Bool.false_or]
        have ih' := ih (pre ++ [c]) (by rw [h]; simp)
        rw [show (pre ++ [c]).length = pre.length + 1 by simp] at ih'
        refine Ev.step (fun k => ?_) ih'
        simp only [hertzproto_stringContainsCTLByte.l0, toI_length]
        rw [if_pos (by omega), if_pos (by omega), hrd, if_neg (by omega), if_neg h3, Go.Proofs.YtbkeakeldegkeaaKit.wrap_id (by omega) (by omega)]
        rfl
theorem ctl_VW {S : Nat → Prop} {w : World} {A : Option Addr} {n c : Nat} {l : List UInt8} (h : VW S w A n c l) (hl : l.length ≤ 4611686018427387904) (r : Bool) (hr : l.any SpA.isCtl = r) :
    Calls Try.prog 78 #[.slice A n c] w fun e w' => e = .returned (.bool r) ∧ Drawn0 w w' := by
  subst hr
  obtain ⟨q, hq⟩ := ctl_l l hl l [] rfl
  have h1 := h.C
  have e1 : n = (toI l).length := by rw [toI_length]; exact h.len
  have c1 := h.cap
  rw [e1] at h1 c1 ⊢
  exact hertzproto_stringContainsCTLByte.calls q A c (toI l) _ w h1 c1 (hq q (Nat.le_refl _))
theorem norm_of (w : World) (A : Option Addr) (n c : Nat) (l : List UInt8) (hC : Kd.C (Kd.int .u8) w A n (toI l)) (hc : n ≤ c) (hl : l.length ≤ 2147483647) : Calls Try.prog 74 #[.slice none 0 0, .slice A n c] w (NormPost w (SpA.norm l)) := by
  have hn : (toI l).length = n := hC.1
  subst hn
  obtain ⟨k, hk⟩ := SpA.dec_f (SpA.lead l) l (SpA.lead_len l) (by omega)
  exact norm_calls k A c l (SpA.lead l) (SpA.lead l ++ SpA.dec l) w hC hc (SpA.lead_f l) (hk k (Nat.le_refl k)) (SpA.lead_slash l) (by have h1 := SpA.lead_len l; have h2 := SpA.dec_len l.length l (Nat.le_refl _); simp; omega)
theorem norm_len2 (l : List UInt8) : (SpA.norm l).length ≤ l.length + 2 := by
  have h1 := SpA.lead_len l
  have h2 := SpA.dec_len l.length l (Nat.le_refl _)
  have h3 := Cl.clean_len (SpA.lead l ++ SpA.dec l)
  unfold SpA.norm
  rw [List.length_append] at h3
  omega
def NormInto (f : Bool) (dst : Value) : Prop := ∀ (W : World) (b : Bool) (A : Option Addr) (n c : Nat) (l : List UInt8), RW f W dst [] → VW (fun j => dst.ownBlock = some j) W A n c l → l.length ≤ 2147483647 →
    Calls Try.prog 74 #[dst, .slice A n c] W fun e w' => ∃ B m d, e = .returned (.slice B m d) ∧ RW f w' (.slice B m d) (SpA.norm l) ∧ Only (fun j => dst.ownBlock = some j) W w' ∧ ((Value.slice B m d).ownBlock = dst.ownBlock ∨ ∃ b, (Value.slice B m d).ownBlock = some b ∧ W.heap.size ≤ b)
theorem normInto_nil : NormInto false (.slice none 0 0) := fun W b A n c l _ hv hl =>
  (norm_of W A n c l hv.C hv.cap hl).mono fun e w' ⟨g, d, he, hb, hbl, hg, hd⟩ => ⟨some ⟨g, 0, none⟩, (SpA.norm l).length, d, he, ⟨.inr ⟨g, d, rfl, hd, hb⟩, by have := norm_len2 l; omega⟩, Only.of_below hbl, .inr ⟨g, rfl, hg⟩⟩
end Go.Proofs.Ytbkeakeldegkeaa.Q
end
section
namespace Go.Proofs.Ytbkeakeldegkeaa.Q
open Go.RowKit Go.Proofs.YtbkeakeldegkeaaW.PrintWords Go.Proofs.YtbkeakeldegkeaaW.PrintLast Go.Proofs.YtbkeakeldegkeaaW.PrintMore
open Go.Proofs.Ytbkeakeldegkeaa.SpA (toI toI_length toI_append lowU UR ix schEnd schEnd_lt isAl isSg upto past ib_none ib_some upto_none upto_some past_none ix1)
open Go.Proofs.Ytbkeakeldegkeaa.Ob
set_option linter.unusedVariables false
set_option linter.unusedSimpArgs false
set_option maxHeartbeats 8000000 in
set_option maxRecDepth 100000 in
theorem chk_calls {S : Nat → Prop} (w : World) (A : Option Addr) (n c i : Nat) (l : List UInt8) (x : Int) (hx : x = (i : Int)) (h : VW S w A n c l) (hi : 0 < i) (hl : i < l.length) :
    Calls Try.prog 109 #[.int .i64 x, .slice A n c] w fun e w' => (∃ B m d, e = .returned (.tuple #[.slice A i c, .slice B m d]) ∧ VW S w' B m d (l.drop (i + 1))) ∧ Below w.heap.size w w' := by
  obtain ⟨i0, hi0, _, hsz0, _⟩ := info_parts info5
  have hn := h.len
  have hb := h.bound
  obtain ⟨hr1, hv1⟩ := h.cutTo Try.underlying49 hi0 i x hx (by omega)
  have hw : wrap64 (x + 1) = x + 1 := by unfold wrap64; omega
  have hwp : IntKind.i64.wrap (x + 1) = x + 1 := (Go.Proofs.YtbkeakeldegkeaaX.wrap_i64 _).trans hw
  obtain ⟨B, m, d, hr2, hv2⟩ := h.cutFrom Try.underlying49 hi0 hsz0 (i + 1) (x + 1) (by omega) (by omega)
  have h0 : (x == 0) = false := beq_eq_false_iff_ne.2 (by omega)
  have HV := Aside0.mk hv2
  have HB := Aside0.mk (Below.refl w.heap.size w)
  clear h hn hb hv1 hv2 hi0 hsz0 hi hl hx
  go_enter Try.func109, Try.ntmps109
  go_wp2
  go_quiet (fail)
  go_wp2
  go_ret2
  exact ⟨⟨B, m, d, rfl, HV.out.below (by repeat (first | (with_reducible first | exact HB.out | apply below_alloc | apply pw_below_drewN | apply below_drew1) | exact HB.out))⟩, by repeat (first | (with_reducible first | exact HB.out | apply below_alloc | apply pw_below_drewN | apply below_drew1) | exact HB.out)⟩
set_option maxHeartbeats 8000000 in
set_option maxRecDepth 100000 in
theorem chk0_calls (w : World) (A : Option Addr) (n c : Nat) (x : Int) (hx : x = 0) :
    Calls Try.prog 109 #[.int .i64 x, .slice A n c] w fun e w' => e = .returned (.tuple #[.slice none 0 0, .slice none 0 0]) ∧ Below w.heap.size w w' := by
  subst hx
  have h0 : ((0 : Int) == 0) = true := rfl
  have HB := Aside0.mk (Below.refl w.heap.size w)
  go_enter Try.func109, Try.ntmps109
  go_wp2
  go_ret2
  exact ⟨rfl, HB.out⟩
def GSPost (S : Nat → Prop) (w : World) (A : Option Addr) (c : Nat) (l : List UInt8) (e : Ending) (w' : World) : Prop := ((schEnd 0 l = none ∧ ∃ P, e = .returned (.tuple #[.slice none 0 0, P])) ∨ ∃ i B m d, schEnd 0 l = some i ∧ e = .returned (.tuple #[.slice A i c, .slice B m d]) ∧ VW S w' B m d (l.drop (i + 1))) ∧ Below w.heap.size w w'
theorem sch_cons (k : Nat) (l : List UInt8) (h : k < l.length) : schEnd k (l.drop k) = schEnd k (l[k] :: l.drop (k + 1)) := by rw [List.drop_eq_getElem_cons h]
set_option maxHeartbeats 16000000 in
set_option maxRecDepth 100000 in
theorem getScheme_calls {S : Nat → Prop} (w : World) (A : Option Addr) (n c : Nat) (l : List UInt8) (h : VW S w A n c l) :
    Calls Try.prog 101 #[.slice A n c] w (GSPost S w A c l) := by
  have HV := Aside0.mk h
  have hn := h.len
  have hb := h.bound
  have HN := Aside0.mk hn
  have HBD := Aside0.mk hb
  have HB := Aside0.mk (Below.refl w.heap.size w)
  clear h hn hb
  go_enter Try.func101, Try.ntmps101
  go_wp2
  go_loopw [4] (fun s4 wr => ∃ k : Nat, s4 = .int .i64 (k : Int) ∧ Aside0 (k ≤ l.length) ∧ Aside0 (schEnd 0 l = schEnd k (l.drop k)) ∧ Aside0 (Below w.heap.size w wr)) (fun s4 _ => (l.length - (intOf s4)).toNat)
  case atStart => exact ⟨0, rfl, ⟨Nat.zero_le _⟩, ⟨rfl⟩, HB⟩
  case round =>
    clear HB
    obtain ⟨k, rfl, HK, HE, HB⟩ := hrel
    obtain ⟨x9, hx9⟩ : ∃ x : Int, x = (k : Int) := ⟨_, rfl⟩
    rw [← hx9]
    have HX := Aside0.mk hx9
    by_cases hlt : k < l.length
    · have hsl := HN.out
      have c1 : decide (x9 < (n : Int)) = true := decide_eq_true (by omega)
      have hv := HV.out.below HB.out
      have hc := hv.C
      have h0 : 0 ≤ x9 := by omega
      have h1 : x9 < ((toI l).length : Int) := by rw [toI_length]; omega
      have e1 : n = (toI l).length := by rw [toI_length]; exact hsl
      rw [e1] at hc
      obtain ⟨ad, had, hcell⟩ := Kd.at_int hc x9 h0 h1
      have hrd : rd (toI l) x9 = (l[k].toNat : Int) := SpA.rd_at (pre := l.take k) (t := l.drop (k + 1)) (by rw [List.getElem_cons_drop, List.take_append_drop]) x9 (by rw [hx9, List.length_take, Nat.min_eq_left (Nat.le_of_lt hlt)])
      obtain ⟨b, hbk⟩ : ∃ b : UInt8, b = l[k] := ⟨_, rfl⟩
      obtain ⟨x, hx⟩ : ∃ x : Int, x = (b.toNat : Int) := ⟨_, rfl⟩
      rw [hrd, ← hbk, ← hx] at hcell
      have HXB := Aside0.mk hx
      have HEC : Aside0 (schEnd 0 l = schEnd k (b :: l.drop (k + 1))) := ⟨by rw [HE.out, sch_cons k l hlt, hbk]⟩
      have HLT := Aside0.mk hlt
      have HVW := Aside0.mk hv
      have HW : Aside0 (wrap64 (x9 + 1) = ((k + 1 : Nat) : Int)) := ⟨by have h1 := HBD.out; rw [hx9]; unfold wrap64; omega⟩
      have p1 : (0 ≤ x9) = True := eq_true h0
      have q1 : (x9 < (n : Int)) = True := eq_true (by omega)
      have hx256 : x < 256 := by have := b.toNat_lt; omega
      have hx0 : 0 ≤ x := by omega
      cases had
      clear HE hx9 hsl hc hrd hbk h0 h1 e1 hlt hv
      rcases (by omega : (97 ≤ x ∧ x ≤ 122) ∨ (65 ≤ x ∧ x ≤ 90) ∨ (48 ≤ x ∧ x ≤ 57) ∨ x = 43 ∨ x = 45 ∨ x = 46 ∨ x = 58 ∨ (x < 48 ∧ x ≠ 43 ∧ x ≠ 45 ∧ x ≠ 46) ∨ (59 ≤ x ∧ x ≤ 64) ∨ (91 ≤ x ∧ x ≤ 96) ∨ 123 ≤ x) with hc | hc | hc | hc | hc | hc | hc | hc | hc | hc | hc
      · have t0 : decide (97 ≤ x) = true := decide_eq_true (by omega)
        have t1 : decide (x ≤ 122) = true := decide_eq_true (by omega)
        have t2 : decide (65 ≤ x) = true := decide_eq_true (by omega)
        have t3 : decide (x ≤ 90) = false := decide_eq_false (by omega)
        have t4 : decide (48 ≤ x) = true := decide_eq_true (by omega)
        have t5 : decide (x ≤ 57) = false := decide_eq_false (by omega)
        have t6 : (x == 43) = false := beq_eq_false_iff_ne.2 (by omega)
        have t7 : (x == 45) = false := beq_eq_false_iff_ne.2 (by omega)
        have t8 : (x == 46) = false := beq_eq_false_iff_ne.2 (by omega)
        have t9 : (x == 58) = false := beq_eq_false_iff_ne.2 (by omega)
        have HK2 : Aside0 (isAl b = true) := ⟨by simp only [isAl, Bool.or_eq_true, Bool.and_eq_true, decide_eq_true_eq]; omega⟩
        clear hc hx
        go_wp2
        go_roundw
        case measure => show ((l.length : Int) - wrap64 (x9 + 1)).toNat < ((l.length : Int) - x9).toNat; rw [HW.out]; have := HX.out; have := HLT.out; omega
        case rel => exact ⟨k + 1, congrArg (Value.int .i64) HW.out, ⟨by have := HLT.out; omega⟩, ⟨by rw [HEC.out, schEnd, if_pos HK2.out]⟩, ⟨by repeat (first | (with_reducible first | exact HB.out | apply below_alloc | apply pw_below_drewN | apply below_drew1) | exact HB.out)⟩⟩
      · have t0 : decide (97 ≤ x) = false := decide_eq_false (by omega)
        have t1 : decide (x ≤ 122) = true := decide_eq_true (by omega)
        have t2 : decide (65 ≤ x) = true := decide_eq_true (by omega)
        have t3 : decide (x ≤ 90) = true := decide_eq_true (by omega)
        have t4 : decide (48 ≤ x) = true := decide_eq_true (by omega)
        have t5 : decide (x ≤ 57) = false := decide_eq_false (by omega)
        have t6 : (x == 43) = false := beq_eq_false_iff_ne.2 (by omega)
        have t7 : (x == 45) = false := beq_eq_false_iff_ne.2 (by omega)
        have t8 : (x == 46) = false := beq_eq_false_iff_ne.2 (by omega)
        have t9 : (x == 58) = false := beq_eq_false_iff_ne.2 (by omega)
        have HK2 : Aside0 (isAl b = true) := ⟨by simp only [isAl, Bool.or_eq_true, Bool.and_eq_true, decide_eq_true_eq]; omega⟩
        clear hc hx
        go_wp2
        go_roundw
        case measure => show ((l.length : Int) - wrap64 (x9 + 1)).toNat < ((l.length : Int) - x9).toNat; rw [HW.out]; have := HX.out; have := HLT.out; omega
        case rel => exact ⟨k + 1, congrArg (Value.int .i64) HW.out, ⟨by have := HLT.out; omega⟩, ⟨by rw [HEC.out, schEnd, if_pos HK2.out]⟩, ⟨by repeat (first | (with_reducible first | exact HB.out | apply below_alloc | apply pw_below_drewN | apply below_drew1) | exact HB.out)⟩⟩
      · have t0 : decide (97 ≤ x) = false := decide_eq_false (by omega)
        have t1 : decide (x ≤ 122) = true := decide_eq_true (by omega)
        have t2 : decide (65 ≤ x) = false := decide_eq_false (by omega)
        have t3 : decide (x ≤ 90) = true := decide_eq_true (by omega)
        have t4 : decide (48 ≤ x) = true := decide_eq_true (by omega)
        have t5 : decide (x ≤ 57) = true := decide_eq_true (by omega)
        have t6 : (x == 43) = false := beq_eq_false_iff_ne.2 (by omega)
        have t7 : (x == 45) = false := beq_eq_false_iff_ne.2 (by omega)
        have t8 : (x == 46) = false := beq_eq_false_iff_ne.2 (by omega)
        have t9 : (x == 58) = false := beq_eq_false_iff_ne.2 (by omega)
        have HNA : Aside0 (isAl b = false) := ⟨by simp only [isAl, Bool.or_eq_false_iff, Bool.and_eq_false_iff, decide_eq_false_iff_not]; omega⟩
        have HK2 : Aside0 (isSg b = true) := ⟨by unfold isSg; rw [show (decide (48 ≤ b.toNat) && decide (b.toNat ≤ 57)) = true by simp; omega]; rfl⟩
        clear hc hx
        by_cases hk0 : k = 0
        · have z0 : (x9 == 0) = true := beq_iff_eq.2 (by have := HX.out; omega)
          have HZ := Aside0.mk hk0
          clear hk0
          go_wp2
          go_ret2
          exact ⟨.inl ⟨by rw [HEC.out, schEnd, if_neg (by rw [HNA.out]; simp), if_pos HK2.out, if_pos HZ.out], _, rfl⟩, by repeat (first | (with_reducible first | exact HB.out | apply below_alloc | apply pw_below_drewN | apply below_drew1) | exact HB.out)⟩
        · have z0 : (x9 == 0) = false := beq_eq_false_iff_ne.2 (by have := HX.out; omega)
          have HZ := Aside0.mk hk0
          clear hk0
          go_wp2
          go_roundw
          case measure => show ((l.length : Int) - wrap64 (x9 + 1)).toNat < ((l.length : Int) - x9).toNat; rw [HW.out]; have := HX.out; have := HLT.out; omega
          case rel => exact ⟨k + 1, congrArg (Value.int .i64) HW.out, ⟨by have := HLT.out; omega⟩, ⟨by rw [HEC.out, schEnd, if_neg (by rw [HNA.out]; simp), if_pos HK2.out, if_neg HZ.out]⟩, ⟨by repeat (first | (with_reducible first | exact HB.out | apply below_alloc | apply pw_below_drewN | apply below_drew1) | exact HB.out)⟩⟩
      · have t0 : decide (97 ≤ x) = false := decide_eq_false (by omega)
        have t1 : decide (x ≤ 122) = true := decide_eq_true (by omega)
        have t2 : decide (65 ≤ x) = false := decide_eq_false (by omega)
        have t3 : decide (x ≤ 90) = true := decide_eq_true (by omega)
        have t4 : decide (48 ≤ x) = false := decide_eq_false (by omega)
        have t5 : decide (x ≤ 57) = true := decide_eq_true (by omega)
        have t6 : (x == 43) = true := beq_iff_eq.2 (by omega)
        have t7 : (x == 45) = false := beq_eq_false_iff_ne.2 (by omega)
        have t8 : (x == 46) = false := beq_eq_false_iff_ne.2 (by omega)
        have t9 : (x == 58) = false := beq_eq_false_iff_ne.2 (by omega)
        have HNA : Aside0 (isAl b = false) := ⟨by simp only [isAl, Bool.or_eq_false_iff, Bool.and_eq_false_iff, decide_eq_false_iff_not]; omega⟩
        have HK2 : Aside0 (isSg b = true) := ⟨by rw [show b = 43 from UInt8.toNat_inj.1 (by show b.toNat = 43; omega)]; rfl⟩
        clear hc hx
        by_cases hk0 : k = 0
        · have z0 : (x9 == 0) = true := beq_iff_eq.2 (by have := HX.out; omega)
          have HZ := Aside0.mk hk0
          clear hk0
          go_wp2
          go_ret2
          exact ⟨.inl ⟨by rw [HEC.out, schEnd, if_neg (by rw [HNA.out]; simp), if_pos HK2.out, if_pos HZ.out], _, rfl⟩, by repeat (first | (with_reducible first | exact HB.out | apply below_alloc | apply pw_below_drewN | apply below_drew1) | exact HB.out)⟩
        · have z0 : (x9 == 0) = false := beq_eq_false_iff_ne.2 (by have := HX.out; omega)
          have HZ := Aside0.mk hk0
          clear hk0
          go_wp2
          go_roundw
          case measure => show ((l.length : Int) - wrap64 (x9 + 1)).toNat < ((l.length : Int) - x9).toNat; rw [HW.out]; have := HX.out; have := HLT.out; omega
          case rel => exact ⟨k + 1, congrArg (Value.int .i64) HW.out, ⟨by have := HLT.out; omega⟩, ⟨by rw [HEC.out, schEnd, if_neg (by rw [HNA.out]; simp), if_pos HK2.out, if_neg HZ.out]⟩, ⟨by repeat (first | (with_reducible first | exact HB.out | apply below_alloc | apply pw_below_drewN | apply below_drew1) | exact HB.out)⟩⟩
      · have t0 : decide (97 ≤ x) = false := decide_eq_false (by omega)
        have t1 : decide (x ≤ 122) = true := decide_eq_true (by omega)
        have t2 : decide (65 ≤ x) = false := decide_eq_false (by omega)
        have t3 : decide (x ≤ 90) = true := decide_eq_true (by omega)
        have t4 : decide (48 ≤ x) = false := decide_eq_false (by omega)
        have t5 : decide (x ≤ 57) = true := decide_eq_true (by omega)
        have t6 : (x == 43) = false := beq_eq_false_iff_ne.2 (by omega)
        have t7 : (x == 45) = true := beq_iff_eq.2 (by omega)
        have t8 : (x == 46) = false := beq_eq_false_iff_ne.2 (by omega)
        have t9 : (x == 58) = false := beq_eq_false_iff_ne.2 (by omega)
        have HNA : Aside0 (isAl b = false) := ⟨by simp only [isAl, Bool.or_eq_false_iff, Bool.and_eq_false_iff, decide_eq_false_iff_not]; omega⟩
        have HK2 : Aside0 (isSg b = true) := ⟨by rw [show b = 45 from UInt8.toNat_inj.1 (by show b.toNat = 45; omega)]; rfl⟩
        clear hc hx
        by_cases hk0 : k = 0
        · have z0 : (x9 == 0) = true := beq_iff_eq.2 (by have := HX.out; omega)
          have HZ := Aside0.mk hk0
          clear hk0
          go_wp2
          go_ret2
          exact ⟨.inl ⟨by rw [HEC.out, schEnd, if_neg (by rw [HNA.out]; simp), if_pos HK2.out, if_pos HZ.out], _, rfl⟩, by repeat (first | (with_reducible first | exact HB.out | apply below_alloc | apply pw_below_drewN | apply below_drew1) | exact HB.out)⟩
        · have z0 : (x9 == 0) = false := beq_eq_false_iff_ne.2 (by have := HX.out; omega)
          have HZ := Aside0.mk hk0
          clear hk0
          go_wp2
          go_roundw
          case measure => show ((l.length : Int) - wrap64 (x9 + 1)).toNat < ((l.length : Int) - x9).toNat; rw [HW.out]; have := HX.out; have := HLT.out; omega
          case rel => exact ⟨k + 1, congrArg (Value.int .i64) HW.out, ⟨by have := HLT.out; omega⟩, ⟨by rw [HEC.out, schEnd, if_neg (by rw [HNA.out]; simp), if_pos HK2.out, if_neg HZ.out]⟩, ⟨by repeat (first | (with_reducible first | exact HB.out | apply below_alloc | apply pw_below_drewN | apply below_drew1) | exact HB.out)⟩⟩
      · have t0 : decide (97 ≤ x) = false := decide_eq_false (by omega)
        have t1 : decide (x ≤ 122) = true := decide_eq_true (by omega)
        have t2 : decide (65 ≤ x) = false := decide_eq_false (by omega)
        have t3 : decide (x ≤ 90) = true := decide_eq_true (by omega)
        have t4 : decide (48 ≤ x) = false := decide_eq_false (by omega)
        have t5 : decide (x ≤ 57) = true := decide_eq_true (by omega)
        have t6 : (x == 43) = false := beq_eq_false_iff_ne.2 (by omega)
        have t7 : (x == 45) = false := beq_eq_false_iff_ne.2 (by omega)
        have t8 : (x == 46) = true := beq_iff_eq.2 (by omega)
        have t9 : (x == 58) = false := beq_eq_false_iff_ne.2 (by omega)
        have HNA : Aside0 (isAl b = false) := ⟨by simp only [isAl, Bool.or_eq_false_iff, Bool.and_eq_false_iff, decide_eq_false_iff_not]; omega⟩
        have HK2 : Aside0 (isSg b = true) := ⟨by rw [show b = 46 from UInt8.toNat_inj.1 (by show b.toNat = 46; omega)]; rfl⟩
        clear hc hx
        by_cases hk0 : k = 0
        · have z0 : (x9 == 0) = true := beq_iff_eq.2 (by have := HX.out; omega)
          have HZ := Aside0.mk hk0
          clear hk0
          go_wp2
          go_ret2
          exact ⟨.inl ⟨by rw [HEC.out, schEnd, if_neg (by rw [HNA.out]; simp), if_pos HK2.out, if_pos HZ.out], _, rfl⟩, by repeat (first | (with_reducible first | exact HB.out | apply below_alloc | apply pw_below_drewN | apply below_drew1) | exact HB.out)⟩
        · have z0 : (x9 == 0) = false := beq_eq_false_iff_ne.2 (by have := HX.out; omega)
          have HZ := Aside0.mk hk0
          clear hk0
          go_wp2
          go_roundw
          case measure => show ((l.length : Int) - wrap64 (x9 + 1)).toNat < ((l.length : Int) - x9).toNat; rw [HW.out]; have := HX.out; have := HLT.out; omega
          case rel => exact ⟨k + 1, congrArg (Value.int .i64) HW.out, ⟨by have := HLT.out; omega⟩, ⟨by rw [HEC.out, schEnd, if_neg (by rw [HNA.out]; simp), if_pos HK2.out, if_neg HZ.out]⟩, ⟨by repeat (first | (with_reducible first | exact HB.out | apply below_alloc | apply pw_below_drewN | apply below_drew1) | exact HB.out)⟩⟩
      · have t0 : decide (97 ≤ x) = false := decide_eq_false (by omega)
        have t1 : decide (x ≤ 122) = true := decide_eq_true (by omega)
        have t2 : decide (65 ≤ x) = false := decide_eq_false (by omega)
        have t3 : decide (x ≤ 90) = true := decide_eq_true (by omega)
        have t4 : decide (48 ≤ x) = true := decide_eq_true (by omega)
        have t5 : decide (x ≤ 57) = false := decide_eq_false (by omega)
        have t6 : (x == 43) = false := beq_eq_false_iff_ne.2 (by omega)
        have t7 : (x == 45) = false := beq_eq_false_iff_ne.2 (by omega)
        have t8 : (x == 46) = false := beq_eq_false_iff_ne.2 (by omega)
        have t9 : (x == 58) = true := beq_iff_eq.2 (by omega)
        have HNA : Aside0 (isAl b = false) := ⟨by simp only [isAl, Bool.or_eq_false_iff, Bool.and_eq_false_iff, decide_eq_false_iff_not]; omega⟩
        have HNS : Aside0 (isSg b = false) := ⟨by
          have z1 : ¬ b = 43 := fun e => by subst e; simp at hx; omega
          have z2 : ¬ b = 45 := fun e => by subst e; simp at hx; omega
          have z3 : ¬ b = 46 := fun e => by subst e; simp at hx; omega
          unfold isSg; simp [z1, z2, z3]; omega⟩
        have HK2 : Aside0 (b = 58) := ⟨UInt8.toNat_inj.1 (by show b.toNat = 58; omega)⟩
        clear hc hx
        by_cases hk0 : k = 0
        · have HZ := Aside0.mk hk0
          clear hk0
          go_wp2_with (first | ((with_reducible refine gate_callee (f := 109) rfl ?_); refine goesL_ (some 59) rfl rfl Try.func109 (by kernel_rfl) rfl #[.int .i64 x9, .slice (some ad) n c] rfl (by (try simp only [List.map_toArray, List.map_cons, List.map_nil]); first | done | rfl) ?_; refine (chk0_calls _ (some ad) n c x9 (by have := HX.out; have := HZ.out; omega)).mono ?_; rintro e w1 ⟨rfl, hb1⟩; refine ⟨_, rfl, ?_⟩; have n0_ := Aside0.mk (HB.out.trans (hb1.mono HB.out.size)); clear HB hb1; have HB := n0_; clear n0_))
          go_ret2
          exact ⟨.inl ⟨by rw [HEC.out, schEnd, if_neg (by rw [HNA.out]; simp), if_neg (by rw [HNS.out]; simp), if_pos HK2.out, if_pos HZ.out], _, rfl⟩, by repeat (first | (with_reducible first | exact HB.out | apply below_alloc | apply pw_below_drewN | apply below_drew1) | exact HB.out)⟩
        · have HZ := Aside0.mk hk0
          clear hk0
          obtain ⟨i0, hi0, _, hsz0, _⟩ := info_parts info5
          go_wp2_with (first | ((with_reducible refine gate_callee (f := 109) rfl ?_); refine goesL_ (some 59) rfl rfl Try.func109 (by kernel_rfl) rfl #[.int .i64 x9, .slice (some ad) n c] rfl (by (try simp only [List.map_toArray, List.map_cons, List.map_nil]); first | done | rfl) ?_; refine (chk_calls _ (some ad) n c k l x9 HX.out HVW.out (by have := HZ.out; omega) HLT.out).mono ?_; rintro e w1 ⟨⟨B, m, d, rfl, hv1⟩, hb1⟩; refine ⟨_, rfl, ?_⟩; have HV1 := Aside0.mk hv1; have n0_ := Aside0.mk (HB.out.trans (hb1.mono HB.out.size)); clear HB hb1 hv1; have HB := n0_; clear n0_))
          go_ret2
          exact ⟨.inr ⟨k, _, _, _, by rw [HEC.out, schEnd, if_neg (by rw [HNA.out]; simp), if_neg (by rw [HNS.out]; simp), if_pos HK2.out, if_neg HZ.out], rfl, HV1.out⟩, by repeat (first | (with_reducible first | exact HB.out | apply below_alloc | apply pw_below_drewN | apply below_drew1) | exact HB.out)⟩
      · have t0 : decide (97 ≤ x) = false := decide_eq_false (by omega)
        have t1 : decide (x ≤ 122) = true := decide_eq_true (by omega)
        have t2 : decide (65 ≤ x) = false := decide_eq_false (by omega)
        have t3 : decide (x ≤ 90) = true := decide_eq_true (by omega)
        have t4 : decide (48 ≤ x) = false := decide_eq_false (by omega)
        have t5 : decide (x ≤ 57) = true := decide_eq_true (by omega)
        have t6 : (x == 43) = false := beq_eq_false_iff_ne.2 (by omega)
        have t7 : (x == 45) = false := beq_eq_false_iff_ne.2 (by omega)
        have t8 : (x == 46) = false := beq_eq_false_iff_ne.2 (by omega)
        have t9 : (x == 58) = false := beq_eq_false_iff_ne.2 (by omega)
        have HNA : Aside0 (isAl b = false) := ⟨by simp only [isAl, Bool.or_eq_false_iff, Bool.and_eq_false_iff, decide_eq_false_iff_not]; omega⟩
        have HNS : Aside0 (isSg b = false) := ⟨by
          have z1 : ¬ b = 43 := fun e => by subst e; simp at hx; omega
          have z2 : ¬ b = 45 := fun e => by subst e; simp at hx; omega
          have z3 : ¬ b = 46 := fun e => by subst e; simp at hx; omega
          unfold isSg; simp [z1, z2, z3]; omega⟩
        have HK2 : Aside0 (¬ b = 58) := ⟨fun e => by subst e; simp at hx; omega⟩
        clear hc hx
        go_wp2
        go_ret2
        exact ⟨.inl ⟨by rw [HEC.out, schEnd, if_neg (by rw [HNA.out]; simp), if_neg (by rw [HNS.out]; simp), if_neg HK2.out], _, rfl⟩, by repeat (first | (with_reducible first | exact HB.out | apply below_alloc | apply pw_below_drewN | apply below_drew1) | exact HB.out)⟩
      · have t0 : decide (97 ≤ x) = false := decide_eq_false (by omega)
        have t1 : decide (x ≤ 122) = true := decide_eq_true (by omega)
        have t2 : decide (65 ≤ x) = false := decide_eq_false (by omega)
        have t3 : decide (x ≤ 90) = true := decide_eq_true (by omega)
        have t4 : decide (48 ≤ x) = true := decide_eq_true (by omega)
        have t5 : decide (x ≤ 57) = false := decide_eq_false (by omega)
        have t6 : (x == 43) = false := beq_eq_false_iff_ne.2 (by omega)
        have t7 : (x == 45) = false := beq_eq_false_iff_ne.2 (by omega)
        have t8 : (x == 46) = false := beq_eq_false_iff_ne.2 (by omega)
        have t9 : (x == 58) = false := beq_eq_false_iff_ne.2 (by omega)
        have HNA : Aside0 (isAl b = false) := ⟨by simp only [isAl, Bool.or_eq_false_iff, Bool.and_eq_false_iff, decide_eq_false_iff_not]; omega⟩
        have HNS : Aside0 (isSg b = false) := ⟨by
          have z1 : ¬ b = 43 := fun e => by subst e; simp at hx; omega
          have z2 : ¬ b = 45 := fun e => by subst e; simp at hx; omega
          have z3 : ¬ b = 46 := fun e => by subst e; simp at hx; omega
          unfold isSg; simp [z1, z2, z3]; omega⟩
        have HK2 : Aside0 (¬ b = 58) := ⟨fun e => by subst e; simp at hx; omega⟩
        clear hc hx
        go_wp2
        go_ret2
        exact ⟨.inl ⟨by rw [HEC.out, schEnd, if_neg (by rw [HNA.out]; simp), if_neg (by rw [HNS.out]; simp), if_neg HK2.out], _, rfl⟩, by repeat (first | (with_reducible first | exact HB.out | apply below_alloc | apply pw_below_drewN | apply below_drew1) | exact HB.out)⟩
      · have t0 : decide (97 ≤ x) = false := decide_eq_false (by omega)
        have t1 : decide (x ≤ 122) = true := decide_eq_true (by omega)
        have t2 : decide (65 ≤ x) = true := decide_eq_true (by omega)
        have t3 : decide (x ≤ 90) = false := decide_eq_false (by omega)
        have t4 : decide (48 ≤ x) = true := decide_eq_true (by omega)
        have t5 : decide (x ≤ 57) = false := decide_eq_false (by omega)
        have t6 : (x == 43) = false := beq_eq_false_iff_ne.2 (by omega)
        have t7 : (x == 45) = false := beq_eq_false_iff_ne.2 (by omega)
        have t8 : (x == 46) = false := beq_eq_false_iff_ne.2 (by omega)
        have t9 : (x == 58) = false := beq_eq_false_iff_ne.2 (by omega)
        have HNA : Aside0 (isAl b = false) := ⟨by simp only [isAl, Bool.or_eq_false_iff, Bool.and_eq_false_iff, decide_eq_false_iff_not]; omega⟩
        have HNS : Aside0 (isSg b = false) := ⟨by
          have z1 : ¬ b = 43 := fun e => by subst e; simp at hx; omega
          have z2 : ¬ b = 45 := fun e => by subst e; simp at hx; omega
          have z3 : ¬ b = 46 := fun e => by subst e; simp at hx; omega
          unfold isSg; simp [z1, z2, z3]; omega⟩
        have HK2 : Aside0 (¬ b = 58) := ⟨fun e => by subst e; simp at hx; omega⟩
        clear hc hx
        go_wp2
        go_ret2
        exact ⟨.inl ⟨by rw [HEC.out, schEnd, if_neg (by rw [HNA.out]; simp), if_neg (by rw [HNS.out]; simp), if_neg HK2.out], _, rfl⟩, by repeat (first | (with_reducible first | exact HB.out | apply below_alloc | apply pw_below_drewN | apply below_drew1) | exact HB.out)⟩
      · have t0 : decide (97 ≤ x) = true := decide_eq_true (by omega)
        have t1 : decide (x ≤ 122) = false := decide_eq_false (by omega)
        have t2 : decide (65 ≤ x) = true := decide_eq_true (by omega)
        have t3 : decide (x ≤ 90) = false := decide_eq_false (by omega)
        have t4 : decide (48 ≤ x) = true := decide_eq_true (by omega)
        have t5 : decide (x ≤ 57) = false := decide_eq_false (by omega)
        have t6 : (x == 43) = false := beq_eq_false_iff_ne.2 (by omega)
        have t7 : (x == 45) = false := beq_eq_false_iff_ne.2 (by omega)
        have t8 : (x == 46) = false := beq_eq_false_iff_ne.2 (by omega)
        have t9 : (x == 58) = false := beq_eq_false_iff_ne.2 (by omega)
        have HNA : Aside0 (isAl b = false) := ⟨by simp only [isAl, Bool.or_eq_false_iff, Bool.and_eq_false_iff, decide_eq_false_iff_not]; omega⟩
        have HNS : Aside0 (isSg b = false) := ⟨by
          have z1 : ¬ b = 43 := fun e => by subst e; simp at hx; omega
          have z2 : ¬ b = 45 := fun e => by subst e; simp at hx; omega
          have z3 : ¬ b = 46 := fun e => by subst e; simp at hx; omega
          unfold isSg; simp [z1, z2, z3]; omega⟩
        have HK2 : Aside0 (¬ b = 58) := ⟨fun e => by subst e; simp at hx; omega⟩
        clear hc hx
        go_wp2
        go_ret2
        exact ⟨.inl ⟨by rw [HEC.out, schEnd, if_neg (by rw [HNA.out]; simp), if_neg (by rw [HNS.out]; simp), if_neg HK2.out], _, rfl⟩, by repeat (first | (with_reducible first | exact HB.out | apply below_alloc | apply pw_below_drewN | apply below_drew1) | exact HB.out)⟩
    · have hsl := HN.out
      have c1 : decide (x9 < (n : Int)) = false := decide_eq_false (by omega)
      have hke : k = l.length := by have := HK.out; omega
      have HEN : Aside0 (schEnd 0 l = none) := ⟨by rw [HE.out, hke, List.drop_length]; rfl⟩
      clear hx9 hsl hke hlt
      go_wp2
      go_ret2
      exact ⟨.inl ⟨HEN.out, _, rfl⟩, by repeat (first | (with_reducible first | exact HB.out | apply below_alloc | apply pw_below_drewN | apply below_drew1) | exact HB.out)⟩
end Go.Proofs.Ytbkeakeldegkeaa.Q
end
section
namespace Go.Proofs.Ytbkeakeldegkeaa.Q
open Go.RowKit Go.Proofs.YtbkeakeldegkeaaW.PrintWords Go.Proofs.YtbkeakeldegkeaaW.PrintLast Go.Proofs.YtbkeakeldegkeaaW.PrintMore
open Go.Proofs.Ytbkeakeldegkeaa.SpA (toI toI_length toI_append lowU UR ix schEnd schEnd_lt isAl isSg upto past ib_none ib_some upto_none upto_some past_none ix1 partU HTTP)
open Go.Proofs.Ytbkeakeldegkeaa.Ob
set_option linter.unusedVariables false
set_option linter.unusedSimpArgs false
theorem getScheme_none {S : Nat → Prop} (w : World) (A : Option Addr) (n c : Nat) (l : List UInt8) (h : VW S w A n c l) (hs : schEnd 0 l = none) :
    Calls Try.prog 101 #[.slice A n c] w fun e w' => (∃ P, e = .returned (.tuple #[.slice none 0 0, P])) ∧ Below w.heap.size w w' := by
  refine (getScheme_calls w A n c l h).mono fun e w' hp => ⟨?_, hp.2⟩
  rcases hp.1 with ⟨_, P, e⟩ | ⟨i, B, m, d, e, _⟩
  · exact ⟨P, e⟩
  · rw [hs] at e; cases e
theorem getScheme_some {S : Nat → Prop} (w : World) (A : Option Addr) (n c : Nat) (l : List UInt8) (h : VW S w A n c l) (i : Nat) (hs : schEnd 0 l = some i) :
    Calls Try.prog 101 #[.slice A n c] w fun e w' => (∃ B m d, e = .returned (.tuple #[.slice A i c, .slice B m d]) ∧ VW S w' B m d (l.drop (i + 1))) ∧ Below w.heap.size w w' := by
  refine (getScheme_calls w A n c l h).mono fun e w' hp => ⟨?_, hp.2⟩
  rcases hp.1 with ⟨e, _⟩ | ⟨j, B, m, d, e, he, hv⟩
  · rw [hs] at e; cases e
  · rw [hs] at e; cases e
    exact ⟨B, m, d, he, hv⟩
theorem VW.some {S : Nat → Prop} {w : World} {A : Option Addr} {n c : Nat} {l : List UInt8} (h : VW S w A n c l) (hn : 0 < n) : ∃ ad, A = some ad := by
  obtain ⟨ad, e, _⟩ := h.C.2.2 hn
  exact ⟨ad, e⟩
def ThreePost (S : Nat → Prop) (w : World) (x y z : List UInt8) (e : Ending) (w' : World) : Prop := (∃ A n c B m d D p q, e = .returned (.tuple #[.slice A n c, .slice B m d, .slice D p q]) ∧ VW S w' A n c x ∧ VW S w' B m d y ∧ VW S w' D p q z) ∧ Below w.heap.size w w'
set_option maxHeartbeats 16000000 in
set_option maxRecDepth 100000 in
theorem split_none {S : Nat → Prop} (w : World) (A B : Option Addr) (n c m d : Nat) (h u : List UInt8) (hh : VW S w A n c h) (hu : VW S w B m d u) (hS : ∀ k, S k → k < w.heap.size) (hs : schEnd 0 u = none) :
    Calls Try.prog 81 #[.slice A n c, .slice B m d] w (ThreePost S w HTTP h u) := by
  have HH := Aside0.mk hh
  have HU := Aside0.mk hu
  have HSS := Aside0.mk hS
  have HS := Aside0.mk hs
  have HB := Aside0.mk (Below.refl w.heap.size w)
  have hnil := fun W : World => Lib.run_eql_slice_nil (P := Try.prog) W 49 5 none 0 0 0 0 Try.underlying49
  clear hh hu hs hS
  go_enter Try.func81, Try.ntmps81
  go_wp2_with (first | ((with_reducible refine gate_callee (f := 101) rfl ?_); refine goesL_ (some 12) rfl rfl Try.func101 (by kernel_rfl) rfl #[.slice B m d] rfl (by (try simp only [List.map_toArray, List.map_cons, List.map_nil]); first | done | rfl) ?_; refine (getScheme_none _ B m d u (HU.out.below HB.out) HS.out).mono ?_; rintro e w1 ⟨⟨P1, rfl⟩, hb1⟩; refine ⟨_, rfl, ?_⟩; have n0_ := Aside0.mk (HB.out.trans (hb1.mono (by first | exact HB.out.size | (have := HB.out.size; simp; omega)))); have hm_ := hb1; clear HB hb1; have HB := n0_; clear n0_; clear hm_) | ((with_reducible refine gate_callee (f := 87) rfl ?_); refine goesL_ (some 17) rfl rfl Try.func87 (by kernel_rfl) rfl #[] rfl (by (try simp only [List.map_toArray, List.map_cons, List.map_nil]); first | done | rfl) ?_; refine (strHTTP_calls _).mono ?_; rintro e w2 ⟨g2, c2, rfl, hc2, hb2, hg2, hb1⟩; refine ⟨_, rfl, ?_⟩; have HR2 := Aside0.mk (VW.of_BR (S := S) hb2 (fun e => by have := HSS.out g2 e; have := HB.out.size; omega) hc2 (by decide)); clear hc2 hb2 hg2; have n0_ := Aside0.mk (HB.out.trans (hb1.mono (by first | exact HB.out.size | (have := HB.out.size; simp; omega)))); have hm_ := hb1; clear HB hb1; have HB := n0_; clear n0_; clear hm_))
  go_ret3
  exact ⟨⟨_, _, _, _, _, _, _, _, _, rfl, HR2.out, HH.out.below HB.out, HU.out.below HB.out⟩, HB.out⟩
set_option maxHeartbeats 16000000 in
set_option maxRecDepth 100000 in
theorem split_slash {S : Nat → Prop} (w : World) (A B : Option Addr) (n c m d i : Nat) (h u q : List UInt8) (hh : VW S w A n c h) (hu : VW S w B m d u) (hS : ∀ k, S k → k < w.heap.size) (hs : schEnd 0 u = some i) (hq : q = u.drop (i + 3)) (h2 : i + 3 ≤ u.length) (h4 : (47 : UInt8) ∈ q) :
    Calls Try.prog 81 #[.slice A n c, .slice B m d] w (ThreePost S w (u.take i) (upto 47 q) (q.dropWhile (· != 47))) := by
  have hil := schEnd_lt u 0 i hs
  have hm := hu.len
  obtain ⟨ad, rfl⟩ := hu.some (by omega)
  obtain ⟨i0, hi0, _, hsz0, _⟩ := info_parts info5
  have hnil := fun W : World => Lib.run_eql_slice_nil (P := Try.prog) W 49 5 (some ad) i d 0 0 Try.underlying49
  have hq2 : (u.drop (i + 1)).drop 2 = q := by rw [hq, List.drop_drop]
  have HH := Aside0.mk hh
  have HU := Aside0.mk hu
  have HSS := Aside0.mk hS
  have HS := Aside0.mk hs
  have HI := Aside0.mk hi0
  have HSZ := Aside0.mk hsz0
  have HQ2 := Aside0.mk hq2
  have HSC := Aside0.mk (hu.take i (by omega))
  have H12 : Aside0 (2 ≤ (u.drop (i + 1)).length) := ⟨by rw [List.length_drop]; omega⟩
  have HB := Aside0.mk (Below.refl w.heap.size w)
  obtain ⟨j, hj⟩ : ∃ j, j = (upto 47 q).length := ⟨_, rfl⟩
  obtain ⟨r, hr⟩ : ∃ r : Int, r = (j : Int) := ⟨_, rfl⟩
  have HR : Aside0 (Lib.indexByte q 47 = r) := ⟨by rw [hr, hj]; exact ib_some h4⟩
  have HJ := Aside0.mk (upto_some h4)
  have HJL : Aside0 (j ≤ q.length) := ⟨by have := HJ.out.1; omega⟩
  have HRJ := Aside0.mk hr
  have HJJ := Aside0.mk hj
  have hr0 : decide (r < 0) = false := decide_eq_false (by omega)
  have hr1 : decide (0 ≤ r) = true := decide_eq_true (by omega)
  clear hh hu hs hS hi0 hsz0 hq hq2 hil hm h2 h4 hr hj
  go_enter Try.func81, Try.ntmps81
  go_wp2_with (first | ((with_reducible refine gate_callee (f := 101) rfl ?_); refine goesL_ (some 12) rfl rfl Try.func101 (by kernel_rfl) rfl #[.slice (some ad) m d] rfl (by (try simp only [List.map_toArray, List.map_cons, List.map_nil]); first | done | rfl) ?_; refine (getScheme_some _ (some ad) m d u HU.out i HS.out).mono ?_; rintro e w1 ⟨⟨B1, m1, d1, rfl, hv1⟩, hb1⟩; refine ⟨_, rfl, ?_⟩; obtain ⟨B2, m2, d2, hr2, hv2⟩ := hv1.cutFrom Try.underlying49 HI.out HSZ.out 2 2 rfl (by rw [hv1.len]; exact H12.out); rw [HQ2.out] at hv2; obtain ⟨hr3, hv3⟩ := hv2.cutTo Try.underlying49 HI.out j r HRJ.out (by rw [hv2.len]; exact HJL.out); obtain ⟨B4, m4, d4, hr4, hv4⟩ := hv2.cutFrom Try.underlying49 HI.out HSZ.out j r HRJ.out (by rw [hv2.len]; exact HJL.out); have HV3 := Aside0.mk hv3; have HV4 := Aside0.mk hv4; clear hv3 hv4; have HV2 := Aside0.mk hv2; have HB1 := Aside0.mk (Below.refl w1.heap.size w1); clear hv1 hv2; have n0_ := Aside0.mk (below_step (by repeat (first | (with_reducible first | exact HB.out | apply below_alloc | apply pw_below_drewN | apply below_drew1) | exact HB.out)) hb1); clear HB; have HB := n0_; clear n0_; clear hb1) | ((with_reducible refine gate_callee (f := 94) rfl ?_); refine goesL_ (some 21) rfl rfl Try.func94 (by kernel_rfl) rfl #[] rfl (by (try simp only [List.map_toArray, List.map_cons, List.map_nil]); first | done | rfl) ?_; refine (strSlashSlash_calls _).mono ?_; rintro e w2 ⟨g2, c2, rfl, hc2, hb2, hg2, hb1⟩; refine ⟨_, rfl, ?_⟩; clear hc2 hb2 hg2; have n0_ := Aside0.mk (below_step (by repeat (first | (with_reducible first | exact HB.out | apply below_alloc | apply pw_below_drewN | apply below_drew1) | exact HB.out)) hb1); clear HB; have HB := n0_; clear n0_; have n0_ := Aside0.mk (below_step (by repeat (first | (with_reducible first | exact HB1.out | apply below_alloc | apply pw_below_drewN | apply below_drew1) | exact HB1.out)) hb1); clear HB1; have HB1 := n0_; clear n0_; clear hb1) | ((with_reducible refine gate_callee (f := 86) rfl ?_); refine goesL_ (some 25) rfl rfl Try.func86 (by kernel_rfl) rfl #[.slice B2 m2 d2, .int .u8 47] rfl (by (try simp only [List.map_toArray, List.map_cons, List.map_nil]); first | done | rfl) ?_; refine (ib_VW (HV2.out.below HB1.out) 47 47 rfl r HR.out).mono ?_; rintro e w3 ⟨rfl, hd⟩; refine ⟨_, rfl, ?_⟩; have hb1 := hd.below; clear hd; have n0_ := Aside0.mk (below_step (by repeat (first | (with_reducible first | exact HB.out | apply below_alloc | apply pw_below_drewN | apply below_drew1) | exact HB.out)) hb1); clear HB; have HB := n0_; clear n0_; have n0_ := Aside0.mk (below_step (by repeat (first | (with_reducible first | exact HB1.out | apply below_alloc | apply pw_below_drewN | apply below_drew1) | exact HB1.out)) hb1); clear HB1; have HB1 := n0_; clear n0_; clear hb1))
  go_quiet (fail)
  go_wp2
  go_ret3
  refine ⟨⟨_, _, _, _, _, _, _, _, _, rfl, HSC.out.below (by repeat (first | (with_reducible first | exact HB.out | apply below_alloc | apply pw_below_drewN | apply below_drew1) | exact HB.out)), ?_, ?_⟩, (by repeat (first | (with_reducible first | exact HB.out | apply below_alloc | apply pw_below_drewN | apply below_drew1) | exact HB.out))⟩
  · have h3 := HV3.out
    rw [HJJ.out, HJ.out.2.1] at h3
    rw [HJJ.out]
    exact h3.below (by repeat (first | (with_reducible first | exact HB1.out | apply below_alloc | apply pw_below_drewN | apply below_drew1) | exact HB1.out))
  · have h3 := HV4.out
    rw [HJJ.out, HJ.out.2.2.1] at h3
    exact h3.below (by repeat (first | (with_reducible first | exact HB1.out | apply below_alloc | apply pw_below_drewN | apply below_drew1) | exact HB1.out))
set_option maxHeartbeats 16000000 in
set_option maxRecDepth 100000 in
theorem split_query {S : Nat → Prop} (w : World) (A B : Option Addr) (n c m d i : Nat) (h u q : List UInt8) (hh : VW S w A n c h) (hu : VW S w B m d u) (hS : ∀ k, S k → k < w.heap.size) (hs : schEnd 0 u = some i) (hq : q = u.drop (i + 3)) (h2 : i + 3 ≤ u.length) (h4 : (47 : UInt8) ∉ q) (h6 : (63 : UInt8) ∈ q) :
    Calls Try.prog 81 #[.slice A n c, .slice B m d] w (ThreePost S w (u.take i) (upto 63 q) (q.dropWhile (· != 63))) := by
  have hil := schEnd_lt u 0 i hs
  have hm := hu.len
  obtain ⟨ad, rfl⟩ := hu.some (by omega)
  obtain ⟨i0, hi0, _, hsz0, _⟩ := info_parts info5
  have hnil := fun W : World => Lib.run_eql_slice_nil (P := Try.prog) W 49 5 (some ad) i d 0 0 Try.underlying49
  have hq2 : (u.drop (i + 1)).drop 2 = q := by rw [hq, List.drop_drop]
  have HH := Aside0.mk hh
  have HU := Aside0.mk hu
  have HSS := Aside0.mk hS
  have HS := Aside0.mk hs
  have HI := Aside0.mk hi0
  have HSZ := Aside0.mk hsz0
  have HQ2 := Aside0.mk hq2
  have HSC := Aside0.mk (hu.take i (by omega))
  have H12 : Aside0 (2 ≤ (u.drop (i + 1)).length) := ⟨by rw [List.length_drop]; omega⟩
  have HB := Aside0.mk (Below.refl w.heap.size w)
  obtain ⟨j, hj⟩ : ∃ j, j = (upto 63 q).length := ⟨_, rfl⟩
  obtain ⟨r, hr⟩ : ∃ r : Int, r = (j : Int) := ⟨_, rfl⟩
  have HR : Aside0 (Lib.indexByte q 63 = r) := ⟨by rw [hr, hj]; exact ib_some h6⟩
  have HJ := Aside0.mk (upto_some h6)
  have HJL : Aside0 (j ≤ q.length) := ⟨by have := HJ.out.1; omega⟩
  have HRJ := Aside0.mk hr
  have HJJ := Aside0.mk hj
  have hr0 : decide (r < 0) = false := decide_eq_false (by omega)
  have hr1 : decide (0 ≤ r) = true := decide_eq_true (by omega)
  have HN4 : Aside0 (Lib.indexByte q 47 = -1) := ⟨ib_none h4⟩
  clear hh hu hs hS hi0 hsz0 hq hq2 hil hm h2 h4 h6 hr hj
  go_enter Try.func81, Try.ntmps81
  go_wp2_with (first | ((with_reducible refine gate_callee (f := 101) rfl ?_); refine goesL_ (some 12) rfl rfl Try.func101 (by kernel_rfl) rfl #[.slice (some ad) m d] rfl (by (try simp only [List.map_toArray, List.map_cons, List.map_nil]); first | done | rfl) ?_; refine (getScheme_some _ (some ad) m d u HU.out i HS.out).mono ?_; rintro e w1 ⟨⟨B1, m1, d1, rfl, hv1⟩, hb1⟩; refine ⟨_, rfl, ?_⟩; obtain ⟨B2, m2, d2, hr2, hv2⟩ := hv1.cutFrom Try.underlying49 HI.out HSZ.out 2 2 rfl (by rw [hv1.len]; exact H12.out); rw [HQ2.out] at hv2; obtain ⟨hr3, hv3⟩ := hv2.cutTo Try.underlying49 HI.out j r HRJ.out (by rw [hv2.len]; exact HJL.out); obtain ⟨B4, m4, d4, hr4, hv4⟩ := hv2.cutFrom Try.underlying49 HI.out HSZ.out j r HRJ.out (by rw [hv2.len]; exact HJL.out); have HV3 := Aside0.mk hv3; have HV4 := Aside0.mk hv4; clear hv3 hv4; have HV2 := Aside0.mk hv2; have HB1 := Aside0.mk (Below.refl w1.heap.size w1); clear hv1 hv2; have n0_ := Aside0.mk (below_step (by repeat (first | (with_reducible first | exact HB.out | apply below_alloc | apply pw_below_drewN | apply below_drew1) | exact HB.out)) hb1); clear HB; have HB := n0_; clear n0_; clear hb1) | ((with_reducible refine gate_callee (f := 94) rfl ?_); refine goesL_ (some 21) rfl rfl Try.func94 (by kernel_rfl) rfl #[] rfl (by (try simp only [List.map_toArray, List.map_cons, List.map_nil]); first | done | rfl) ?_; refine (strSlashSlash_calls _).mono ?_; rintro e w2 ⟨g2, c2, rfl, hc2, hb2, hg2, hb1⟩; refine ⟨_, rfl, ?_⟩; clear hc2 hb2 hg2; have n0_ := Aside0.mk (below_step (by repeat (first | (with_reducible first | exact HB.out | apply below_alloc | apply pw_below_drewN | apply below_drew1) | exact HB.out)) hb1); clear HB; have HB := n0_; clear n0_; have n0_ := Aside0.mk (below_step (by repeat (first | (with_reducible first | exact HB1.out | apply below_alloc | apply pw_below_drewN | apply below_drew1) | exact HB1.out)) hb1); clear HB1; have HB1 := n0_; clear n0_; clear hb1) | ((with_reducible refine gate_callee (f := 86) rfl ?_); refine goesL_ (some 25) rfl rfl Try.func86 (by kernel_rfl) rfl #[.slice B2 m2 d2, .int .u8 47] rfl (by (try simp only [List.map_toArray, List.map_cons, List.map_nil]); first | done | rfl) ?_; refine (ib_VW (HV2.out.below HB1.out) 47 47 rfl (-1) HN4.out).mono ?_; rintro e w3 ⟨rfl, hd⟩; refine ⟨_, rfl, ?_⟩; have hb1 := hd.below; clear hd; have n0_ := Aside0.mk (below_step (by repeat (first | (with_reducible first | exact HB.out | apply below_alloc | apply pw_below_drewN | apply below_drew1) | exact HB.out)) hb1); clear HB; have HB := n0_; clear n0_; have n0_ := Aside0.mk (below_step (by repeat (first | (with_reducible first | exact HB1.out | apply below_alloc | apply pw_below_drewN | apply below_drew1) | exact HB1.out)) hb1); clear HB1; have HB1 := n0_; clear n0_; clear hb1) | ((with_reducible refine gate_callee (f := 86) rfl ?_); refine goesL_ (some 29) rfl rfl Try.func86 (by kernel_rfl) rfl #[.slice B2 m2 d2, .int .u8 63] rfl (by (try simp only [List.map_toArray, List.map_cons, List.map_nil]); first | done | rfl) ?_; refine (ib_VW (HV2.out.below HB1.out) 63 63 rfl r HR.out).mono ?_; rintro e w4 ⟨rfl, hd⟩; refine ⟨_, rfl, ?_⟩; have hb1 := hd.below; clear hd; have n0_ := Aside0.mk (below_step (by repeat (first | (with_reducible first | exact HB.out | apply below_alloc | apply pw_below_drewN | apply below_drew1) | exact HB.out)) hb1); clear HB; have HB := n0_; clear n0_; have n0_ := Aside0.mk (below_step (by repeat (first | (with_reducible first | exact HB1.out | apply below_alloc | apply pw_below_drewN | apply below_drew1) | exact HB1.out)) hb1); clear HB1; have HB1 := n0_; clear n0_; clear hb1))
  go_quiet (fail)
  go_wp2
  go_ret3
  refine ⟨⟨_, _, _, _, _, _, _, _, _, rfl, HSC.out.below (by repeat (first | (with_reducible first | exact HB.out | apply below_alloc | apply pw_below_drewN | apply below_drew1) | exact HB.out)), ?_, ?_⟩, (by repeat (first | (with_reducible first | exact HB.out | apply below_alloc | apply pw_below_drewN | apply below_drew1) | exact HB.out))⟩
  · have h3 := HV3.out
    rw [HJJ.out, HJ.out.2.1] at h3
    rw [HJJ.out]
    exact h3.below (by repeat (first | (with_reducible first | exact HB1.out | apply below_alloc | apply pw_below_drewN | apply below_drew1) | exact HB1.out))
  · have h3 := HV4.out
    rw [HJJ.out, HJ.out.2.2.1] at h3
    exact h3.below (by repeat (first | (with_reducible first | exact HB1.out | apply below_alloc | apply pw_below_drewN | apply below_drew1) | exact HB1.out))
set_option maxHeartbeats 16000000 in
set_option maxRecDepth 100000 in
theorem split_bare {S : Nat → Prop} (w : World) (A B : Option Addr) (n c m d i : Nat) (h u q : List UInt8) (hh : VW S w A n c h) (hu : VW S w B m d u) (hS : ∀ k, S k → k < w.heap.size) (hs : schEnd 0 u = some i) (hq : q = u.drop (i + 3)) (h2 : i + 3 ≤ u.length) (h4 : (47 : UInt8) ∉ q) (h6 : (63 : UInt8) ∉ q) :
    Calls Try.prog 81 #[.slice A n c, .slice B m d] w (ThreePost S w (u.take i) q [47]) := by
  have hil := schEnd_lt u 0 i hs
  have hm := hu.len
  obtain ⟨ad, rfl⟩ := hu.some (by omega)
  obtain ⟨i0, hi0, _, hsz0, _⟩ := info_parts info5
  have hnil := fun W : World => Lib.run_eql_slice_nil (P := Try.prog) W 49 5 (some ad) i d 0 0 Try.underlying49
  have hq2 : (u.drop (i + 1)).drop 2 = q := by rw [hq, List.drop_drop]
  have HH := Aside0.mk hh
  have HU := Aside0.mk hu
  have HSS := Aside0.mk hS
  have HS := Aside0.mk hs
  have HI := Aside0.mk hi0
  have HSZ := Aside0.mk hsz0
  have HQ2 := Aside0.mk hq2
  have HSC := Aside0.mk (hu.take i (by omega))
  have H12 : Aside0 (2 ≤ (u.drop (i + 1)).length) := ⟨by rw [List.length_drop]; omega⟩
  have HB := Aside0.mk (Below.refl w.heap.size w)
  have HN4 : Aside0 (Lib.indexByte q 47 = -1) := ⟨ib_none h4⟩
  have HN6 : Aside0 (Lib.indexByte q 63 = -1) := ⟨ib_none h6⟩
  clear hh hu hs hS hi0 hsz0 hq hq2 hil hm h2 h4 h6
  go_enter Try.func81, Try.ntmps81
  go_wp2_with (first | ((with_reducible refine gate_callee (f := 101) rfl ?_); refine goesL_ (some 12) rfl rfl Try.func101 (by kernel_rfl) rfl #[.slice (some ad) m d] rfl (by (try simp only [List.map_toArray, List.map_cons, List.map_nil]); first | done | rfl) ?_; refine (getScheme_some _ (some ad) m d u HU.out i HS.out).mono ?_; rintro e w1 ⟨⟨B1, m1, d1, rfl, hv1⟩, hb1⟩; refine ⟨_, rfl, ?_⟩; obtain ⟨B2, m2, d2, hr2, hv2⟩ := hv1.cutFrom Try.underlying49 HI.out HSZ.out 2 2 rfl (by rw [hv1.len]; exact H12.out); rw [HQ2.out] at hv2; have HV2 := Aside0.mk hv2; have HB1 := Aside0.mk (Below.refl w1.heap.size w1); clear hv1 hv2; have n0_ := Aside0.mk (below_step (by repeat (first | (with_reducible first | exact HB.out | apply below_alloc | apply pw_below_drewN | apply below_drew1) | exact HB.out)) hb1); clear HB; have HB := n0_; clear n0_; clear hb1) | ((with_reducible refine gate_callee (f := 94) rfl ?_); refine goesL_ (some 21) rfl rfl Try.func94 (by kernel_rfl) rfl #[] rfl (by (try simp only [List.map_toArray, List.map_cons, List.map_nil]); first | done | rfl) ?_; refine (strSlashSlash_calls _).mono ?_; rintro e w2 ⟨g2, c2, rfl, hc2, hb2, hg2, hb1⟩; refine ⟨_, rfl, ?_⟩; clear hc2 hb2 hg2; have n0_ := Aside0.mk (below_step (by repeat (first | (with_reducible first | exact HB.out | apply below_alloc | apply pw_below_drewN | apply below_drew1) | exact HB.out)) hb1); clear HB; have HB := n0_; clear n0_; have n0_ := Aside0.mk (below_step (by repeat (first | (with_reducible first | exact HB1.out | apply below_alloc | apply pw_below_drewN | apply below_drew1) | exact HB1.out)) hb1); clear HB1; have HB1 := n0_; clear n0_; clear hb1) | ((with_reducible refine gate_callee (f := 86) rfl ?_); refine goesL_ (some 25) rfl rfl Try.func86 (by kernel_rfl) rfl #[.slice B2 m2 d2, .int .u8 47] rfl (by (try simp only [List.map_toArray, List.map_cons, List.map_nil]); first | done | rfl) ?_; refine (ib_VW (HV2.out.below HB1.out) 47 47 rfl (-1) HN4.out).mono ?_; rintro e w3 ⟨rfl, hd⟩; refine ⟨_, rfl, ?_⟩; have hb1 := hd.below; clear hd; have n0_ := Aside0.mk (below_step (by repeat (first | (with_reducible first | exact HB.out | apply below_alloc | apply pw_below_drewN | apply below_drew1) | exact HB.out)) hb1); clear HB; have HB := n0_; clear n0_; have n0_ := Aside0.mk (below_step (by repeat (first | (with_reducible first | exact HB1.out | apply below_alloc | apply pw_below_drewN | apply below_drew1) | exact HB1.out)) hb1); clear HB1; have HB1 := n0_; clear n0_; clear hb1) | ((with_reducible refine gate_callee (f := 86) rfl ?_); refine goesL_ (some 29) rfl rfl Try.func86 (by kernel_rfl) rfl #[.slice B2 m2 d2, .int .u8 63] rfl (by (try simp only [List.map_toArray, List.map_cons, List.map_nil]); first | done | rfl) ?_; refine (ib_VW (HV2.out.below HB1.out) 63 63 rfl (-1) HN6.out).mono ?_; rintro e w4 ⟨rfl, hd⟩; refine ⟨_, rfl, ?_⟩; have hb1 := hd.below; clear hd; have n0_ := Aside0.mk (below_step (by repeat (first | (with_reducible first | exact HB.out | apply below_alloc | apply pw_below_drewN | apply below_drew1) | exact HB.out)) hb1); clear HB; have HB := n0_; clear n0_; have n0_ := Aside0.mk (below_step (by repeat (first | (with_reducible first | exact HB1.out | apply below_alloc | apply pw_below_drewN | apply below_drew1) | exact HB1.out)) hb1); clear HB1; have HB1 := n0_; clear n0_; clear hb1) | ((with_reducible refine gate_callee (f := 88) rfl ?_); refine goesL_ (some 41) rfl rfl Try.func88 (by kernel_rfl) rfl #[] rfl (by (try simp only [List.map_toArray, List.map_cons, List.map_nil]); first | done | rfl) ?_; refine (strSlash_calls _).mono ?_; rintro e w5 ⟨g5, c5, rfl, hc5, hb5, hg5, hb1⟩; refine ⟨_, rfl, ?_⟩; have HR5 := Aside0.mk (VW.of_BR (S := S) hb5 (fun e => by have := HSS.out g5 e; have := HB.out.size; omega) hc5 (by decide)); clear hc5 hb5 hg5; have n0_ := Aside0.mk (below_step (by repeat (first | (with_reducible first | exact HB.out | apply below_alloc | apply pw_below_drewN | apply below_drew1) | exact HB.out)) hb1); clear HB; have HB := n0_; clear n0_; have n0_ := Aside0.mk (below_step (by repeat (first | (with_reducible first | exact HB1.out | apply below_alloc | apply pw_below_drewN | apply below_drew1) | exact HB1.out)) hb1); clear HB1; have HB1 := n0_; clear n0_; clear hb1))
  go_ret3
  exact ⟨⟨_, _, _, _, _, _, _, _, _, rfl, HSC.out.below HB.out, HV2.out.below HB1.out, HR5.out⟩, HB.out⟩
end Go.Proofs.Ytbkeakeldegkeaa.Q
end
