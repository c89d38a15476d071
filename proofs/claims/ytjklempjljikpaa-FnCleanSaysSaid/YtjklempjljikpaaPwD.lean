/- What hertzproto.normalizePath leaves: the path cleaned, in a row of the call's own. Printed by wip/tools/genPwD.py. -/
import Derived.Test.YtjklempjljikpaaQ1
import Derived.Test.YtjklempjljikpaaPwC
namespace Go.Proofs.Ytjklempjljikpaa.Q
open Go.RowKit Go.Proofs.YtjklempjljikpaaW.PrintWords Go.Proofs.YtjklempjljikpaaW.PrintLast Go.Proofs.YtjklempjljikpaaW.PrintMore
set_option linter.unusedVariables false
set_option linter.unusedSimpArgs false
open Go.Proofs.Ytjklempjljikpaa.SpA (toI toI_length toI_append ix)
open Go.Proofs.Ytjklempjljikpaa.Cl (cleanK Free)
set_option maxHeartbeats 16000000 in
set_option maxRecDepth 100000 in
theorem norm_calls (k : Nat) (A1 : Option Addr) (c1 : Nat) (s a0 l0 : List UInt8) (w : World) (hsrc : Kd.C (Kd.int .u8) w A1 (toI s).length (toI s)) (hc1 : (toI s).length ≤ c1) (hA : hertzproto_addLeadingSlash.f [] (toI s) = some (toI a0)) (hD : hertzproto_decodeArgAppendNoPlus.f k (toI a0) (toI s) = some (toI l0)) (hs : ∃ t, l0 = 47 :: t) (hl : l0.length ≤ 4611686018427387) :
    Calls Try.prog 49 #[.slice none 0 0, .slice A1 (toI s).length c1] w fun e w' => ∃ g c, e = .returned (.slice (some ⟨g, 0, none⟩) (cleanK l0).length c) ∧ BR w' g 5 (cleanK l0) ∧ Below w.heap.size w w' := by
  obtain ⟨i0, hi0, _, hsz0, _⟩ := info_parts info5
  have HI := Aside0.mk hi0
  have HSZ := Aside0.mk hsz0
  have HSRC := Aside0.mk hsrc
  have HC1 := Aside0.mk hc1
  have HA := Aside0.mk hA
  have HD := Aside0.mk hD
  have HS0 := Aside0.mk hs
  have HL := Aside0.mk hl
  have HNE : Aside0 (l0 ≠ []) := ⟨by obtain ⟨t, rfl⟩ := hs; simp⟩
  have HB := Aside0.mk (Below.refl w.heap.size w)
  clear hsrc hc1 hA hD hs hl hi0 hsz0
  go_enter Try.func49, Try.ntmps49
  go_wp2_with (first | ((with_reducible refine gate_callee (f := 57) rfl ?_); refine goesL_ (some 18) rfl rfl Try.func57 (by kernel_rfl) rfl #[.slice none 0 0, .slice A1 (toI s).length c1] rfl (by (try simp only [List.map_toArray, List.map_cons, List.map_nil]); first | done | rfl) ?_; (refine (hertzproto_addLeadingSlash.calls (fun _ => False) (.slice none 0 0) ([] : List Int) A1 c1 (toI s) (toI a0) w _ HB.out (Kd.R_nil _ _ _ _ _) (Kd.C_kept_came (Kd.heap_int _) HSRC.out HB.out (fun _ h => h.elim)) HC1.out HA.out).mono ?_); rintro e w6 ⟨v6, rfl, ho, hb, _⟩; refine ⟨_, rfl, ?_⟩; have HO := Aside0.mk (Kd.R_mono (ok' := fun k_ => w.heap.size ≤ k_) ho (fun k_ hk_ => hk_.elim (fun h => h.elim) id)); clear HB; have HB := Aside0.mk hb; clear hb ho) | ((with_reducible refine gate_callee (f := 58) rfl ?_); refine goesL_ (some 21) rfl rfl Try.func58 (by kernel_rfl) rfl #[v6, .slice A1 (toI s).length c1] rfl (by (try simp only [List.map_toArray, List.map_cons, List.map_nil]); first | done | rfl) ?_; (refine (hertzproto_decodeArgAppendNoPlus.calls k (fun k_ => w.heap.size ≤ k_) v6 (toI a0) A1 c1 (toI s) (toI l0) w _ HB.out HO.out (Kd.C_kept_came (Kd.heap_int _) HSRC.out HB.out (fun _ h => h)) HC1.out HD.out).mono ?_); rintro e w7 ⟨v7, rfl, ho, hb, _⟩; refine ⟨_, rfl, ?_⟩; clear HO HB; obtain ⟨g, c, rfl, hg, hc, hcm, hbr⟩ := BR.of_R ho HNE.out; have HG := Aside0.mk hg; have HC := Aside0.mk hc; have HR := Aside0.mk hbr; have HB := Aside0.mk hb; clear ho hb hg hc hcm hbr))
  go_loopw [5, 6] (fun s5 s6 wr => ∃ (p q : List UInt8) (c5 : Nat), s5 = .slice (some ⟨g, p.length, none⟩) q.length c5 ∧ s6 = .int .i64 ((p.length + q.length : Nat) : Int) ∧ Aside0 (BR wr g 5 (p ++ q)) ∧ Aside0 (q.length ≤ c5) ∧ Aside0 (∀ a' b', p ++ q = a' ++ [47, 47] ++ b' → p.length ≤ a'.length) ∧ Aside0 (cleanK (p ++ q) = cleanK l0) ∧ Aside0 (∃ t, p ++ q = 47 :: t) ∧ Aside0 ((p ++ q).length ≤ l0.length) ∧ Aside0 (Below w.heap.size w wr)) (fun _ s6 _ => (intOf s6).toNat)
  case atStart => exact ⟨[], l0, c, rfl, by simp, ⟨HR.out.heap rfl⟩, HC, ⟨fun _ _ _ => Nat.zero_le _⟩, ⟨rfl⟩, HS0, ⟨Nat.le_refl _⟩, ⟨(by repeat (first | (with_reducible first | exact HB.out | apply below_alloc | apply pw_below_drewN | apply below_drew1) | exact HB.out))⟩⟩
  case round =>
    have HC0 := HC
    clear HR HB HC HSRC HC1 HA HD
    obtain ⟨p, q, c5, rfl, rfl, HR, HC, HINV, HCL, HSL, HLEN, HB⟩ := hrel
    obtain ⟨r1, hr1⟩ : ∃ r1, ix [47, 47] q 0 = r1 := ⟨_, rfl⟩
    have HR1 := Aside0.mk hr1
    obtain ⟨z6, hz6⟩ : ∃ z6 : Int, z6 = ((p.length + q.length : Nat) : Int) := ⟨_, rfl⟩
    rw [← hz6]
    have HZ6 := Aside0.mk hz6
    clear hz6
    have HPL : Aside0 ((p ++ q).length ≤ 4611686018427387) := ⟨Nat.le_trans HLEN.out HL.out⟩
    rcases SpA.ix_cases [47, 47] (by decide) q with ⟨hix, hno⟩ | ⟨a, b, hq, hix, hmin⟩
    · have b1 : decide (r1 < 0) = true := decide_eq_true (by omega)
      have HF := Aside0.mk (SpA.dup_none p q hno HINV.out)
      obtain ⟨L1, hL1⟩ : ∃ L1, L1 = p ++ q := ⟨_, rfl⟩
      have HCUT := cutTo (P := Try.prog) Try.underlying48 HI.out (some ⟨g, 0, none⟩) l0.length c L1.length z6 (by rw [HZ6.out, hL1]; simp) (by rw [hL1]; exact HLEN.out) HC0.out
      have HL1 := Aside0.mk hL1
      clear hix hno hr1 hL1
      go_wp2_with (first | ((with_reducible refine gate_callee (f := 60) rfl ?_); refine goesL_ (some 26) rfl rfl Try.func60 (by kernel_rfl) rfl #[] rfl (by (try simp only [List.map_toArray, List.map_cons, List.map_nil]); first | done | rfl) ?_; refine (strSS_calls _).mono ?_; rintro e wq ⟨gSS, cSS, rfl, hcSS, hbS, hbel⟩; refine ⟨_, rfl, ?_⟩; have HSS := Aside0.mk hbS; have n0_ := Aside0.mk (BR.below2 HR.out hbel rfl); have n1_ := Aside0.mk (below_step (by repeat (first | (with_reducible first | exact HB.out | apply below_alloc | apply pw_below_drewN | apply below_drew1) | exact HB.out)) hbel); clear HR HB; have HR := n0_; have HB := n1_; clear n0_ n1_ hbS hbel) | ((with_reducible refine gate_callee (f := 59) rfl ?_); refine goesL_ (some 27) rfl rfl Try.func59 (by kernel_rfl) rfl #[.slice (some ⟨g, p.length, none⟩) q.length c5, .slice (some ⟨gSS, 0, none⟩) 2 cSS] rfl (by (try simp only [List.map_toArray, List.map_cons, List.map_nil]); first | done | rfl) ?_; refine (zz_calls (p := p) (q := q) (sub := [47, 47]) r1 HR1.out (HR.out.heap rfl) HC.out (HSS.out.heap rfl) hcSS (by decide) HPL.out (by decide)).mono ?_; rintro e wq ⟨rfl, ⟨nd, rfl⟩⟩; refine ⟨_, rfl, ?_⟩))
      rw [← HL1.out] at HR HF HCL HSL HLEN HPL
      have HC : Aside0 (L1.length ≤ c) := ⟨Nat.le_trans HLEN.out HC0.out⟩
      clear HCUT HL1 HINV HR1 HZ6 HSS hcSS
      go_loopw [5] (fun s5 wr => ∃ (L : List UInt8) (c5 : Nat), s5 = .slice (some ⟨g, 0, none⟩) L.length c5 ∧ Aside0 (BR wr g 5 L) ∧ Aside0 (L.length ≤ c5) ∧ Aside0 (∀ a b, L ≠ a ++ 47 :: 47 :: b) ∧ Aside0 (cleanK L = cleanK l0) ∧ Aside0 (∃ t, L = 47 :: t) ∧ Aside0 (L.length ≤ l0.length) ∧ Aside0 (Below w.heap.size w wr)) (fun s5 _ => lenV s5)
      case atStart => exact ⟨L1, c, rfl, ⟨HR.out.heap rfl⟩, HC, HF, HCL, HSL, HLEN, ⟨(by repeat (first | (with_reducible first | exact HB.out | apply below_alloc | apply pw_below_drewN | apply below_drew1) | exact HB.out))⟩⟩
      case round =>
        clear HR HB HC HF HCL HSL HLEN HPL
        obtain ⟨L, c5, rfl, HR, HC, HF, HCL, HSL, HLEN, HB⟩ := hrel
        obtain ⟨r2, hr2⟩ : ∃ r2, ix [47, 46, 47] L 0 = r2 := ⟨_, rfl⟩
        have HR2 := Aside0.mk hr2
        have HPL : Aside0 (L.length ≤ 4611686018427387) := ⟨Nat.le_trans HLEN.out HL.out⟩
        rcases SpA.ix_cases [47, 46, 47] (by decide) L with ⟨hix, hno⟩ | ⟨a, b, hq, hix, hmin⟩
        · have b2 : decide (r2 < 0) = true := decide_eq_true (by omega)
          have HF2 : Aside0 (∀ a b, L ≠ a ++ 47 :: 46 :: 47 :: b) := ⟨fun a b e => hno a b (by rw [e]; simp)⟩
          clear hix hno hr2
          go_wp2_with (first | ((with_reducible refine gate_callee (f := 61) rfl ?_); refine goesL_ (some 49) rfl rfl Try.func61 (by kernel_rfl) rfl #[] rfl (by (try simp only [List.map_toArray, List.map_cons, List.map_nil]); first | done | rfl) ?_; refine (strSDS_calls _).mono ?_; rintro e wq ⟨gST, cST, rfl, hcST, hbS, hbel⟩; refine ⟨_, rfl, ?_⟩; have HST := Aside0.mk hbS; have n0_ := Aside0.mk (BR.below2 HR.out hbel rfl); have n1_ := Aside0.mk (below_step (by repeat (first | (with_reducible first | exact HB.out | apply below_alloc | apply pw_below_drewN | apply below_drew1) | exact HB.out)) hbel); clear HR HB; have HR := n0_; have HB := n1_; clear n0_ n1_ hbS hbel) | ((with_reducible refine gate_callee (f := 59) rfl ?_); refine goesL_ (some 50) rfl rfl Try.func59 (by kernel_rfl) rfl #[.slice (some ⟨g, 0, none⟩) L.length c5, .slice (some ⟨gST, 0, none⟩) 3 cST] rfl (by (try simp only [List.map_toArray, List.map_cons, List.map_nil]); first | done | rfl) ?_; refine (zz0_calls (q := L) (sub := [47, 46, 47]) r2 HR2.out (HR.out.heap rfl) HC.out (HST.out.heap rfl) hcST (by decide) HPL.out (by decide)).mono ?_; rintro e wq ⟨rfl, ⟨nd, rfl⟩⟩; refine ⟨_, rfl, ?_⟩))
          clear HR2 HST hcST
          go_loopw [5] (fun s5 wr => ∃ (L : List UInt8) (c5 : Nat), s5 = .slice (some ⟨g, 0, none⟩) L.length c5 ∧ Aside0 (BR wr g 5 L) ∧ Aside0 (L.length ≤ c5) ∧ Aside0 (∀ a b, L ≠ a ++ 47 :: 47 :: b) ∧ Aside0 (∀ a b, L ≠ a ++ 47 :: 46 :: 47 :: b) ∧ Aside0 (cleanK L = cleanK l0) ∧ Aside0 (∃ t, L = 47 :: t) ∧ Aside0 (L.length ≤ l0.length) ∧ Aside0 (Below w.heap.size w wr)) (fun s5 _ => lenV s5)
          case atStart => exact ⟨L, c5, rfl, ⟨HR.out.heap rfl⟩, HC, HF, HF2, HCL, HSL, HLEN, ⟨(by repeat (first | (with_reducible first | exact HB.out | apply below_alloc | apply pw_below_drewN | apply below_drew1) | exact HB.out))⟩⟩
          case round =>
            clear HR HB HC HF HF2 HCL HSL HLEN HPL
            obtain ⟨L, c5, rfl, HR, HC, HF, HF2, HCL, HSL, HLEN, HB⟩ := hrel
            obtain ⟨r3, hr3⟩ : ∃ r3, ix [47, 46, 46, 47] L 0 = r3 := ⟨_, rfl⟩
            have HR3 := Aside0.mk hr3
            have HPL : Aside0 (L.length ≤ 4611686018427387) := ⟨Nat.le_trans HLEN.out HL.out⟩
            rcases SpA.ix_cases [47, 46, 46, 47] (by decide) L with ⟨hix, hno⟩ | ⟨a, b, hq, hix, hmin⟩
            · have b3 : decide (r3 < 0) = true := decide_eq_true (by omega)
              have HF3 : Aside0 (Free L) := ⟨⟨HF.out, HF2.out, fun a b e => hno a b (by rw [e]; simp)⟩⟩
              clear hix hno hr3
              obtain ⟨r5, hev5, hsuf, hnsuf, hb5⟩ := SpA.lastIdx L HPL.out
              have HEV5 := Aside0.mk hev5
              by_cases hx : ∃ x, L = x ++ [47, 46, 46]
              · obtain ⟨x, hx⟩ := hx
                have HX := Aside0.mk hx
                have hr5 := hsuf x hx
                have hxl : L.length = x.length + 3 := by rw [hx]; simp
                have hcq := HC.out
                have hpl := HPL.out
                have HPC : Aside0 (x.length ≤ c5) := ⟨by omega⟩
                have HPB : Aside0 (x.length ≤ 4611686018427387) := ⟨by omega⟩
                have b5 : decide (r5 ≥ 0) = true := decide_eq_true (by omega)
                have b5' : decide (0 ≤ r5) = true := decide_eq_true (by omega)
                have b6 : (wrap64 (r5 + 3) == (L.length : Int)) = true := beq_iff_eq.2 (by unfold wrap64; omega)
                have b7 : wrap64 (r5 + 3) = (L.length : Int) := beq_iff_eq.1 b6
                have HCUT5 := cutTo (P := Try.prog) Try.underlying48 HI.out (some ⟨g, 0, none⟩) L.length c5 x.length r5 hr5 (by omega) hcq
                rcases SpA.lastIB x 47 (by omega) with ⟨p', y, ha, hy, hev⟩ | ⟨ha, hev⟩
                · have hal : x.length = p'.length + (y.length + 1) := by rw [ha]; simp
                  obtain ⟨r6, hr6⟩ : ∃ r6 : Int, r6 = (p'.length : Int) := ⟨_, rfl⟩
                  rw [← hr6] at hev
                  have HEV6 := Aside0.mk hev
                  have b8 : decide (r6 < 0) = false := decide_eq_false (by omega)
                  obtain ⟨n7, hn7⟩ : ∃ n7, n7 = p'.length + 1 := ⟨_, rfl⟩
                  obtain ⟨x7, hx7⟩ : ∃ x7 : Int, x7 = (n7 : Int) := ⟨_, rfl⟩
                  have hw7 : wrap64 (r6 + 1) = x7 := by unfold wrap64; omega
                  have HCUT6 := cutTo (P := Try.prog) Try.underlying48 HI.out (some ⟨g, 0, none⟩) L.length c5 n7 x7 hx7 (by omega) hcq
                  have hrow : L = p' ++ 47 :: y ++ [47, 46, 46] := by rw [hx, ha]
                  have HCLN : Aside0 (cleanK l0 = p' ++ [47]) := ⟨by
                    rw [← HCL.out, hrow]
                    refine Cl.clean_end p' y (by rw [← hrow]; exact HF3.out) hy ?_
                    obtain ⟨t, ht⟩ := HSL.out
                    cases p' with
                    | nil => exact .inl rfl
                    | cons z p' => rw [hrow] at ht; exact .inr ⟨p', by rw [(List.cons.inj ht).1]⟩⟩
                  have HN7 : Aside0 (n7 = (cleanK l0).length) := ⟨by rw [HCLN.out]; simp; exact hn7⟩
                  have HROW : Aside0 (L = cleanK l0 ++ (y ++ [47, 46, 46])) := ⟨by rw [HCLN.out, hrow]; simp⟩
                  clear hev5 hsuf hnsuf hb5 hx hr5 hxl hcq hpl ha hy hev hal hr6 hn7 hx7 hrow
                  go_wp2_with (first | ((with_reducible refine gate_callee (f := 62) rfl ?_); refine goesL_ (some 74) rfl rfl Try.func62 (by kernel_rfl) rfl #[] rfl (by (try simp only [List.map_toArray, List.map_cons, List.map_nil]); first | done | rfl) ?_; refine (strSDDS_calls _).mono ?_; rintro e wq ⟨gSV, cSV, rfl, hcSV, hbS, hbel⟩; refine ⟨_, rfl, ?_⟩; have HSV := Aside0.mk hbS; have n0_ := Aside0.mk (BR.below2 HR.out hbel rfl); have n1_ := Aside0.mk (below_step (by repeat (first | (with_reducible first | exact HB.out | apply below_alloc | apply pw_below_drewN | apply below_drew1) | exact HB.out)) hbel); clear HR HB; have HR := n0_; have HB := n1_; clear n0_ n1_ hbS hbel) | ((with_reducible refine gate_callee (f := 59) rfl ?_); refine goesL_ (some 75) rfl rfl Try.func59 (by kernel_rfl) rfl #[.slice (some ⟨g, 0, none⟩) L.length c5, .slice (some ⟨gSV, 0, none⟩) 4 cSV] rfl (by (try simp only [List.map_toArray, List.map_cons, List.map_nil]); first | done | rfl) ?_; refine (zz0_calls (q := L) (sub := [47, 46, 46, 47]) r3 HR3.out (HR.out.heap rfl) HC.out (HSV.out.heap rfl) hcSV (by decide) HPL.out (by decide)).mono ?_; rintro e wq ⟨rfl, ⟨nd, rfl⟩⟩; refine ⟨_, rfl, ?_⟩) | ((with_reducible refine gate_callee (f := 65) rfl ?_); refine goesL_ (some 105) rfl rfl Try.func65 (by kernel_rfl) rfl #[] rfl (by (try simp only [List.map_toArray, List.map_cons, List.map_nil]); first | done | rfl) ?_; refine (strSDD_calls _).mono ?_; rintro e wq ⟨gSY, cSY, rfl, hcSY, hbS, hbel⟩; refine ⟨_, rfl, ?_⟩; have HSY := Aside0.mk hbS; have n0_ := Aside0.mk (BR.below2 HR.out hbel rfl); have n1_ := Aside0.mk (below_step (by repeat (first | (with_reducible first | exact HB.out | apply below_alloc | apply pw_below_drewN | apply below_drew1) | exact HB.out)) hbel); clear HR HB; have HR := n0_; have HB := n1_; clear n0_ n1_ hbS hbel) | ((with_reducible refine gate_callee (f := 64) rfl ?_); refine goesL_ (some 106) rfl rfl Try.func64 (by kernel_rfl) rfl #[.slice (some ⟨g, 0, none⟩) L.length c5, .slice (some ⟨gSY, 0, none⟩) 3 cSY] rfl (by (try simp only [List.map_toArray, List.map_cons, List.map_nil]); first | done | rfl) ?_; refine (lix_calls (p := L) r5 HEV5.out (HR.out.heap rfl) HC.out (HSY.out.heap rfl) hcSY HPL.out).mono ?_; rintro e wq ⟨rfl, ⟨nd, rfl⟩⟩; refine ⟨_, rfl, ?_⟩) | ((with_reducible refine gate_callee (f := 65) rfl ?_); (refine gate_guard (by kernel_rfl) ?_); refine goesL_ (some 111) rfl rfl Try.func65 (by kernel_rfl) rfl #[] rfl (by (try simp only [List.map_toArray, List.map_cons, List.map_nil]); first | done | rfl) ?_; refine (strSDD_calls _).mono ?_; rintro e wq ⟨gSZ, cSZ, rfl, hcSZ, hbS, hbel⟩; refine ⟨_, rfl, ?_⟩; have HSZ := Aside0.mk hbS; have n0_ := Aside0.mk (BR.below2 HR.out hbel rfl); have n1_ := Aside0.mk (below_step (by repeat (first | (with_reducible first | exact HB.out | apply below_alloc | apply pw_below_drewN | apply below_drew1) | exact HB.out)) hbel); clear HR HB; have HR := n0_; have HB := n1_; clear n0_ n1_ hbS hbel) | ((with_reducible refine gate_callee (f := 63) rfl ?_); refine goesL_ (some 121) rfl rfl Try.func63 (by kernel_rfl) rfl #[.slice (some ⟨g, 0, none⟩) x.length c5, .int .u8 47] rfl (by (try simp only [List.map_toArray, List.map_cons, List.map_nil]); first | done | rfl) ?_; refine (lib_calls (p := x) r6 HEV6.out (BR.pre (q := [47, 46, 46]) (by rw [← HX.out]; exact HR.out.heap rfl)) HPC.out HPB.out).mono ?_; rintro e wq ⟨rfl, ⟨nd, rfl⟩⟩; refine ⟨_, rfl, ?_⟩))
                  go_ret
                  exact ⟨g, c5, congrArg Ending.returned (congrArg (fun n => Value.slice (some ⟨g, 0, none⟩) n c5) HN7.out), BR.pre (q := y ++ [47, 46, 46]) (by rw [← HROW.out]; exact HR.out.heap rfl), (by repeat (first | (with_reducible first | exact HB.out | apply below_alloc | apply pw_below_drewN | apply below_drew1) | exact HB.out))⟩
                · obtain ⟨t0, ht0⟩ := HSL.out
                  have ha0 : x = [] := no_slash_first x t0 L [47, 46, 46] hx ht0 ha
                  obtain ⟨r6, hr6⟩ : ∃ r6 : Int, r6 = -1 := ⟨_, rfl⟩
                  rw [← hr6] at hev
                  have HEV6 := Aside0.mk hev
                  have b8 : decide (r6 < 0) = true := decide_eq_true (by omega)
                  have HCLN : Aside0 (cleanK l0 = [47]) := ⟨by rw [← HCL.out, hx, ha0]; exact Cl.clean_end0⟩
                  clear hev5 hsuf hnsuf hb5 hx hr5 hxl hcq hpl ha hev hr6 ht0 ha0
                  go_wp2_with (first | ((with_reducible refine gate_callee (f := 62) rfl ?_); refine goesL_ (some 74) rfl rfl Try.func62 (by kernel_rfl) rfl #[] rfl (by (try simp only [List.map_toArray, List.map_cons, List.map_nil]); first | done | rfl) ?_; refine (strSDDS_calls _).mono ?_; rintro e wq ⟨gSV, cSV, rfl, hcSV, hbS, hbel⟩; refine ⟨_, rfl, ?_⟩; have HSV := Aside0.mk hbS; have n0_ := Aside0.mk (BR.below2 HR.out hbel rfl); have n1_ := Aside0.mk (below_step (by repeat (first | (with_reducible first | exact HB.out | apply below_alloc | apply pw_below_drewN | apply below_drew1) | exact HB.out)) hbel); clear HR HB; have HR := n0_; have HB := n1_; clear n0_ n1_ hbS hbel) | ((with_reducible refine gate_callee (f := 59) rfl ?_); refine goesL_ (some 75) rfl rfl Try.func59 (by kernel_rfl) rfl #[.slice (some ⟨g, 0, none⟩) L.length c5, .slice (some ⟨gSV, 0, none⟩) 4 cSV] rfl (by (try simp only [List.map_toArray, List.map_cons, List.map_nil]); first | done | rfl) ?_; refine (zz0_calls (q := L) (sub := [47, 46, 46, 47]) r3 HR3.out (HR.out.heap rfl) HC.out (HSV.out.heap rfl) hcSV (by decide) HPL.out (by decide)).mono ?_; rintro e wq ⟨rfl, ⟨nd, rfl⟩⟩; refine ⟨_, rfl, ?_⟩) | ((with_reducible refine gate_callee (f := 65) rfl ?_); refine goesL_ (some 105) rfl rfl Try.func65 (by kernel_rfl) rfl #[] rfl (by (try simp only [List.map_toArray, List.map_cons, List.map_nil]); first | done | rfl) ?_; refine (strSDD_calls _).mono ?_; rintro e wq ⟨gSY, cSY, rfl, hcSY, hbS, hbel⟩; refine ⟨_, rfl, ?_⟩; have HSY := Aside0.mk hbS; have n0_ := Aside0.mk (BR.below2 HR.out hbel rfl); have n1_ := Aside0.mk (below_step (by repeat (first | (with_reducible first | exact HB.out | apply below_alloc | apply pw_below_drewN | apply below_drew1) | exact HB.out)) hbel); clear HR HB; have HR := n0_; have HB := n1_; clear n0_ n1_ hbS hbel) | ((with_reducible refine gate_callee (f := 64) rfl ?_); refine goesL_ (some 106) rfl rfl Try.func64 (by kernel_rfl) rfl #[.slice (some ⟨g, 0, none⟩) L.length c5, .slice (some ⟨gSY, 0, none⟩) 3 cSY] rfl (by (try simp only [List.map_toArray, List.map_cons, List.map_nil]); first | done | rfl) ?_; refine (lix_calls (p := L) r5 HEV5.out (HR.out.heap rfl) HC.out (HSY.out.heap rfl) hcSY HPL.out).mono ?_; rintro e wq ⟨rfl, ⟨nd, rfl⟩⟩; refine ⟨_, rfl, ?_⟩) | ((with_reducible refine gate_callee (f := 65) rfl ?_); (refine gate_guard (by kernel_rfl) ?_); refine goesL_ (some 111) rfl rfl Try.func65 (by kernel_rfl) rfl #[] rfl (by (try simp only [List.map_toArray, List.map_cons, List.map_nil]); first | done | rfl) ?_; refine (strSDD_calls _).mono ?_; rintro e wq ⟨gSZ, cSZ, rfl, hcSZ, hbS, hbel⟩; refine ⟨_, rfl, ?_⟩; have HSZ := Aside0.mk hbS; have n0_ := Aside0.mk (BR.below2 HR.out hbel rfl); have n1_ := Aside0.mk (below_step (by repeat (first | (with_reducible first | exact HB.out | apply below_alloc | apply pw_below_drewN | apply below_drew1) | exact HB.out)) hbel); clear HR HB; have HR := n0_; have HB := n1_; clear n0_ n1_ hbS hbel) | ((with_reducible refine gate_callee (f := 63) rfl ?_); refine goesL_ (some 121) rfl rfl Try.func63 (by kernel_rfl) rfl #[.slice (some ⟨g, 0, none⟩) x.length c5, .int .u8 47] rfl (by (try simp only [List.map_toArray, List.map_cons, List.map_nil]); first | done | rfl) ?_; refine (lib_calls (p := x) r6 HEV6.out (BR.pre (q := [47, 46, 46]) (by rw [← HX.out]; exact HR.out.heap rfl)) HPC.out HPB.out).mono ?_; rintro e wq ⟨rfl, ⟨nd, rfl⟩⟩; refine ⟨_, rfl, ?_⟩) | ((with_reducible refine gate_callee (f := 66) rfl ?_); refine goesL_ (some 124) rfl rfl Try.func66 (by kernel_rfl) rfl #[] rfl (by (try simp only [List.map_toArray, List.map_cons, List.map_nil]); first | done | rfl) ?_; refine (strS_calls _).mono ?_; rintro e wq ⟨gSO, cSO, rfl, hcSO, hbS, hbel⟩; refine ⟨_, rfl, ?_⟩; have HSO := Aside0.mk hbS; have n0_ := Aside0.mk (BR.below2 HR.out hbel rfl); have n1_ := Aside0.mk (below_step (by repeat (first | (with_reducible first | exact HB.out | apply below_alloc | apply pw_below_drewN | apply below_drew1) | exact HB.out)) hbel); clear HR HB; have HR := n0_; have HB := n1_; clear n0_ n1_ hbS hbel))
                  go_ret
                  rw [HCLN.out]
                  first | exact ⟨gSO, cSO, rfl, HSO.out.heap rfl, (by repeat (first | (with_reducible first | exact HB.out | apply below_alloc | apply pw_below_drewN | apply below_drew1) | exact HB.out))⟩ | exact ⟨gSO, ⟨cSO, rfl⟩, HSO.out.heap rfl, (by repeat (first | (with_reducible first | exact HB.out | apply below_alloc | apply pw_below_drewN | apply below_drew1) | exact HB.out))⟩
              · have hno : ∀ x, L ≠ x ++ [47, 46, 46] := fun x e => hx ⟨x, e⟩
                have HCLN : Aside0 (cleanK l0 = L) := ⟨by
                  obtain ⟨t, ht⟩ := HSL.out
                  rw [← HCL.out, ht]
                  exact Cl.clean_stays t (by rw [← ht]; exact HF3.out) (by rw [← ht]; exact hno)⟩
                have hpl := HPL.out
                by_cases h5 : 0 ≤ r5
                · have b5 : decide (r5 ≥ 0) = true := decide_eq_true h5
                  have b5' : decide (0 ≤ r5) = true := decide_eq_true h5
                  have hle5 : r5 ≤ 4611686018427387904 := by have := HPL.out; omega
                  have b7 : ¬ wrap64 (r5 + 3) = (L.length : Int) := by have := hnsuf hno; unfold wrap64; omega
                  have b6 : (wrap64 (r5 + 3) == (L.length : Int)) = false := beq_eq_false_iff_ne.2 b7
                  have b9 : (r5 + 3 == (L.length : Int)) = false := beq_eq_false_iff_ne.2 (by have := hnsuf hno; omega)
                  clear hle5 hev5 hsuf hnsuf hb5 hx hno hpl
                  go_wp2_with (first | ((with_reducible refine gate_callee (f := 62) rfl ?_); refine goesL_ (some 74) rfl rfl Try.func62 (by kernel_rfl) rfl #[] rfl (by (try simp only [List.map_toArray, List.map_cons, List.map_nil]); first | done | rfl) ?_; refine (strSDDS_calls _).mono ?_; rintro e wq ⟨gSV, cSV, rfl, hcSV, hbS, hbel⟩; refine ⟨_, rfl, ?_⟩; have HSV := Aside0.mk hbS; have n0_ := Aside0.mk (BR.below2 HR.out hbel rfl); have n1_ := Aside0.mk (below_step (by repeat (first | (with_reducible first | exact HB.out | apply below_alloc | apply pw_below_drewN | apply below_drew1) | exact HB.out)) hbel); clear HR HB; have HR := n0_; have HB := n1_; clear n0_ n1_ hbS hbel) | ((with_reducible refine gate_callee (f := 59) rfl ?_); refine goesL_ (some 75) rfl rfl Try.func59 (by kernel_rfl) rfl #[.slice (some ⟨g, 0, none⟩) L.length c5, .slice (some ⟨gSV, 0, none⟩) 4 cSV] rfl (by (try simp only [List.map_toArray, List.map_cons, List.map_nil]); first | done | rfl) ?_; refine (zz0_calls (q := L) (sub := [47, 46, 46, 47]) r3 HR3.out (HR.out.heap rfl) HC.out (HSV.out.heap rfl) hcSV (by decide) HPL.out (by decide)).mono ?_; rintro e wq ⟨rfl, ⟨nd, rfl⟩⟩; refine ⟨_, rfl, ?_⟩) | ((with_reducible refine gate_callee (f := 65) rfl ?_); refine goesL_ (some 105) rfl rfl Try.func65 (by kernel_rfl) rfl #[] rfl (by (try simp only [List.map_toArray, List.map_cons, List.map_nil]); first | done | rfl) ?_; refine (strSDD_calls _).mono ?_; rintro e wq ⟨gSY, cSY, rfl, hcSY, hbS, hbel⟩; refine ⟨_, rfl, ?_⟩; have HSY := Aside0.mk hbS; have n0_ := Aside0.mk (BR.below2 HR.out hbel rfl); have n1_ := Aside0.mk (below_step (by repeat (first | (with_reducible first | exact HB.out | apply below_alloc | apply pw_below_drewN | apply below_drew1) | exact HB.out)) hbel); clear HR HB; have HR := n0_; have HB := n1_; clear n0_ n1_ hbS hbel) | ((with_reducible refine gate_callee (f := 64) rfl ?_); refine goesL_ (some 106) rfl rfl Try.func64 (by kernel_rfl) rfl #[.slice (some ⟨g, 0, none⟩) L.length c5, .slice (some ⟨gSY, 0, none⟩) 3 cSY] rfl (by (try simp only [List.map_toArray, List.map_cons, List.map_nil]); first | done | rfl) ?_; refine (lix_calls (p := L) r5 HEV5.out (HR.out.heap rfl) HC.out (HSY.out.heap rfl) hcSY HPL.out).mono ?_; rintro e wq ⟨rfl, ⟨nd, rfl⟩⟩; refine ⟨_, rfl, ?_⟩) | ((with_reducible refine gate_callee (f := 65) rfl ?_); (refine gate_guard (by kernel_rfl) ?_); refine goesL_ (some 111) rfl rfl Try.func65 (by kernel_rfl) rfl #[] rfl (by (try simp only [List.map_toArray, List.map_cons, List.map_nil]); first | done | rfl) ?_; refine (strSDD_calls _).mono ?_; rintro e wq ⟨gSZ, cSZ, rfl, hcSZ, hbS, hbel⟩; refine ⟨_, rfl, ?_⟩; have HSZ := Aside0.mk hbS; have n0_ := Aside0.mk (BR.below2 HR.out hbel rfl); have n1_ := Aside0.mk (below_step (by repeat (first | (with_reducible first | exact HB.out | apply below_alloc | apply pw_below_drewN | apply below_drew1) | exact HB.out)) hbel); clear HR HB; have HR := n0_; have HB := n1_; clear n0_ n1_ hbS hbel))
                  go_ret
                  rw [HCLN.out]
                  first | exact ⟨g, c5, rfl, HR.out.heap rfl, (by repeat (first | (with_reducible first | exact HB.out | apply below_alloc | apply pw_below_drewN | apply below_drew1) | exact HB.out))⟩ | exact ⟨g, ⟨c5, rfl⟩, HR.out.heap rfl, (by repeat (first | (with_reducible first | exact HB.out | apply below_alloc | apply pw_below_drewN | apply below_drew1) | exact HB.out))⟩
                · have b5 : decide (r5 ≥ 0) = false := decide_eq_false h5
                  have b5' : decide (0 ≤ r5) = false := decide_eq_false h5
                  clear hev5 hsuf hnsuf hb5 hx hno hpl
                  go_wp2_with (first | ((with_reducible refine gate_callee (f := 62) rfl ?_); refine goesL_ (some 74) rfl rfl Try.func62 (by kernel_rfl) rfl #[] rfl (by (try simp only [List.map_toArray, List.map_cons, List.map_nil]); first | done | rfl) ?_; refine (strSDDS_calls _).mono ?_; rintro e wq ⟨gSV, cSV, rfl, hcSV, hbS, hbel⟩; refine ⟨_, rfl, ?_⟩; have HSV := Aside0.mk hbS; have n0_ := Aside0.mk (BR.below2 HR.out hbel rfl); have n1_ := Aside0.mk (below_step (by repeat (first | (with_reducible first | exact HB.out | apply below_alloc | apply pw_below_drewN | apply below_drew1) | exact HB.out)) hbel); clear HR HB; have HR := n0_; have HB := n1_; clear n0_ n1_ hbS hbel) | ((with_reducible refine gate_callee (f := 59) rfl ?_); refine goesL_ (some 75) rfl rfl Try.func59 (by kernel_rfl) rfl #[.slice (some ⟨g, 0, none⟩) L.length c5, .slice (some ⟨gSV, 0, none⟩) 4 cSV] rfl (by (try simp only [List.map_toArray, List.map_cons, List.map_nil]); first | done | rfl) ?_; refine (zz0_calls (q := L) (sub := [47, 46, 46, 47]) r3 HR3.out (HR.out.heap rfl) HC.out (HSV.out.heap rfl) hcSV (by decide) HPL.out (by decide)).mono ?_; rintro e wq ⟨rfl, ⟨nd, rfl⟩⟩; refine ⟨_, rfl, ?_⟩) | ((with_reducible refine gate_callee (f := 65) rfl ?_); refine goesL_ (some 105) rfl rfl Try.func65 (by kernel_rfl) rfl #[] rfl (by (try simp only [List.map_toArray, List.map_cons, List.map_nil]); first | done | rfl) ?_; refine (strSDD_calls _).mono ?_; rintro e wq ⟨gSY, cSY, rfl, hcSY, hbS, hbel⟩; refine ⟨_, rfl, ?_⟩; have HSY := Aside0.mk hbS; have n0_ := Aside0.mk (BR.below2 HR.out hbel rfl); have n1_ := Aside0.mk (below_step (by repeat (first | (with_reducible first | exact HB.out | apply below_alloc | apply pw_below_drewN | apply below_drew1) | exact HB.out)) hbel); clear HR HB; have HR := n0_; have HB := n1_; clear n0_ n1_ hbS hbel) | ((with_reducible refine gate_callee (f := 64) rfl ?_); refine goesL_ (some 106) rfl rfl Try.func64 (by kernel_rfl) rfl #[.slice (some ⟨g, 0, none⟩) L.length c5, .slice (some ⟨gSY, 0, none⟩) 3 cSY] rfl (by (try simp only [List.map_toArray, List.map_cons, List.map_nil]); first | done | rfl) ?_; refine (lix_calls (p := L) r5 HEV5.out (HR.out.heap rfl) HC.out (HSY.out.heap rfl) hcSY HPL.out).mono ?_; rintro e wq ⟨rfl, ⟨nd, rfl⟩⟩; refine ⟨_, rfl, ?_⟩))
                  go_ret
                  rw [HCLN.out]
                  first | exact ⟨g, c5, rfl, HR.out.heap rfl, (by repeat (first | (with_reducible first | exact HB.out | apply below_alloc | apply pw_below_drewN | apply below_drew1) | exact HB.out))⟩ | exact ⟨g, ⟨c5, rfl⟩, HR.out.heap rfl, (by repeat (first | (with_reducible first | exact HB.out | apply below_alloc | apply pw_below_drewN | apply below_drew1) | exact HB.out))⟩
            · have b3 : decide (r3 < 0) = false := decide_eq_false (by omega)
              rcases SpA.lastIB a 47 (by rw [hq] at HPL; have := HPL.out; simp at this; omega) with ⟨p', y, ha, hy, hev⟩ | ⟨ha, hev⟩
              · have hra : r3 = (a.length : Int) := by rw [← hr3, hix]
                have hql : L.length = a.length + (b.length + 4) := by rw [hq]; simp <;> omega
                have hcq := HC.out
                have hpl := HPL.out
                have HPC : Aside0 (a.length ≤ c5) := ⟨by omega⟩
                have HPB : Aside0 (a.length ≤ 4611686018427387) := ⟨by omega⟩
                have HCUT0 := cutTo (P := Try.prog) Try.underlying48 HI.out (some ⟨g, 0, none⟩) L.length c5 a.length r3 hra (by omega) hcq
                have hal : a.length = p'.length + (y.length + 1) := by rw [ha]; simp
                obtain ⟨r4, hr4⟩ : ∃ r4 : Int, r4 = (p'.length : Int) := ⟨_, rfl⟩
                rw [← hr4] at hev
                have HEV := Aside0.mk hev
                have b4 : decide (r4 < 0) = false := decide_eq_false (by omega)
                have hgood : Cl.good y := good_part L p' y b HF.out HF2.out (by rw [hq, ha]) (by rw [← ha]; exact hmin)
                have hrow : L = p' ++ (47 :: y ++ [47, 46, 46]) ++ (47 :: b) := by rw [hq, ha]; simp
                have HCL2 : Aside0 (cleanK (p' ++ 47 :: b) = cleanK l0) := ⟨by rw [← HCL.out, hrow]; have := Cl.clean_up p' y b hy hgood; simpa using this.symm⟩
                have HSL2 : Aside0 (∃ t, p' ++ 47 :: b = 47 :: t) := ⟨by obtain ⟨t, ht⟩ := HSL.out; exact slash_first p' b (y ++ [47, 46, 46] ++ 47 :: b) t (by rw [← ht, hrow]; simp)⟩
                have HF3 : Aside0 (∀ a' c', p' ++ 47 :: b ≠ a' ++ 47 :: 47 :: c') := ⟨Cl.shift_free2 p' (y ++ [47, 46, 46]) b (fun a' c' e => HF.out a' c' (by rw [← e, hrow] <;> simp))⟩
                have HF4 : Aside0 (∀ a' c', p' ++ 47 :: b ≠ a' ++ 47 :: 46 :: 47 :: c') := ⟨Cl.shift_free3 p' (y ++ [47, 46, 46]) b (fun a' c' e => HF2.out a' c' (by rw [← e, hrow] <;> simp))⟩
                obtain ⟨n9, hn9⟩ : ∃ n9 : Int, n9 = ((a.length + 3 : Nat) : Int) := ⟨_, rfl⟩
                have hw9 : wrap64 (r3 + 3) = n9 := by unfold wrap64; omega
                have hw43 : wrap64 3 = 3 := by unfold wrap64; omega
                obtain ⟨nd6, hnd6⟩ : ∃ n, n = L.length - p'.length := ⟨_, rfl⟩
                obtain ⟨ns6, hns6⟩ : ∃ n, n = b.length + 1 := ⟨_, rfl⟩
                obtain ⟨c6, hc6⟩ : ∃ c6, c6 = c5 - p'.length := ⟨_, rfl⟩
                obtain ⟨c7, hc7⟩ : ∃ c7, c7 = c5 - (a.length + 3) := ⟨_, rfl⟩
                obtain ⟨o7, ho7⟩ : ∃ o7, o7 = a.length + 3 := ⟨_, rfl⟩
                obtain ⟨n8, hn8⟩ : ∃ n8, n8 = p'.length + (b.length + 1) := ⟨_, rfl⟩
                have HCUT1 := cutFrom (P := Try.prog) Try.underlying48 HI.out HSZ.out g 0 L.length c5 p'.length p'.length nd6 c6 r4 hr4 (by omega) (by omega) (by omega) (by omega) hc6
                have HCUT2 := cutFrom (P := Try.prog) Try.underlying48 HI.out HSZ.out g 0 L.length c5 (a.length + 3) o7 ns6 c7 n9 hn9 (by omega) (by omega) (by omega) (by omega) hc7
                obtain ⟨x8, hx8⟩ : ∃ x8 : Int, x8 = (n8 : Int) := ⟨_, rfl⟩
                have hw8 : wrap64 (wrap64 ((L.length : Int) - n9) + r4) = x8 := by unfold wrap64; omega
                have HCUT3 := cutTo (P := Try.prog) Try.underlying48 HI.out (some ⟨g, 0, none⟩) L.length c5 n8 x8 hx8 (by omega) hcq
                have HROW := Aside0.mk hrow
                have HND : Aside0 (nd6 = (47 :: y ++ [47, 46, 46]).length + (47 :: b).length) := ⟨by simp; omega⟩
                have HNS := Aside0.mk hns6
                have HO7 : Aside0 (o7 = p'.length + (47 :: y ++ [47, 46, 46]).length) := ⟨by simp; omega⟩
                have HN8 := Aside0.mk hn8
                have HC8 : Aside0 (n8 ≤ c5 ∧ n8 < L.length ∧ n8 ≤ l0.length) := ⟨by have := HLEN.out; omega⟩
                have HQA := Aside0.mk hq
                clear hix hmin hr3 hql hcq hpl hc6 hc7 hx8 hrow hnd6 hns6 ho7 hn8 hq hra hn9 hal hr4 hev ha hy hgood
                go_wp2_with (first | ((with_reducible refine gate_callee (f := 62) rfl ?_); refine goesL_ (some 74) rfl rfl Try.func62 (by kernel_rfl) rfl #[] rfl (by (try simp only [List.map_toArray, List.map_cons, List.map_nil]); first | done | rfl) ?_; refine (strSDDS_calls _).mono ?_; rintro e wq ⟨gSV, cSV, rfl, hcSV, hbS, hbel⟩; refine ⟨_, rfl, ?_⟩; have HSV := Aside0.mk hbS; have n0_ := Aside0.mk (BR.below2 HR.out hbel rfl); have n1_ := Aside0.mk (below_step (by repeat (first | (with_reducible first | exact HB.out | apply below_alloc | apply pw_below_drewN | apply below_drew1) | exact HB.out)) hbel); clear HR HB; have HR := n0_; have HB := n1_; clear n0_ n1_ hbS hbel) | ((with_reducible refine gate_callee (f := 59) rfl ?_); refine goesL_ (some 75) rfl rfl Try.func59 (by kernel_rfl) rfl #[.slice (some ⟨g, 0, none⟩) L.length c5, .slice (some ⟨gSV, 0, none⟩) 4 cSV] rfl (by (try simp only [List.map_toArray, List.map_cons, List.map_nil]); first | done | rfl) ?_; refine (zz0_calls (q := L) (sub := [47, 46, 46, 47]) r3 HR3.out (HR.out.heap rfl) HC.out (HSV.out.heap rfl) hcSV (by decide) HPL.out (by decide)).mono ?_; rintro e wq ⟨rfl, ⟨nd, rfl⟩⟩; refine ⟨_, rfl, ?_⟩) | ((with_reducible refine gate_callee (f := 63) rfl ?_); refine goesL_ (some 81) rfl rfl Try.func63 (by kernel_rfl) rfl #[.slice (some ⟨g, 0, none⟩) a.length c5, .int .u8 47] rfl (by (try simp only [List.map_toArray, List.map_cons, List.map_nil]); first | done | rfl) ?_; refine (lib_calls (p := a) r4 HEV.out (BR.pre (q := [47, 46, 46, 47] ++ b) (by rw [← List.append_assoc, ← HQA.out]; exact HR.out.heap rfl)) HPC.out HPB.out).mono ?_; rintro e wq ⟨rfl, ⟨nd, rfl⟩⟩; refine ⟨_, rfl, ?_⟩) | ((with_reducible refine gate_callee (f := 62) rfl ?_); refine goesL_ (some 85) rfl rfl Try.func62 (by kernel_rfl) rfl #[] rfl (by (try simp only [List.map_toArray, List.map_cons, List.map_nil]); first | done | rfl) ?_; refine (strSDDS_calls _).mono ?_; rintro e wq ⟨gSX, cSX, rfl, hcSX, hbS, hbel⟩; refine ⟨_, rfl, ?_⟩; have HSX := Aside0.mk hbS; have n0_ := Aside0.mk (BR.below2 HR.out hbel rfl); have n1_ := Aside0.mk (below_step (by repeat (first | (with_reducible first | exact HB.out | apply below_alloc | apply pw_below_drewN | apply below_drew1) | exact HB.out)) hbel); clear HR HB; have HR := n0_; have HB := n1_; clear n0_ n1_ hbS hbel))
                go_still_tail 6, (by kernel_rfl)
                change wpList _ _ _ _ _ _
                ((with_reducible refine gate_builtin (b := .copy) (xs := #[.tmp 91, .tmp 94]) rfl ?_); refine shift_BR rfl (.tmp 91) (.tmp 94) 48 48 5 rfl Try.underlying48 (by rw [HI.out]; exact congrArg some HSZ.out) g c6 c7 (p') (47 :: y ++ [47, 46, 46]) (47 :: b) nd6 ns6 o7 HND.out (by rw [HNS.out]; simp) HO7.out rfl rfl (by rw [← HROW.out]; exact HR.out.heap rfl) w.heap.size HG.out ?_; intro w7 hbr hb; have n0_ := Aside0.mk (show Below w.heap.size w w7 from Below.trans (Below.drew HB.out) hb); clear HB HR; have HR := Aside0.mk hbr; have HB := n0_; clear n0_ hbr hb)
                go_wp2
                go_roundw
                case measure => exact HC8.out.2.1
                case rel => exact ⟨p' ++ 47 :: b, c5, by rw [HN8.out]; simp, HR, ⟨by have := HC8.out.1; rw [HN8.out] at this; simpa using this⟩, HF3, HF4, HCL2, HSL2, ⟨by have := HC8.out.2.2; rw [HN8.out] at this; simpa using this⟩, ⟨(by repeat (first | (with_reducible first | exact HB.out | apply below_alloc | apply pw_below_drewN | apply below_drew1) | exact HB.out))⟩⟩
              · have hra : r3 = (a.length : Int) := by rw [← hr3, hix]
                have hql : L.length = a.length + (b.length + 4) := by rw [hq]; simp <;> omega
                have hcq := HC.out
                have hpl := HPL.out
                have HPC : Aside0 (a.length ≤ c5) := ⟨by omega⟩
                have HPB : Aside0 (a.length ≤ 4611686018427387) := ⟨by omega⟩
                have HCUT0 := cutTo (P := Try.prog) Try.underlying48 HI.out (some ⟨g, 0, none⟩) L.length c5 a.length r3 hra (by omega) hcq
                obtain ⟨t0, ht0⟩ := HSL.out
                have ha0 : a = [] := no_slash_first a t0 L ([47, 46, 46, 47] ++ b) (by rw [hq]; simp) ht0 ha
                have hal : a.length = 0 := by rw [ha0]; rfl
                obtain ⟨r4, hr4⟩ : ∃ r4 : Int, r4 = -1 := ⟨_, rfl⟩
                rw [← hr4] at hev
                have HEV := Aside0.mk hev
                have b4 : decide (r4 < 0) = true := decide_eq_true (by omega)
                have hrow : L = [] ++ [47, 46, 46] ++ (47 :: b) := by rw [hq, ha0]; simp
                have HCL2 : Aside0 (cleanK ([] ++ 47 :: b) = cleanK l0) := ⟨by rw [← HCL.out, hrow]; have := Cl.clean_up0 b; simpa using this.symm⟩
                have HSL2 : Aside0 (∃ t, [] ++ 47 :: b = 47 :: t) := ⟨b, rfl⟩
                have HF3 : Aside0 (∀ a' c', [] ++ 47 :: b ≠ a' ++ 47 :: 47 :: c') := ⟨Cl.shift_free2 [] [46, 46] b (fun a' c' e => HF.out a' c' (by rw [← e, hrow] <;> simp))⟩
                have HF4 : Aside0 (∀ a' c', [] ++ 47 :: b ≠ a' ++ 47 :: 46 :: 47 :: c') := ⟨Cl.shift_free3 [] [46, 46] b (fun a' c' e => HF2.out a' c' (by rw [← e, hrow] <;> simp))⟩
                obtain ⟨n9, hn9⟩ : ∃ n9 : Int, n9 = ((a.length + 3 : Nat) : Int) := ⟨_, rfl⟩
                have hw9 : wrap64 (r3 + 3) = n9 := by unfold wrap64; omega
                have hw43 : wrap64 3 = 3 := by unfold wrap64; omega
                obtain ⟨nd6, hnd6⟩ : ∃ n, n = L.length - 0 := ⟨_, rfl⟩
                obtain ⟨ns6, hns6⟩ : ∃ n, n = b.length + 1 := ⟨_, rfl⟩
                obtain ⟨c6, hc6⟩ : ∃ c6, c6 = c5 - 0 := ⟨_, rfl⟩
                obtain ⟨c7, hc7⟩ : ∃ c7, c7 = c5 - (a.length + 3) := ⟨_, rfl⟩
                obtain ⟨o7, ho7⟩ : ∃ o7, o7 = a.length + 3 := ⟨_, rfl⟩
                obtain ⟨n8, hn8⟩ : ∃ n8, n8 = 0 + (b.length + 1) := ⟨_, rfl⟩
                have HCUT1 := cutFrom (P := Try.prog) Try.underlying48 HI.out HSZ.out g 0 L.length c5 0 0 nd6 c6 (0 : Int) rfl (by omega) (by omega) (by omega) (by omega) hc6
                have HCUT2 := cutFrom (P := Try.prog) Try.underlying48 HI.out HSZ.out g 0 L.length c5 (a.length + 3) o7 ns6 c7 n9 hn9 (by omega) (by omega) (by omega) (by omega) hc7
                obtain ⟨x8, hx8⟩ : ∃ x8 : Int, x8 = (n8 : Int) := ⟨_, rfl⟩
                have hw8 : wrap64 ((L.length : Int) - n9) = x8 := by unfold wrap64; omega
                have hw8a : wrap64 (x8 + 0) = x8 := by unfold wrap64; omega
                have hw8b : wrap64 x8 = x8 := by unfold wrap64; omega
                have HCUT3 := cutTo (P := Try.prog) Try.underlying48 HI.out (some ⟨g, 0, none⟩) L.length c5 n8 x8 hx8 (by omega) hcq
                have HROW := Aside0.mk hrow
                have HND : Aside0 (nd6 = ([47, 46, 46]).length + (47 :: b).length) := ⟨by simp; omega⟩
                have HNS := Aside0.mk hns6
                have HO7 : Aside0 (o7 = 0 + ([47, 46, 46]).length) := ⟨by simp; omega⟩
                have HN8 := Aside0.mk hn8
                have HC8 : Aside0 (n8 ≤ c5 ∧ n8 < L.length ∧ n8 ≤ l0.length) := ⟨by have := HLEN.out; omega⟩
                have HQA := Aside0.mk hq
                clear hix hmin hr3 hql hcq hpl hc6 hc7 hx8 hrow hnd6 hns6 ho7 hn8 hq hra hn9 hal hr4 hev ha ha0 ht0
                go_wp2_with (first | ((with_reducible refine gate_callee (f := 62) rfl ?_); refine goesL_ (some 74) rfl rfl Try.func62 (by kernel_rfl) rfl #[] rfl (by (try simp only [List.map_toArray, List.map_cons, List.map_nil]); first | done | rfl) ?_; refine (strSDDS_calls _).mono ?_; rintro e wq ⟨gSV, cSV, rfl, hcSV, hbS, hbel⟩; refine ⟨_, rfl, ?_⟩; have HSV := Aside0.mk hbS; have n0_ := Aside0.mk (BR.below2 HR.out hbel rfl); have n1_ := Aside0.mk (below_step (by repeat (first | (with_reducible first | exact HB.out | apply below_alloc | apply pw_below_drewN | apply below_drew1) | exact HB.out)) hbel); clear HR HB; have HR := n0_; have HB := n1_; clear n0_ n1_ hbS hbel) | ((with_reducible refine gate_callee (f := 59) rfl ?_); refine goesL_ (some 75) rfl rfl Try.func59 (by kernel_rfl) rfl #[.slice (some ⟨g, 0, none⟩) L.length c5, .slice (some ⟨gSV, 0, none⟩) 4 cSV] rfl (by (try simp only [List.map_toArray, List.map_cons, List.map_nil]); first | done | rfl) ?_; refine (zz0_calls (q := L) (sub := [47, 46, 46, 47]) r3 HR3.out (HR.out.heap rfl) HC.out (HSV.out.heap rfl) hcSV (by decide) HPL.out (by decide)).mono ?_; rintro e wq ⟨rfl, ⟨nd, rfl⟩⟩; refine ⟨_, rfl, ?_⟩) | ((with_reducible refine gate_callee (f := 63) rfl ?_); refine goesL_ (some 81) rfl rfl Try.func63 (by kernel_rfl) rfl #[.slice (some ⟨g, 0, none⟩) a.length c5, .int .u8 47] rfl (by (try simp only [List.map_toArray, List.map_cons, List.map_nil]); first | done | rfl) ?_; refine (lib_calls (p := a) r4 HEV.out (BR.pre (q := [47, 46, 46, 47] ++ b) (by rw [← List.append_assoc, ← HQA.out]; exact HR.out.heap rfl)) HPC.out HPB.out).mono ?_; rintro e wq ⟨rfl, ⟨nd, rfl⟩⟩; refine ⟨_, rfl, ?_⟩) | ((with_reducible refine gate_callee (f := 62) rfl ?_); refine goesL_ (some 85) rfl rfl Try.func62 (by kernel_rfl) rfl #[] rfl (by (try simp only [List.map_toArray, List.map_cons, List.map_nil]); first | done | rfl) ?_; refine (strSDDS_calls _).mono ?_; rintro e wq ⟨gSX, cSX, rfl, hcSX, hbS, hbel⟩; refine ⟨_, rfl, ?_⟩; have HSX := Aside0.mk hbS; have n0_ := Aside0.mk (BR.below2 HR.out hbel rfl); have n1_ := Aside0.mk (below_step (by repeat (first | (with_reducible first | exact HB.out | apply below_alloc | apply pw_below_drewN | apply below_drew1) | exact HB.out)) hbel); clear HR HB; have HR := n0_; have HB := n1_; clear n0_ n1_ hbS hbel))
                go_still_tail 6, (by kernel_rfl)
                change wpList _ _ _ _ _ _
                ((with_reducible refine gate_builtin (b := .copy) (xs := #[.tmp 91, .tmp 94]) rfl ?_); refine shift_BR rfl (.tmp 91) (.tmp 94) 48 48 5 rfl Try.underlying48 (by rw [HI.out]; exact congrArg some HSZ.out) g c6 c7 (([] : List UInt8)) ([47, 46, 46]) (47 :: b) nd6 ns6 o7 HND.out (by rw [HNS.out]; simp) HO7.out rfl rfl (by rw [← HROW.out]; exact HR.out.heap rfl) w.heap.size HG.out ?_; intro w7 hbr hb; have n0_ := Aside0.mk (show Below w.heap.size w w7 from Below.trans (Below.drew HB.out) hb); clear HB HR; have HR := Aside0.mk hbr; have HB := n0_; clear n0_ hbr hb)
                go_wp2
                go_roundw
                case measure => exact HC8.out.2.1
                case rel => exact ⟨([] : List UInt8) ++ 47 :: b, c5, by rw [HN8.out]; simp, HR, ⟨by have := HC8.out.1; rw [HN8.out] at this; simpa using this⟩, HF3, HF4, HCL2, HSL2, ⟨by have := HC8.out.2.2; rw [HN8.out] at this; simpa using this⟩, ⟨(by repeat (first | (with_reducible first | exact HB.out | apply below_alloc | apply pw_below_drewN | apply below_drew1) | exact HB.out))⟩⟩
        · have b2 : decide (r2 < 0) = false := decide_eq_false (by omega)
          have hra : r2 = (a.length : Int) := by rw [← hr2, hix]
          have hql : L.length = a.length + (b.length + 3) := by rw [hq]; simp <;> omega
          have hcq := HC.out
          have hpl := HPL.out
          obtain ⟨n9, hn9⟩ : ∃ n9 : Int, n9 = ((a.length + 2 : Nat) : Int) := ⟨_, rfl⟩
          have hw9 : wrap64 (wrap64 (r2 + 3) - 1) = n9 := by unfold wrap64; omega
          obtain ⟨nd6, hnd6⟩ : ∃ n, n = b.length + 3 := ⟨_, rfl⟩
          obtain ⟨ns6, hns6⟩ : ∃ n, n = b.length + 1 := ⟨_, rfl⟩
          obtain ⟨c6, hc6⟩ : ∃ c6, c6 = c5 - a.length := ⟨_, rfl⟩
          obtain ⟨c7, hc7⟩ : ∃ c7, c7 = c5 - (a.length + 2) := ⟨_, rfl⟩
          obtain ⟨o7, ho7⟩ : ∃ o7, o7 = a.length + 2 := ⟨_, rfl⟩
          obtain ⟨n8, hn8⟩ : ∃ n8, n8 = a.length + (b.length + 1) := ⟨_, rfl⟩
          have HCUT1 := cutFrom (P := Try.prog) Try.underlying48 HI.out HSZ.out g 0 L.length c5 a.length a.length nd6 c6 r2 hra (by omega) (by omega) (by omega) (by omega) hc6
          have HCUT2 := cutFrom (P := Try.prog) Try.underlying48 HI.out HSZ.out g 0 L.length c5 (a.length + 2) o7 ns6 c7 n9 hn9 (by omega) (by omega) (by omega) (by omega) hc7
          obtain ⟨x8, hx8⟩ : ∃ x8 : Int, x8 = (n8 : Int) := ⟨_, rfl⟩
          have hw8 : wrap64 (wrap64 ((L.length : Int) - n9) + r2) = x8 := by unfold wrap64; omega
          have HCUT3 := cutTo (P := Try.prog) Try.underlying48 HI.out (some ⟨g, 0, none⟩) L.length c5 n8 x8 hx8 (by omega) hcq
          have hrow : L = a ++ [47, 46] ++ (47 :: b) := by rw [hq]; simp
          have HROW := Aside0.mk hrow
          have HND := Aside0.mk hnd6
          have HNS := Aside0.mk hns6
          have HO7 := Aside0.mk ho7
          have HN8 := Aside0.mk hn8
          have HC8 : Aside0 (n8 ≤ c5 ∧ n8 < L.length ∧ n8 ≤ l0.length) := ⟨by have := HLEN.out; omega⟩
          have HF3 : Aside0 (∀ a' c', a ++ 47 :: b ≠ a' ++ 47 :: 47 :: c') := ⟨Cl.shift_free2 a [46] b (fun a' c' e => HF.out a' c' (by rw [← e, hrow] <;> simp))⟩
          have HSL2 : Aside0 (∃ t, a ++ 47 :: b = 47 :: t) := ⟨by obtain ⟨t, ht⟩ := HSL.out; exact slash_first a b (46 :: 47 :: b) t (by rw [← ht, hrow]; simp)⟩
          have HCL2 : Aside0 (cleanK (a ++ 47 :: b) = cleanK l0) := ⟨by rw [← HCL.out, hrow]; have := Cl.clean_dot a b; simpa using this.symm⟩
          clear hix hmin hr2 hql hcq hpl hc6 hc7 hx8 hrow hnd6 hns6 ho7 hn8 hq hra hn9
          go_wp2_with (first | ((with_reducible refine gate_callee (f := 61) rfl ?_); refine goesL_ (some 49) rfl rfl Try.func61 (by kernel_rfl) rfl #[] rfl (by (try simp only [List.map_toArray, List.map_cons, List.map_nil]); first | done | rfl) ?_; refine (strSDS_calls _).mono ?_; rintro e wq ⟨gST, cST, rfl, hcST, hbS, hbel⟩; refine ⟨_, rfl, ?_⟩; have HST := Aside0.mk hbS; have n0_ := Aside0.mk (BR.below2 HR.out hbel rfl); have n1_ := Aside0.mk (below_step (by repeat (first | (with_reducible first | exact HB.out | apply below_alloc | apply pw_below_drewN | apply below_drew1) | exact HB.out)) hbel); clear HR HB; have HR := n0_; have HB := n1_; clear n0_ n1_ hbS hbel) | ((with_reducible refine gate_callee (f := 59) rfl ?_); refine goesL_ (some 50) rfl rfl Try.func59 (by kernel_rfl) rfl #[.slice (some ⟨g, 0, none⟩) L.length c5, .slice (some ⟨gST, 0, none⟩) 3 cST] rfl (by (try simp only [List.map_toArray, List.map_cons, List.map_nil]); first | done | rfl) ?_; refine (zz0_calls (q := L) (sub := [47, 46, 47]) r2 HR2.out (HR.out.heap rfl) HC.out (HST.out.heap rfl) hcST (by decide) HPL.out (by decide)).mono ?_; rintro e wq ⟨rfl, ⟨nd, rfl⟩⟩; refine ⟨_, rfl, ?_⟩) | ((with_reducible refine gate_callee (f := 61) rfl ?_); refine goesL_ (some 54) rfl rfl Try.func61 (by kernel_rfl) rfl #[] rfl (by (try simp only [List.map_toArray, List.map_cons, List.map_nil]); first | done | rfl) ?_; refine (strSDS_calls _).mono ?_; rintro e wq ⟨gSU, cSU, rfl, hcSU, hbS, hbel⟩; refine ⟨_, rfl, ?_⟩; have HSU := Aside0.mk hbS; have n0_ := Aside0.mk (BR.below2 HR.out hbel rfl); have n1_ := Aside0.mk (below_step (by repeat (first | (with_reducible first | exact HB.out | apply below_alloc | apply pw_below_drewN | apply below_drew1) | exact HB.out)) hbel); clear HR HB; have HR := n0_; have HB := n1_; clear n0_ n1_ hbS hbel))
          go_still_tail 6, (by kernel_rfl)
          change wpList _ _ _ _ _ _
          ((with_reducible refine gate_builtin (b := .copy) (xs := #[.tmp 60, .tmp 63]) rfl ?_); refine shift_BR rfl (.tmp 60) (.tmp 63) 48 48 5 rfl Try.underlying48 (by rw [HI.out]; exact congrArg some HSZ.out) g c6 c7 (a) ([47, 46]) (47 :: b) nd6 ns6 o7 (by rw [HND.out]; simp; omega) (by rw [HNS.out]; simp) (by rw [HO7.out]; simp) rfl rfl (by rw [← HROW.out]; exact HR.out.heap rfl) w.heap.size HG.out ?_; intro w7 hbr hb; have n0_ := Aside0.mk (show Below w.heap.size w w7 from Below.trans (Below.drew HB.out) hb); clear HB HR; have HR := Aside0.mk hbr; have HB := n0_; clear n0_ hbr hb)
          go_wp2
          go_roundw
          case measure => exact HC8.out.2.1
          case rel => exact ⟨a ++ 47 :: b, c5, by rw [HN8.out]; simp, HR, ⟨by have := HC8.out.1; rw [HN8.out] at this; simpa using this⟩, HF3, HCL2, HSL2, ⟨by have := HC8.out.2.2; rw [HN8.out] at this; simpa using this⟩, ⟨(by repeat (first | (with_reducible first | exact HB.out | apply below_alloc | apply pw_below_drewN | apply below_drew1) | exact HB.out))⟩⟩
    · have b1 : decide (r1 < 0) = false := decide_eq_false (by omega)
      have hra : r1 = (a.length : Int) := by rw [← hr1, hix]
      have hql : q.length = a.length + (b.length + 2) := by rw [hq]; simp <;> omega
      obtain ⟨c6, hc6⟩ : ∃ c6, c6 = c5 - a.length := ⟨_, rfl⟩
      obtain ⟨c7, hc7⟩ : ∃ c7, c7 = c6 - 1 := ⟨_, rfl⟩
      have hcq := HC.out
      obtain ⟨o6, ho6⟩ : ∃ o6, o6 = (p ++ a).length := ⟨_, rfl⟩
      obtain ⟨n6, hn6⟩ : ∃ n6, n6 = b.length + 2 := ⟨_, rfl⟩
      obtain ⟨n7, hn7⟩ : ∃ n7, n7 = b.length + 1 := ⟨_, rfl⟩
      have HCUT1 := cutFrom (P := Try.prog) Try.underlying48 HI.out HSZ.out g p.length q.length c5 a.length o6 n6 c6 r1 hra (by omega) (by omega) (by rw [ho6]; simp) (by omega) hc6
      have HCUT2 := cutFrom (P := Try.prog) Try.underlying48 HI.out HSZ.out g o6 n6 c6 1 (o6 + 1) n7 c7 1 rfl (by omega) (by omega) rfl (by omega) hc7
      have hw7 : wrap64 ((n6 : Int) - 1) = ((n7 : Nat) : Int) := by unfold wrap64; simp at HPL; have := HPL.out; omega
      obtain ⟨x7, hx7⟩ : ∃ x7 : Int, x7 = (n7 : Int) := ⟨_, rfl⟩
      rw [← hx7] at hw7
      have HCUT3 := cutTo (P := Try.prog) Try.underlying48 HI.out (some ⟨g, o6, none⟩) n6 c6 n7 x7 hx7 (by omega) (by omega)
      have HZW : Aside0 (wrap64 (z6 - 1) = (((p ++ a).length + (47 :: b).length : Nat) : Int)) := ⟨by have h1 := HZ6.out; have h2 := HPL.out; simp at h2 ⊢; unfold wrap64; omega⟩
      have HZM : Aside0 ((wrap64 (z6 - 1)).toNat < z6.toNat) := ⟨by have h1 := HZ6.out; rw [HZW.out]; simp; omega⟩
      have hrow : p ++ q = (p ++ a) ++ [47] ++ (47 :: b) := by rw [hq]; simp
      have HROW := Aside0.mk hrow
      have HO6 := Aside0.mk ho6
      have HN7 := Aside0.mk hn7
      have HN6 := Aside0.mk hn6
      have HQ := Aside0.mk hq
      have HC7 : Aside0 (n7 ≤ c6) := ⟨by omega⟩
      have HINV2 := Aside0.mk (SpA.dup_next p q a b hq hmin HINV.out)
      clear hix hmin hr1 hql hc6 hc7 hcq hx7 hrow ho6 hn6 hn7 hq hra
      go_wp2_with (first | ((with_reducible refine gate_callee (f := 60) rfl ?_); refine goesL_ (some 26) rfl rfl Try.func60 (by kernel_rfl) rfl #[] rfl (by (try simp only [List.map_toArray, List.map_cons, List.map_nil]); first | done | rfl) ?_; refine (strSS_calls _).mono ?_; rintro e wq ⟨gSS, cSS, rfl, hcSS, hbS, hbel⟩; refine ⟨_, rfl, ?_⟩; have HSS := Aside0.mk hbS; have n0_ := Aside0.mk (BR.below2 HR.out hbel rfl); have n1_ := Aside0.mk (below_step (by repeat (first | (with_reducible first | exact HB.out | apply below_alloc | apply pw_below_drewN | apply below_drew1) | exact HB.out)) hbel); clear HR HB; have HR := n0_; have HB := n1_; clear n0_ n1_ hbS hbel) | ((with_reducible refine gate_callee (f := 59) rfl ?_); refine goesL_ (some 27) rfl rfl Try.func59 (by kernel_rfl) rfl #[.slice (some ⟨g, p.length, none⟩) q.length c5, .slice (some ⟨gSS, 0, none⟩) 2 cSS] rfl (by (try simp only [List.map_toArray, List.map_cons, List.map_nil]); first | done | rfl) ?_; refine (zz_calls (p := p) (q := q) (sub := [47, 47]) r1 HR1.out (HR.out.heap rfl) HC.out (HSS.out.heap rfl) hcSS (by decide) HPL.out (by decide)).mono ?_; rintro e wq ⟨rfl, ⟨nd, rfl⟩⟩; refine ⟨_, rfl, ?_⟩) | ((with_reducible refine gate_builtin (b := .copy) (xs := #[.tmp 33, .tmp 35]) rfl ?_); refine shift_BR rfl (.tmp 33) (.tmp 35) 48 48 5 rfl Try.underlying48 (by rw [HI.out]; exact congrArg some HSZ.out) g c6 c7 (p ++ a) [47] (47 :: b) n6 n7 (o6 + 1) (by rw [HN6.out]; simp; omega) (by rw [HN7.out]; simp) (by rw [HO6.out]; simp) (by rw [← HO6.out]; rfl) rfl (by rw [← HROW.out]; exact HR.out.heap rfl) w.heap.size HG.out ?_; intro w7 hbr hb; have n0_ := Aside0.mk (Below.trans (by repeat (first | (with_reducible first | exact HB.out | apply below_alloc | apply pw_below_drewN | apply below_drew1) | exact HB.out)) hb); clear HB HR; have HR := Aside0.mk hbr; have HB := n0_; clear n0_ hbr hb))
      go_roundw
      case measure => exact HZM.out
      case rel => exact ⟨p ++ a, 47 :: b, c6, by rw [HO6.out, HN7.out]; rfl, congrArg (Value.int .i64) HZW.out, HR, ⟨by have := HC7.out; have := HN7.out; simp; omega⟩, HINV2, ⟨by rw [← HCL.out, HROW.out]; simp only [List.append_assoc, List.singleton_append]; rw [← List.append_assoc, ← List.append_assoc]; exact (Cl.clean_dup (p ++ a) b).symm⟩, ⟨by obtain ⟨t, ht⟩ := HSL.out; rw [HROW.out] at ht; cases hpa : p ++ a with | nil => exact ⟨b, by simp⟩ | cons x y => rw [hpa] at ht; simp at ht; exact ⟨y ++ 47 :: b, by rw [ht.1]; simp⟩⟩, ⟨by have h1 := HLEN.out; rw [HROW.out] at h1; simp at h1 ⊢; omega⟩, ⟨(by repeat (first | (with_reducible first | exact HB.out | apply below_alloc | apply pw_below_drewN | apply below_drew1) | exact HB.out))⟩⟩
end Go.Proofs.Ytjklempjljikpaa.Q
