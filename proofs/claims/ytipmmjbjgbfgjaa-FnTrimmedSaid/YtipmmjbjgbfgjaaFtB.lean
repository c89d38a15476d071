/- The law FnTrimmed, walked: a text of the byte alone. -/
import Derived.Test.YtipmmjbjgbfgjaaFtL
namespace Go.Proofs.Ytipmmjbjgbfgjaa.Q
open Go.RowKit Go.Proofs.YtipmmjbjgbfgjaaW.PrintWords Go.Proofs.YtipmmjbjgbfgjaaW.PrintLast Go.Proofs.YtipmmjbjgbfgjaaW.PrintMore
open Go.Proofs.YtipmmjbjgbfgjaaKit (L size_L)
open Go.Proofs.Ytipmmjbjgbfgjaa.SpA (toI toI_length ldS tlS trS ld_le tl_le ld_lt ld_at tl_ge tl_at ld_tl tl_zero left_f right_f both_f bytes_f)
set_option linter.unusedVariables false
set_option linter.unusedSimpArgs false
set_option maxHeartbeats 16000000 in
set_option maxRecDepth 100000 in
theorem trimmedB_calls (s : ByteArray) (cv : Int) (w : World) (hs : s.size ≤ 2147483647) (hkl0 : ¬ ldS s cv < s.size) :
    Calls Try.prog 3 #[.string s, .int .u8 cv] w fun e w' => e = .returned (.bool true) ∧ Below w.heap.size w w' := by
  have b1 : decide ((s.size : Int) > 2147483647) = false := decide_eq_false (by omega)
  obtain ⟨K1, hK1⟩ := both_f (⟨#[120, 97, 120]⟩ : ByteArray) 120 (by decide)
  have hx : trS (⟨#[120, 97, 120]⟩ : ByteArray) 120 = ⟨#[97]⟩ := by decide +kernel
  rw [hx] at hK1
  obtain ⟨K2, hK2⟩ := SpA.short1 s
  obtain ⟨K3, hK3⟩ := left_f s cv hs
  obtain ⟨K4, hK4⟩ := right_f s cv hs
  obtain ⟨K5, hK5⟩ := both_f s cv hs
  have HKL0 := Aside0.mk hkl0
  clear hkl0
  have H1 := Aside0.mk hK1
  have H2 := Aside0.mk hK2
  have H3 := Aside0.mk hK3
  have H4 := Aside0.mk hK4
  have H5 := Aside0.mk hK5
  have HS := Aside0.mk hs
  clear hs hK1 hx hK2 hK3 hK4 hK5
  obtain ⟨sh, hsh⟩ : ∃ b, b = decide (s.size ≤ 2000) := ⟨_, rfl⟩
  rw [← hsh] at H2
  clear hsh
  go_enter Try.func3, Try.ntmps3
  go_upto_region 5 with (first | ((with_reducible refine gate_callee (f := 12) rfl ?_); refine goesL_ (some 11) rfl rfl Try.func12 (by kernel_rfl) rfl #[.string ⟨#[120, 97, 120]⟩, .int .u8 120] rfl (by (try simp only [List.map_toArray, List.map_cons, List.map_nil]); first | done | rfl) ?_; refine (impl_Trim.calls K1 _ _ ⟨#[97]⟩ _ (H1.out K1 (Nat.le_refl _))).mono ?_; rintro e w1 ⟨rfl, hd⟩; refine ⟨_, rfl, ?_⟩; have HB1 := Aside0.mk (drawn_below (Below.refl w.heap.size w) hd); clear hd))
  go_wp2_with (first | ((with_reducible refine gate_dst (N := 14) rfl ?_); refine Kd.R_lit Kd.string _ 9 ?hg (N := 14) ?hd (xs := ([s] : List ByteArray)) (inner := [.string s]) (ok := fun _ => True) (okp := fun _ => True) ?hr ?hp (fun _ hk => hk) trivial (Below.refl _ _) (Nat.le_refl _) (by simp) ?_; (case hd => rfl); (case hg => rfl); (case hr => first | (go_simp; done) | (go_simp; rfl)); (case hp => exact (Reps.one (show Kd.M Kd.string _ _ _ s [.string s] from rfl) (Reps.none _ _))); intro v14 w12 ho13 hb hg_ hnew_; clear hg_ hnew_; obtain ⟨A14, c14, rfl, hl14, hc14⟩ := Kd.R_reads ho13; have HC14 := Aside0.mk hc14; have HL14 := Aside0.mk hl14; have HB12 := Aside0.mk (below_step HB1.out hb); clear ho13 hb hl14 hc14) | ((with_reducible refine gate_callee (f := 13) rfl ?_); refine goesL_ (some 15) rfl rfl Try.func13 (by kernel_rfl) rfl #[.slice A14 1 c14] rfl (by (try simp only [List.map_toArray, List.map_cons, List.map_nil]); first | done | rfl) ?_; refine (laws_short.calls K2 A14 c14 [s] sh _ HC14.out HL14.out (H2.out K2 (Nat.le_refl _))).mono ?_; rintro e w2 ⟨rfl, hd⟩; refine ⟨_, rfl, ?_⟩; have HB2 := Aside0.mk (drawn_below HB12.out hd); clear hd))
  · go_ret
    exact ⟨rfl, HB2.out⟩
  obtain ⟨k, hk⟩ : ∃ k, k = ldS s cv := ⟨_, rfl⟩
  obtain ⟨m, hm⟩ : ∃ m, m = tlS s cv := ⟨_, rfl⟩
  have hks := ld_le s cv
  have hms := tl_le s cv
  have L1 : Aside0 (∀ i : Nat, i < k → bt s (i : Int) = cv) := ⟨fun i hi => ld_lt s cv i (by omega)⟩
  have G1 : Aside0 (∀ i : Nat, m ≤ i → i < s.size → bt s (i : Int) = cv) := ⟨fun i h1 h2 => tl_ge s cv i (by omega) h2⟩
  rw [← hk] at H3 hks
  rw [← hm] at H4 hms
  have hs := HS.out
  have HKS := Aside0.mk hks
  have HMS := Aside0.mk hms
  have c0_ : (0 ≤ (0 : Int)) = True := eq_true (by omega)
  clear HB1 HB12 HC14 HL14
  have hkl : k = s.size := by have := HKL0.out; omega
  have hm0 : m = 0 := by rw [hm]; exact tl_zero s cv HKL0.out
  have HT : Aside0 (trS s cv = ⟨#[]⟩) := ⟨by rw [trS, if_neg HKL0.out]⟩
  have HKL := Aside0.mk hkl
  have HM0 := Aside0.mk hm0
  clear hk hm hks hms hkl hm0 hs
  go_loopw [5] (fun v5 wr => ∃ (x : Int) (i : Nat), v5 = .int .i64 x ∧ Aside0 (x = (i : Int)) ∧ Aside0 (i ≤ k) ∧ Aside0 (Below w.heap.size w wr)) (fun v5 _ => s.size - natV v5)
  case atStart => exact ⟨0, 0, rfl, ⟨rfl⟩, ⟨Nat.zero_le _⟩, HB2⟩
  case round =>
    obtain ⟨x, i, rfl, HX, HI, HB⟩ := hrel
    clear HB2
    have hX := HX.out
    have hI := HI.out
    have hKL := HKL.out
    have hS := HS.out
    by_cases hi : i < k
    · have c1_ : decide (x < (s.size : Int)) = true := decide_eq_true (by omega)
      have p1_ : (0 ≤ x) = True := eq_true (by omega)
      have q1_ : (x < (s.size : Int)) = True := eq_true (by omega)
      have hx_ := bt_at s x
      have hv_ : (bt s x == cv) = true := beq_iff_eq.2 (by rw [hX]; exact L1.out i hi)
      have wx_ : wrap64 (x + 1) = x + 1 := by unfold wrap64; omega
      have HIK := Aside0.mk hi
      clear hX hI hKL hS hi
      go_wp2
      go_roundw
      case measure => have h1_ := HIK.out; have h2_ := HKL.out; have h3_ := HX.out; simp only [natV]; try rw [wx_]; omega
      case rel => exact ⟨_, i + 1, rfl, ⟨by have h3_ := HX.out; first | (rw [wx_]; omega) | omega⟩, ⟨HIK.out⟩, HB⟩
    · have c1_ : decide (x < (s.size : Int)) = false := decide_eq_false (by omega)
      have HXK : Aside0 (x = (k : Int)) := ⟨by omega⟩
      clear hX hI hKL hS hi HX HI
      go_wp2
      go_loopw [6] (fun v6 wr => ∃ (y : Int) (j : Nat), v6 = .int .i64 y ∧ Aside0 (y = (j : Int)) ∧ Aside0 (m ≤ j ∧ j ≤ s.size) ∧ Aside0 (Below w.heap.size w wr)) (fun v6 _ => natV v6)
      case atStart => exact ⟨_, s.size, rfl, ⟨rfl⟩, ⟨⟨HMS.out, Nat.le_refl _⟩⟩, HB⟩
      case round =>
        obtain ⟨y, j, rfl, HY, HJ, HB2⟩ := hrel
        clear HB
        obtain ⟨z, hz⟩ : ∃ z : Int, z = y - 1 := ⟨_, rfl⟩
        have hY := HY.out
        have hJ := HJ.out
        have hM0 := HM0.out
        have hS := HS.out
        have hX := HXK.out
        have hKL := HKL.out
        by_cases hj : m < j
        · have c2_ : decide (y > 0) = true := decide_eq_true (by omega)
          have wx_ : wrap64 (y - 1) = z := by unfold wrap64; omega
          have p1_ : (0 ≤ z) = True := eq_true (by omega)
          have q1_ : (z < (s.size : Int)) = True := eq_true (by omega)
          have hx_ := bt_at s z
          have hv_ : (bt s z == cv) = true := beq_iff_eq.2 (by rw [show z = ((j - 1 : Nat) : Int) by omega]; exact G1.out (j - 1) (by omega) (by omega))
          have HJM : Aside0 (m < j ∧ z = (j : Int) - 1) := ⟨⟨hj, by omega⟩⟩
          clear hY hJ hM0 hS hX hj hz hKL
          go_wp2
          go_roundw
          case measure => have h1_ := HJM.out; have h2_ := HY.out; simp only [natV]; try rw [wx_]; omega
          case rel => exact ⟨_, j - 1, rfl, ⟨by have h1_ := HJM.out; first | (rw [wx_]; omega) | omega⟩, ⟨by have h1_ := HJM.out; have h2_ := HJ.out; omega⟩, HB2⟩
        · have c2_ : decide (y > 0) = false := decide_eq_false (by omega)
          have hym : y = (m : Int) := by omega
          have d1_ : decide (x < y) = false := decide_eq_false (by omega)
          have d2_ : (0 ≤ x) = True := eq_true (by omega)
          have d4_ : (y ≤ (s.size : Int)) = True := eq_true (by omega)
          have d5_ : (x ≤ (s.size : Int)) = True := eq_true (by omega)
          have d6_ : (0 ≤ y) = True := eq_true (by omega)
          have HYM := Aside0.mk hym
          clear hY hJ hM0 hS hX hj hz hym HY HJ hKL
          go_wp2
          have e3 : s.extract k s.size = s.extract x.toNat s.size := by rw [HXK.out, Int.toNat_natCast]
          have e4 : s.extract 0 m = s.extract 0 y.toNat := by rw [HYM.out, Int.toNat_natCast]
          have e5 : trS s cv = ⟨#[]⟩ := HT.out
          have hcv0 := fun W : World => Lib.run_convert_string_bytes (P := Try.prog) W 9 24 5 s Try.underlying9 Try.underlying24 Try.underlying5
          rw [e3] at H3
          rw [e4] at H4
          rw [e5] at H5
          have HE5 := Aside0.mk e5
          clear e3 e4 e5
          go_region_with (first
            | (go_at_call 14; refine (impl_TrimLeft.calls K3 s cv _ _ (H3.out K3 (Nat.le_refl _))).mono ?_; rintro e w5 ⟨rfl, hd⟩; have HB5 := Aside0.mk (drawn_below (by repeat (first | (with_reducible first | exact HB2.out | apply below_alloc | apply pw_below_drewN | apply below_drew1) | exact HB2.out)) hd); clear HB2 hd; have HB2 := HB5; clear HB5)
            | (go_at_call 15; refine (impl_TrimRight.calls K4 s cv _ _ (H4.out K4 (Nat.le_refl _))).mono ?_; rintro e w5 ⟨rfl, hd⟩; have HB5 := Aside0.mk (drawn_below (by repeat (first | (with_reducible first | exact HB2.out | apply below_alloc | apply pw_below_drewN | apply below_drew1) | exact HB2.out)) hd); clear HB2 hd; have HB2 := HB5; clear HB5)
            | (go_at_call 12; refine (impl_Trim.calls K5 s cv _ _ (H5.out K5 (Nat.le_refl _))).mono ?_; rintro e w5 ⟨rfl, hd⟩; have HB5 := Aside0.mk (drawn_below (by repeat (first | (with_reducible first | exact HB2.out | apply below_alloc | apply pw_below_drewN | apply below_drew1) | exact HB2.out)) hd); clear HB2 hd; have HB2 := HB5; clear HB5)
            | (go_at_call 16; refine (tb_at s cv _ HS.out).mono ?_; rintro e w5 ⟨A8, n8, c8, rfl, hcv8, hd⟩; rw [HE5.out] at hcv8; have HB5 := Aside0.mk (below_step (by repeat (first | (with_reducible first | exact HB2.out | apply below_alloc | apply pw_below_drewN | apply below_drew1) | exact HB2.out)) hd); clear HB2 hd; have HB2 := HB5; clear HB5))
          all_goals go_wp2
          all_goals go_ret
          all_goals exact ⟨rfl, HB2.out⟩
end Go.Proofs.Ytipmmjbjgbfgjaa.Q
