/- fiberutils.TrimBytes and impl.TrimBytes: a byte taken away at both ends of a row of bytes. -/
import Derived.Test.YtipmmjbjgbfgjaaKit
import Derived.Test.YtipmmjbjgbfgjaaQ0
import Derived.Test.YtipmmjbjgbfgjaaX
import Derived.WalkSpells
namespace Go.Proofs.Ytipmmjbjgbfgjaa.Q
open Go.RowKit Go.Proofs.YtipmmjbjgbfgjaaW.PrintWords Go.Proofs.YtipmmjbjgbfgjaaW.PrintLast Go.Proofs.YtipmmjbjgbfgjaaW.PrintMore
set_option linter.unusedVariables false
set_option linter.unusedSimpArgs false
/-- How many of a row's first numbers are c. -/
def leadN (c : Int) : List Int → Nat
  | [] => 0
  | x :: t => if x = c then leadN c t + 1 else 0
/-- How long a row is without the numbers c at its end. -/
def tailN (c : Int) (l : List Int) : Nat := l.length - leadN c l.reverse
def trimI (l : List Int) (c : Int) : List Int := (l.take (max (tailN c l) (leadN c l))).drop (leadN c l)
theorem leadN_le (c : Int) : ∀ l, leadN c l ≤ l.length
  | [] => Nat.le_refl _
  | x :: t => by have := leadN_le c t; unfold leadN; split <;> simp <;> omega
theorem leadN_lt (c : Int) : ∀ (l : List Int) (i : Nat), i < leadN c l → l.getD i 0 = c
  | [], i, h => by simp [leadN] at h
  | x :: t, i, h => by
    unfold leadN at h
    split at h
    · cases i with
      | zero => simpa
      | succ i => simpa using leadN_lt c t i (by omega)
    · omega
theorem leadN_at (c : Int) : ∀ (l : List Int), leadN c l < l.length → l.getD (leadN c l) 0 ≠ c
  | [], h => by simp at h
  | x :: t, h => by
    unfold leadN at h ⊢
    split
    · rename_i hx
      rw [if_pos hx] at h
      simpa using leadN_at c t (by simpa using h)
    · rename_i hx
      simpa using hx
theorem getD_rev (l : List Int) (i : Nat) (h : i < l.length) : l.reverse.getD i 0 = l.getD (l.length - 1 - i) 0 := by
  rw [List.getD_eq_getElem?_getD, List.getD_eq_getElem?_getD, List.getElem?_reverse h]
theorem tailN_ge (c : Int) (l : List Int) (i : Nat) (h1 : tailN c l ≤ i) (h2 : i < l.length) : l.getD i 0 = c := by
  have h3 := leadN_le c l.reverse
  rw [List.length_reverse] at h3
  have := leadN_lt c l.reverse (l.length - 1 - i) (by unfold tailN at h1; omega)
  rw [getD_rev l _ (by omega)] at this
  rwa [show l.length - 1 - (l.length - 1 - i) = i by omega] at this
theorem tailN_at (c : Int) (l : List Int) (h : 0 < tailN c l) : l.getD (tailN c l - 1) 0 ≠ c := by
  have h3 := leadN_le c l.reverse
  rw [List.length_reverse] at h3
  have := leadN_at c l.reverse (by rw [List.length_reverse]; unfold tailN at h; omega)
  rw [getD_rev l _ (by unfold tailN at h; omega)] at this
  rwa [show l.length - 1 - leadN c l.reverse = tailN c l - 1 by unfold tailN; omega] at this
theorem tailN_le (c : Int) (l : List Int) : tailN c l ≤ l.length := by unfold tailN; omega
/-- Where the beginning is not the end, the one stands ahead of the other. -/
theorem lead_tail (c : Int) (l : List Int) (h : leadN c l < l.length) : leadN c l < tailN c l := by
  refine Classical.byContradiction fun hn => ?_
  exact leadN_at c l h (tailN_ge c l _ (by omega) h)
set_option maxHeartbeats 8000000 in
set_option maxRecDepth 100000 in
theorem trimBytes_calls (A : Option Addr) (c0 : Nat) (l : List Int) (cv : Int) (w : World) (hr : Kd.C (Kd.int .u8) w A l.length l) (hc : l.length ≤ c0) (hl : l.length ≤ 140737488355328) :
    Calls Try.prog 57 #[.slice A l.length c0, .int .u8 cv] w fun e w' => ∃ A' c', e = .returned (.slice A' (trimI l cv).length c') ∧ (trimI l cv).length ≤ c' ∧ (∀ W, Kd.C (Kd.int .u8) W A l.length l → Kd.C (Kd.int .u8) W A' (trimI l cv).length (trimI l cv)) ∧ Drawn0 w w' := by
  have HR := Aside0.mk hr
  have HC := Aside0.mk hc
  have HL := Aside0.mk hl
  obtain ⟨k, hk⟩ : ∃ k, k = leadN cv l := ⟨_, rfl⟩
  obtain ⟨m, hm⟩ : ∃ m, m = max (tailN cv l) (leadN cv l) := ⟨_, rfl⟩
  have hkl := leadN_le cv l
  have hml := tailN_le cv l
  have HK : Aside0 (k ≤ l.length ∧ k ≤ m ∧ m ≤ l.length) := ⟨by omega⟩
  have HLT : Aside0 (∀ i, i < k → l.getD i 0 = cv) := ⟨fun i hi => leadN_lt cv l i (by omega)⟩
  have HAT : Aside0 (k < l.length → l.getD k 0 ≠ cv) := ⟨fun h => by rw [hk]; exact leadN_at cv l (by omega)⟩
  have HM1 : Aside0 (∀ i, m ≤ i → i < l.length → l.getD i 0 = cv) := ⟨fun i h1 h2 => tailN_ge cv l i (by omega) h2⟩
  have HM2 : Aside0 (k < l.length → k < m ∧ l.getD (m - 1) 0 ≠ cv) := ⟨fun h => by
    have h1 := lead_tail cv l (by omega)
    have h2 := tailN_at cv l (by omega)
    have e : m = tailN cv l := by omega
    rw [e]
    exact ⟨by omega, h2⟩⟩
  have HT : Aside0 (trimI l cv = (l.take m).drop k) := ⟨by unfold trimI; rw [hk, hm]⟩
  clear hr hc hl hk hm hkl hml
  obtain ⟨ln, hln⟩ : ∃ ln : Int, ln = (l.length : Int) := ⟨_, rfl⟩
  have HLN := Aside0.mk hln
  obtain ⟨y0, hy0⟩ : ∃ y0 : Int, y0 = (l.length : Int) - 1 := ⟨_, rfl⟩
  have HY0 := Aside0.mk hy0
  have hw0 : wrap64 ((l.length : Int) - 1) = y0 := by have := HL.out; unfold wrap64; omega
  have hw0w : IntKind.i64.wrap ((l.length : Int) - 1) = y0 := (i64_w _).trans hw0
  clear hln hy0
  go_enter Try.func57, Try.ntmps57
  go_wp2
  go_loopw [5] (fun s5 wr => ∃ i : Nat, s5 = .int .i64 (i : Int) ∧ Aside0 (i ≤ k) ∧ Drawn0 w wr) (fun s5 _ => (l.length - (intOf s5)).toNat)
  case atStart => exact ⟨0, rfl, ⟨Nat.zero_le _⟩, by repeat (first | exact Drawn0.refl _ | apply Drawn0.step)⟩
  case round =>
    clear hw0 hw0w
    obtain ⟨i, rfl, HI, ⟨nd1, rfl⟩⟩ := hrel
    obtain ⟨x5, hx5⟩ : ∃ x : Int, x = (i : Int) := ⟨_, rfl⟩
    rw [← hx5]
    have HX := Aside0.mk hx5
    have hI := HI.out
    have hK := HK.out
    have hLN := HLN.out
    have hY0 := HY0.out
    have hL := HL.out
    by_cases hik : i < k
    · have c1 : decide (x5 ≤ y0) = true := decide_eq_true (by omega)
      have p1 : 0 ≤ x5 := by omega
      have q1 : x5 < (l.length : Int) := by omega
      obtain ⟨ad, rfl, hx⟩ := Kd.at_int HR.out x5 p1 q1
      replace p1 := eq_true p1
      replace q1 := eq_true q1
      have hv : rd l x5 = cv := by unfold rd; rw [show x5.toNat = i by omega]; exact HLT.out i hik
      rw [hv] at hx
      have HW : Aside0 (wrap64 (x5 + 1) = ((i + 1 : Nat) : Int)) := ⟨by unfold wrap64; omega⟩
      have HME : Aside0 (((l.length : Int) - wrap64 (x5 + 1)).toNat < ((l.length : Int) - x5).toNat) := ⟨by rw [HW.out]; omega⟩
      have HIK : Aside0 (i + 1 ≤ k) := ⟨hik⟩
      clear hx5 hI hK hLN hY0 hL hik hv
      go_wp2
      go_roundw
      case measure => exact HME.out
      case rel => exact ⟨i + 1, congrArg (Value.int .i64) HW.out, HIK, by repeat (first | exact Drawn0.refl _ | apply Drawn0.step)⟩
    · have hie : i = k := by omega
      by_cases hkl : k < l.length
      · have c1 : decide (x5 ≤ y0) = true := decide_eq_true (by omega)
        have p1 : 0 ≤ x5 := by omega
        have q1 : x5 < (l.length : Int) := by omega
        obtain ⟨ad, rfl, hx⟩ := Kd.at_int HR.out x5 p1 q1
        replace p1 := eq_true p1
        replace q1 := eq_true q1
        obtain ⟨v5, hv5⟩ : ∃ v, v = rd l x5 := ⟨_, rfl⟩
        rw [← hv5] at hx
        have hne : (v5 == cv) = false := beq_eq_false_iff_ne.2 (by rw [hv5]; unfold rd; rw [show x5.toNat = k by omega]; exact HAT.out hkl)
        have hne2 : (v5 != cv) = true := bne_iff_ne.2 (by rw [hv5]; unfold rd; rw [show x5.toNat = k by omega]; exact HAT.out hkl)
        have HX5 : Aside0 (x5 = (k : Int)) := ⟨by omega⟩
        have HKL := Aside0.mk hkl
        clear hx5 hI hK hLN hY0 hL hik hie hv5 hkl
        go_wp2
        clear c1 p1 q1 hx hne hne2
        go_loopw [6] (fun s6 wr => ∃ j : Nat, s6 = .int .i64 ((j : Int) - 1) ∧ Aside0 (m ≤ j ∧ j ≤ l.length) ∧ Drawn0 w wr) (fun s6 _ => (intOf s6).toNat)
        case atStart => exact ⟨l.length, by rw [HY0.out], ⟨⟨HK.out.2.2, Nat.le_refl _⟩⟩, by repeat (first | exact Drawn0.refl _ | apply Drawn0.step)⟩
        case round =>
          obtain ⟨j, rfl, HJ, ⟨nd2, rfl⟩⟩ := hrel
          obtain ⟨x6, hx6⟩ : ∃ x : Int, x = (j : Int) - 1 := ⟨_, rfl⟩
          rw [← hx6]
          have HX6 := Aside0.mk hx6
          have hJ := HJ.out
          have hK := HK.out
          have hX5 := HX5.out
          have hL := HL.out
          have hkm := (HM2.out HKL.out).1
          by_cases hjm : m < j
          · have c1 : decide (x5 < x6) = true := decide_eq_true (by omega)
            have p1 : 0 ≤ x6 := by omega
            have q1 : x6 < (l.length : Int) := by omega
            obtain ⟨ad2, e2, hx⟩ := Kd.at_int HR.out x6 p1 q1
            obtain rfl : ad = ad2 := by injection e2
            replace p1 := eq_true p1
            replace q1 := eq_true q1
            have hv : rd l x6 = cv := by unfold rd; rw [show x6.toNat = j - 1 by omega]; exact HM1.out (j - 1) (by omega) (by omega)
            rw [hv] at hx
            have HW : Aside0 (wrap64 (x6 - 1) = ((j - 1 : Nat) : Int) - 1) := ⟨by unfold wrap64; omega⟩
            have HME : Aside0 ((wrap64 (x6 - 1)).toNat < x6.toNat) := ⟨by rw [HW.out]; omega⟩
            have HJ2 : Aside0 (m ≤ j - 1 ∧ j - 1 ≤ l.length) := ⟨by omega⟩
            clear hx6 hJ hK hX5 hL hkm hjm hv e2
            go_wp2
            go_roundw
            case measure => exact HME.out
            case rel => exact ⟨j - 1, congrArg (Value.int .i64) HW.out, HJ2, by repeat (first | exact Drawn0.refl _ | apply Drawn0.step)⟩
          · have hje : j = m := by omega
            obtain ⟨x7, hx7⟩ : ∃ x : Int, x = (m : Int) := ⟨_, rfl⟩
            have hw7 : wrap64 (x6 + 1) = x7 := by unfold wrap64; omega
            obtain ⟨i0, hi0, _, hsz0, _⟩ := info_parts info5
            obtain ⟨A', hcut, hA, hC⟩ := print_mid_of (P := Try.prog) (Value.int .u8) 0 24 5 .i64 .i64 Try.underlying24 hi0 hsz0 (some ad) c0 l x5 x7 (by omega) (by omega) (by omega) HC.out
            have HTT : Aside0 ((l.take x7.toNat).drop x5.toNat = trimI l cv) := ⟨by rw [HT.out, show x7.toNat = m by omega, show x5.toNat = k by omega]⟩
            rw [HTT.out] at hcut hC
            have HA' : Aside0 (∀ W, Kd.C (Kd.int .u8) W (some ad) l.length l → Kd.C (Kd.int .u8) W A' (trimI l cv).length (trimI l cv)) := ⟨fun W hW => by
              have := hA W (Kd.reads_of_C hW)
              rw [HTT.out] at this
              exact Kd.C_of_reads (h1 := fun _ => rfl) this⟩
            have HC' := Aside0.mk hC
            obtain ⟨nt, hnt⟩ : ∃ n, n = (trimI l cv).length := ⟨_, rfl⟩
            rw [← hnt] at hcut
            have HNT := Aside0.mk hnt
            by_cases hlast : x5 < x6
            · have c1 : decide (x5 < x6) = true := decide_eq_true hlast
              have p1 : 0 ≤ x6 := by omega
              have q1 : x6 < (l.length : Int) := by omega
              obtain ⟨ad2, e2, hx⟩ := Kd.at_int HR.out x6 p1 q1
              obtain rfl : ad = ad2 := by injection e2
              replace p1 := eq_true p1
              replace q1 := eq_true q1
              obtain ⟨v5, hv5⟩ : ∃ v, v = rd l x6 := ⟨_, rfl⟩
              rw [← hv5] at hx
              have hne : (v5 == cv) = false := beq_eq_false_iff_ne.2 (by rw [hv5]; unfold rd; rw [show x6.toNat = m - 1 by omega]; exact (HM2.out HKL.out).2)
              have hne2 : (v5 != cv) = true := bne_iff_ne.2 (by rw [hv5]; unfold rd; rw [show x6.toNat = m - 1 by omega]; exact (HM2.out HKL.out).2)
              clear hx6 hJ hK hX5 hL hkm hjm hje hx7 hA hC hnt hv5 e2 hlast hi0 hsz0
              go_wp2
              go_ret
              exact ⟨A', c0 - x5.toNat, by rw [HNT.out]; rfl, HC'.out, HA'.out, by repeat (first | exact Drawn0.refl _ | apply Drawn0.step)⟩
            · have c1 : decide (x5 < x6) = false := decide_eq_false hlast
              clear hx6 hJ hK hX5 hL hkm hjm hje hx7 hA hC hnt hlast hi0 hsz0
              go_wp2
              go_ret
              exact ⟨A', c0 - x5.toNat, by rw [HNT.out]; rfl, HC'.out, HA'.out, by repeat (first | exact Drawn0.refl _ | apply Drawn0.step)⟩
      · have c1 : decide (x5 ≤ y0) = false := decide_eq_false (by omega)
        have c2 : decide (x5 < y0) = false := decide_eq_false (by omega)
        have hw7 : wrap64 (y0 + 1) = ln := by unfold wrap64; omega
        obtain ⟨i0, hi0, _, hsz0, _⟩ := info_parts info5
        obtain ⟨A', hcut, hA, hC⟩ := print_mid_of (P := Try.prog) (Value.int .u8) 0 24 5 .i64 .i64 Try.underlying24 hi0 hsz0 A c0 l x5 ln (by omega) (by omega) (by omega) HC.out
        have HTT : Aside0 ((l.take ln.toNat).drop x5.toNat = trimI l cv) := ⟨by rw [HT.out, show ln.toNat = m by omega, show x5.toNat = k by omega]⟩
        rw [HTT.out] at hcut hC
        have HA' : Aside0 (∀ W, Kd.C (Kd.int .u8) W A l.length l → Kd.C (Kd.int .u8) W A' (trimI l cv).length (trimI l cv)) := ⟨fun W hW => by
          have := hA W (Kd.reads_of_C hW)
          rw [HTT.out] at this
          exact Kd.C_of_reads (h1 := fun _ => rfl) this⟩
        have HC' := Aside0.mk hC
        obtain ⟨nt, hnt⟩ : ∃ n, n = (trimI l cv).length := ⟨_, rfl⟩
        rw [← hnt] at hcut
        have HNT := Aside0.mk hnt
        clear hx5 hI hK hLN hY0 hL hik hie hkl hA hC hnt hi0 hsz0
        go_wp2
        go_loopw [6] (fun s6 wr => s6 = .int .i64 y0 ∧ Drawn0 w wr) (fun s6 _ => (intOf s6).toNat)
        case atStart => exact ⟨rfl, by repeat (first | exact Drawn0.refl _ | apply Drawn0.step)⟩
        case round =>
          obtain ⟨rfl, ⟨nd2, rfl⟩⟩ := hrel
          go_wp2
          go_ret
          exact ⟨A', c0 - x5.toNat, by rw [HNT.out]; rfl, HC'.out, HA'.out, by repeat (first | exact Drawn0.refl _ | apply Drawn0.step)⟩
set_option maxHeartbeats 8000000 in
set_option maxRecDepth 100000 in
theorem implTrimBytes_calls (A0 : Option Addr) (c0 : Nat) (l0 : List Int) (a1 : Int) (w : World) (hr0 : Kd.C (Kd.int .u8) w A0 l0.length l0) (hc0 : l0.length ≤ c0) (hl : l0.length < 140737488355328) :
    Calls Try.prog 16 #[.slice A0 l0.length c0, .int .u8 a1] w fun e w' => ∃ v0_ : Value, e = .returned (v0_) ∧ Kd.V (Kd.int .u8) 5 w' w.heap.size (fun k_ => w.heap.size ≤ k_) v0_ (trimI l0 a1) ∧ Below w.heap.size w w' := by
  have HR0 := Aside0.mk hr0
  have HC0 := Aside0.mk hc0
  have HL := Aside0.mk hl
  clear hr0 hc0 hl
  have HB := Aside0.mk (Below.refl w.heap.size w)
  go_enter Try.func16, Try.ntmps16
  go_wp2_with (first | ((with_reducible refine gate_dst (N := 5) rfl ?_); refine Kd.R_lit (Kd.int .u8) _ 5 ?hg (N := 5) ?hd (xs := ([] : List Int)) (inner := []) (ok := fun _ => True) (okp := fun _ => True) ?hr ?hp (fun _ hk => hk) trivial (Below.refl _ _) (Nat.le_refl _) (by simp) ?_; (case hd => rfl); (case hg => rfl); (case hr => first | (go_simp; done) | (go_simp; rfl)); (case hp => exact (Reps.none _ _)); intro v141 w4 ho5 hb hg_ hnew_; clear hg_ hnew_; have n0_ := Aside0.mk (Kd.R_lower ho5 (below_size (by repeat (first | (with_reducible first | exact HB.out | apply below_alloc | apply pw_below_drewN | apply below_drew1) | exact HB.out)))); have n1_ := Aside0.mk (below_step (by repeat (first | (with_reducible first | exact HB.out | apply below_alloc | apply pw_below_drewN | apply below_drew1) | exact HB.out)) hb); clear HB; have HO := n0_; have HB := n1_; clear n0_ n1_; clear hb ho5) | ((with_reducible refine gate_builtin (b := .append) (xs := #[.tmp 5, .tmp 6]) rfl ?_); at_builtin; refine Kd.R_append_rows (Kd.int .u8) (w0 := w) w.heap.size rfl (.tmp 5) (.tmp 6) 24 5 (.int .u8 0) 1 rfl Try.underlying24 info5 rfl (by decide) (by omega) v141 [] l0 _ _ _ (fun _ => True) (fun _ => False) rfl rfl ?aO ?aR (fun _ _ h => h) (fun _ h => h.elim) ?aF ?aB ?aS ?aL ?_; (case aR => repeat (first | exact (Kd.C_below HR0.out HB.out) | (with_reducible refine Kd.C_alloc ?_ _) | (with_reducible refine Kd.C_drewN ?_ _) | (with_reducible refine Kd.C_drew ?_))); (case aB => exact (by repeat (first | (with_reducible first | exact HB.out | apply below_alloc | apply pw_below_drewN | apply below_drew1) | exact HB.out))); (case aF => exact (fun _ _ => trivial)); (case aO => exact (by (with_reducible repeat (first | apply Kd.R_alloc | apply Kd.R_drewN | apply Kd.R_drew)); exact HO.out)); (case aS => exact (below_size (by repeat (first | (with_reducible first | exact HB.out | apply below_alloc | apply pw_below_drewN | apply below_drew1) | exact HB.out)))); (case aL => have := HL.out; simp; omega); intro v144 w6 ho hb hg hat; rw [List.nil_append] at ho; have n0_ := Aside0.mk (hb); have n1_ := Aside0.mk (Kd.R_mono (ok' := fun k_ => w.heap.size ≤ k_) (Kd.R_bound ho) (fun _ h => h.2.1)); clear HB; clear HO; have HB := n0_; have HO := n1_; clear n0_ n1_; clear ho hb hg hat; obtain ⟨Ao7, co7, eo7⟩ := Kd.R_slice HO.out; subst eo7) | ((with_reducible refine gate_callee (f := 57) rfl ?_); refine goesL_ (some 9) rfl rfl Try.func57 (by kernel_rfl) rfl #[.slice Ao7 l0.length co7, .int .u8 a1] rfl (by (try simp only [List.map_toArray, List.map_cons, List.map_nil]); first | done | rfl) ?_; refine (trimBytes_calls Ao7 co7 l0 a1 _ (Kd.R_reads' HO.out).2.2 (Kd.R_reads' HO.out).2.1 (by have := HL.out; omega)).mono ?_; rintro e wq ⟨A', c', rfl, hc', hA', ⟨nd, rfl⟩⟩; refine ⟨_, rfl, ?_⟩; have HC' := Aside0.mk hc'; have HA' := Aside0.mk hA'; clear hc' hA'))
  go_ret
  exact ⟨_, rfl, Kd.V_mk HC'.out (fun W' hW => HA'.out W' (Kd.R_F HO.out W' (fun k h1 h2 => hW k h1 h2))), (by repeat (first | (with_reducible first | exact HB.out | apply below_alloc | apply pw_below_drewN | apply below_drew1) | exact HB.out))⟩
end Go.Proofs.Ytipmmjbjgbfgjaa.Q
