/- FnCookieSays: the law's function, called with any arguments, returns true and leaves its arguments as they were: every input, no condition. Part 7 of 12. -/
import Derived.Test.YtfbllodbcmcndaaZFnCookieSays1
import Derived.Test.YtfbllodbcmcndaaZFnCookieSays5
section
namespace Go.Proofs.Ytfbllodbcmcndaa.Q
open Go.RowKit Go.Proofs.YtfbllodbcmcndaaW.PrintWords Go.Proofs.YtfbllodbcmcndaaW.PrintLast Go.Proofs.YtfbllodbcmcndaaW.PrintMore
attribute [local go_sem] max2_int min2_int max_two min_two max_three min_three max_four min_four
set_option linter.unusedVariables false
set_option linter.unusedSimpArgs false
mutual
def spec_Cleaned.j0 : Nat → List ByteArray → ByteArray → Bool → Option (ByteArray × Int)
  | 0, _, _, _ => none
  | k + 1, x4, x5, x25 => if x25 = true then (some ((⟨#[]⟩ : ByteArray), 2)) else (if 0 ≤ (wrap64 ((x4.length : Int) - 1)) then (if (wrap64 ((x4.length : Int) - 1)) ≤ (x4.length : Int) then ((some (x4.take ((wrap64 ((x4.length : Int) - 1)) : Int).toNat : List ByteArray)).bind fun y250 => (spec_Cleaned.l0 k x5 ([] : List ByteArray) y250 (y250.length : Int) 0)) else (none)) else (none))
def spec_Cleaned.l0 : Nat → ByteArray → List ByteArray → List ByteArray → Int → Int → Option (ByteArray × Int)
  | 0, _, _, _, _, _ => none
  | k + 1, x5, x6, x30, x31, x32 => if x32 < x31 then (if 0 ≤ x32 then (if x32 < (x30.length : Int) then (if (rdOf ByteArray.empty x30 x32).toList = ([] : List UInt8) then (spec_Cleaned.j2 k x5 x6 (rdOf ByteArray.empty x30 x32) x30 x31 x32 (rdOf ByteArray.empty x30 x32) ((rdOf ByteArray.empty x30 x32).toList == ([] : List UInt8))) else (spec_Cleaned.j2 k x5 x6 (rdOf ByteArray.empty x30 x32) x30 x31 x32 (rdOf ByteArray.empty x30 x32) ((rdOf ByteArray.empty x30 x32).toList == ([46] : List UInt8)))) else (none)) else (none)) else (spec_Cleaned.l1 k x5 (⟨#[47]⟩ : ByteArray) x6 (x6.length : Int) 0)
def spec_Cleaned.j2 : Nat → ByteArray → List ByteArray → ByteArray → List ByteArray → Int → Int → ByteArray → Bool → Option (ByteArray × Int)
  | 0, _, _, _, _, _, _, _, _ => none
  | k + 1, x5, x6, x8, x30, x31, x32, x36, x41 => if x41 = true then (spec_Cleaned.l0 k x5 x6 x30 x31 (wrap64 (x32 + 1))) else (if x36.toList = ([46, 46] : List UInt8) then (if 0 ≤ (mx (wrap64 ((x6.length : Int) - 1)) 0) then (if (mx (wrap64 ((x6.length : Int) - 1)) 0) ≤ (x6.length : Int) then (spec_Cleaned.l0 k x5 (x6.take ((mx (wrap64 ((x6.length : Int) - 1)) 0) : Int).toNat) x30 x31 (wrap64 (x32 + 1))) else (none)) else (none)) else (if x6.length < 8796093022208 then (spec_Cleaned.l0 k x5 (x6 ++ [x8]) x30 x31 (wrap64 (x32 + 1))) else (none)))
def spec_Cleaned.l1 : Nat → ByteArray → ByteArray → List ByteArray → Int → Int → Option (ByteArray × Int)
  | 0, _, _, _, _, _ => none
  | k + 1, x5, x9, x53, x54, x55 => if x55 < x54 then (if 0 ≤ x55 then (if x55 < (x53.length : Int) then (if (rdOf ByteArray.empty x53 x55).size + 1 ≤ 9223372036854775807 then (if x9.size + ((rdOf ByteArray.empty x53 x55).size + 1) ≤ 9223372036854775807 then (spec_Cleaned.l1 k x5 (x9 ++ ((rdOf ByteArray.empty x53 x55) ++ (⟨#[47]⟩ : ByteArray))) x53 x54 (wrap64 (x55 + 1))) else (none)) else (none)) else (none)) else (none)) else (if x9.size + x5.size ≤ 9223372036854775807 then (some (x9 ++ x5, 1)) else (none))
end
def spec_Cleaned.f (k : Nat) (a0 : ByteArray) : Option (ByteArray × Int) := (spec_split.f k a0 47).bind fun t246 => (if 0 ≤ (wrap64 ((t246.length : Int) - 1)) then (if (wrap64 ((t246.length : Int) - 1)) < (t246.length : Int) then (if (rdOf ByteArray.empty t246 (wrap64 ((t246.length : Int) - 1))).toList = ([46] : List UInt8) then (spec_Cleaned.j0 k t246 (rdOf ByteArray.empty t246 (wrap64 ((t246.length : Int) - 1))) true) else (spec_Cleaned.j0 k t246 (rdOf ByteArray.empty t246 (wrap64 ((t246.length : Int) - 1))) ((rdOf ByteArray.empty t246 (wrap64 ((t246.length : Int) - 1))).toList == ([46, 46] : List UInt8)))) else (none)) else (none))
set_option maxHeartbeats 8000000 in
set_option maxRecDepth 100000 in
theorem spec_Cleaned.calls (k : Nat) (a0 : ByteArray) (r1 : ByteArray) (r2 : Int) (w : World) (h : spec_Cleaned.f k a0 = some (r1, r2)) :
    Calls Try.prog 84 #[.string a0] w fun e w' => e = .returned (.tuple #[.string r1, .int .i64 r2]) ∧ Below w.heap.size w w' := by
  have HB := Aside0.mk (Below.refl w.heap.size w)
  have H : ((spec_split.f k a0 47).bind fun t246 => (if 0 ≤ (wrap64 ((t246.length : Int) - 1)) then (if (wrap64 ((t246.length : Int) - 1)) < (t246.length : Int) then (if (rdOf ByteArray.empty t246 (wrap64 ((t246.length : Int) - 1))).toList = ([46] : List UInt8) then (spec_Cleaned.j0 k t246 (rdOf ByteArray.empty t246 (wrap64 ((t246.length : Int) - 1))) true) else (spec_Cleaned.j0 k t246 (rdOf ByteArray.empty t246 (wrap64 ((t246.length : Int) - 1))) ((rdOf ByteArray.empty t246 (wrap64 ((t246.length : Int) - 1))).toList == ([46, 46] : List UInt8)))) else (none)) else (none))) = some (r1, r2) := h
  clear h
  replace H := Option.bind_eq_some_iff.mp H
  obtain ⟨t246, A20, H⟩ := H
  replace H : (if 0 ≤ (wrap64 ((t246.length : Int) - 1)) then (if (wrap64 ((t246.length : Int) - 1)) < (t246.length : Int) then (if (rdOf ByteArray.empty t246 (wrap64 ((t246.length : Int) - 1))).toList = ([46] : List UInt8) then (spec_Cleaned.j0 k t246 (rdOf ByteArray.empty t246 (wrap64 ((t246.length : Int) - 1))) true) else (spec_Cleaned.j0 k t246 (rdOf ByteArray.empty t246 (wrap64 ((t246.length : Int) - 1))) ((rdOf ByteArray.empty t246 (wrap64 ((t246.length : Int) - 1))).toList == ([46, 46] : List UInt8)))) else (none)) else (none)) = some (r1, r2) := H
  have A2 := Aside0.mk A20
  clear A20
  obtain ⟨ji3, hji3⟩ : ∃ j_ : Int, (wrap64 ((t246.length : Int) - 1)) = j_ := ⟨_, rfl⟩
  replace H : (if 0 ≤ (ji3) then (if (ji3) < (t246.length : Int) then (if (rdOf ByteArray.empty t246 (ji3)).toList = ([46] : List UInt8) then (spec_Cleaned.j0 k t246 (rdOf ByteArray.empty t246 (ji3)) true) else (spec_Cleaned.j0 k t246 (rdOf ByteArray.empty t246 (ji3)) ((rdOf ByteArray.empty t246 (ji3)).toList == ([46, 46] : List UInt8)))) else (none)) else (none)) = some (r1, r2) := by first | (rw [hji3] at H; exact H) | (simp only [hji3] at H ⊢; exact H)
  (try rw [hji3] at A2)
  have hji3w : (IntKind.i64.wrap ((t246.length : Int) - 1)) = ji3 := (i64_w _).trans hji3
  by_cases c4 : 0 ≤ (ji3)
  · rw [if_pos c4] at H
    have c4b0 : decide (0 ≤ (ji3)) = true := decide_eq_true c4
    clear c4
    by_cases c5 : (ji3) < (t246.length : Int)
    · rw [if_pos c5] at H
      have c5b0 : decide ((ji3) < (t246.length : Int)) = true := decide_eq_true c5
      clear c5
      have HC6 := Aside0.mk H
      clear H
      go_enter Try.func84, Try.ntmps84
      go_upto_region 3 with (first | ((with_reducible refine gate_callee (f := 78) rfl ?_); refine goesL_ (some 13) rfl rfl Try.func78 (by kernel_rfl) rfl #[.string a0, .int .u8 47] rfl (by (try simp only [List.map_toArray, List.map_cons, List.map_nil]); first | done | rfl | (simp only [List.length_drop, List.length_take]; rfl)) ?_; (with_reducible refine (spec_split.calls k a0 47 t246 _ A2.out).mono ?_); rintro e w7 ⟨v247, rfl, ho0, hb⟩; refine ⟨_, rfl, ?_⟩; have n0_ := Aside0.mk (Kd.R_lower ho0 (below_size (by repeat (first | (with_reducible first | exact HB.out | apply below_alloc | apply pw_below_drewN | apply below_drew1) | exact HB.out)))); have n1_ := Aside0.mk (below_step (by repeat (first | (with_reducible first | exact HB.out | apply below_alloc | apply pw_below_drewN | apply below_drew1) | exact HB.out)) hb); clear HB; have HO248 := n0_; have HB := n1_; clear n0_ n1_; (try clear hb); (try clear hb2); (try clear hk); (try clear hi); (try clear ho0); obtain ⟨Ao8, co8, eo8⟩ := Kd.R_slice HO248.out; subst eo8; have p249 : 0 ≤ ((ji3) : Int) := of_decide_eq_true (by first | (with_reducible assumption) | assumption); have q249 : (ji3) < (t246.length : Int) := of_decide_eq_true (by first | (with_reducible assumption) | assumption); obtain ⟨ad249, e249, hx249_0⟩ := Kd.at_string (Kd.R_reads' HO248.out).2.2 (ji3) p249 q249; cases e249; replace p249 := eq_true p249; replace q249 := eq_true q249))
      (try simp only [Act.put, List.setIfInBounds_toArray, List.set_cons_zero, List.set_cons_succ])
      go_cut [25] (fun v25 wc => ∃ (kq : Nat) (x25_5 : Bool), v25 = .bool x25_5 ∧ Aside0 (spec_Cleaned.j0 kq t246 (rdOf ByteArray.empty t246 (ji3)) x25_5 = some (r1, r2)) ∧ Aside0 (kq ≤ k) ∧ Aside0 (Kd.R Kd.string 9 wc w.heap.size (fun _ => True) (.slice (some ad249) t246.length co8) t246) ∧ Aside0 (Below w.heap.size w wc))
      case first =>
        have H := HC6.out
        clear HC6
        by_cases c9 : (rdOf ByteArray.empty t246 (ji3)).toList = ([46] : List UInt8)
        · rw [if_pos c9] at H
          have c9b0 : ((rdOf ByteArray.empty t246 (ji3)).toList == ([46] : List UInt8)) = true := beq_iff_eq.mpr c9
          have c9b1 : ((rdOf ByteArray.empty t246 (ji3)).toList != ([46] : List UInt8)) = false := bne_eq_false_iff_eq.mpr c9
          clear c9
          (first | rw [c9b0] | (simp only [i64_w, i32_w]; rw [c9b0]) | (rw [Go.Proofs.YtfbllodbcmcndaaX.isEmpty_eq]; rw [c9b0]) | skip)
          have H' := Aside0.mk H
          clear H
          go_wp2
          go_meet
          case rel => exact ⟨_, (true), (by first | rfl | (simp; done) | (simp [*]; done) | (simp [Go.Proofs.YtfbllodbcmcndaaX.isEmpty_ne]; done)), H', ⟨by first | omega | exact Nat.le_refl _⟩, ⟨by (with_reducible repeat (first | apply Kd.R_alloc | apply Kd.R_drewN | apply Kd.R_drew)); exact HO248.out⟩, ⟨by repeat (first | (with_reducible first | exact HB.out | apply below_alloc | apply pw_below_drewN | apply below_drew1) | exact HB.out)⟩⟩
        · rw [if_neg c9] at H
          have c9b0 : ((rdOf ByteArray.empty t246 (ji3)).toList == ([46] : List UInt8)) = false := beq_eq_false_iff_ne.mpr c9
          have c9b1 : ((rdOf ByteArray.empty t246 (ji3)).toList != ([46] : List UInt8)) = true := bne_iff_ne.mpr c9
          (first | rw [c9b0] | (simp only [i64_w, i32_w]; rw [c9b0]) | (rw [Go.Proofs.YtfbllodbcmcndaaX.isEmpty_eq]; rw [c9b0]) | skip)
          have H' := Aside0.mk H
          clear H
          go_wp2
          go_meet
          case rel => exact ⟨_, (((rdOf ByteArray.empty t246 (ji3)).toList == ([46, 46] : List UInt8))), (by first | rfl | (simp; done) | (simp only [← hji3] <;> (first | rfl | simp)) | (simp [*]; done) | (simp [Go.Proofs.YtfbllodbcmcndaaX.isEmpty_ne]; done)), H', ⟨by first | omega | exact Nat.le_refl _⟩, ⟨by (with_reducible repeat (first | apply Kd.R_alloc | apply Kd.R_drewN | apply Kd.R_drew)); exact HO248.out⟩, ⟨by repeat (first | (with_reducible first | exact HB.out | apply below_alloc | apply pw_below_drewN | apply below_drew1) | exact HB.out)⟩⟩
      case rest =>
        clear HC6
        try clear p2
        try clear q2
        try clear hx2
        try clear c4
        try clear c4b0
        try clear c5
        try clear c5b0
        try clear p6
        try clear c7
        try clear c8
        try clear c9
        try clear c9b0
        try clear c9b1
        try clear hx249_0
        try clear p249
        try clear q249
        obtain ⟨kq, x25_5, rfl, HA, HJ5, HO_4, HB⟩ := hcut
        cases kq with
        | zero => exact absurd HA.out (by simp [spec_Cleaned.j0])
        | succ kj5 =>
          have H := HA.out
          clear HA
          simp only [spec_Cleaned.j0] at H
          by_cases c10 : x25_5 = true
          · subst c10
            have H1 : (some ((⟨#[]⟩ : ByteArray), 2)) = some (r1, r2) := by rw [if_pos rfl] at H; exact H
            clear H
            have H := H1
            clear H1
            simp only [Option.some.injEq, Prod.mk.injEq] at H
            obtain ⟨rfl, rfl⟩ := H
            go_wp2
            go_ret2
            exact ⟨by first | rfl | (simp [errW_none, errW_some] <;> rfl) | (simp only [← hji3]; first | rfl | (simp [errW_none, errW_some] <;> rfl)) | (simp [*, errW_none, errW_some] <;> rfl), by repeat (first | (with_reducible first | exact HB.out | apply below_alloc | apply pw_below_drewN | apply below_drew1) | exact HB.out)⟩
          · replace c10 := Bool.eq_false_iff.mpr c10
            subst c10
            have H1 : (if 0 ≤ (wrap64 ((t246.length : Int) - 1)) then (if (wrap64 ((t246.length : Int) - 1)) ≤ (t246.length : Int) then ((some (t246.take ((wrap64 ((t246.length : Int) - 1)) : Int).toNat : List ByteArray)).bind fun y250 => (spec_Cleaned.l0 kj5 (rdOf ByteArray.empty t246 (ji3)) ([] : List ByteArray) y250 (y250.length : Int) 0)) else (none)) else (none)) = some (r1, r2) := by rw [if_neg (show ¬ (false = true) by decide)] at H; exact H
            clear H
            have H := H1
            clear H1
            obtain ⟨ji11, hji11⟩ : ∃ j_ : Int, (wrap64 ((t246.length : Int) - 1)) = j_ := ⟨_, rfl⟩
            replace H : (if 0 ≤ (ji11) then (if (ji11) ≤ (t246.length : Int) then ((some (t246.take ((ji11) : Int).toNat : List ByteArray)).bind fun y250 => (spec_Cleaned.l0 kj5 (rdOf ByteArray.empty t246 (ji3)) ([] : List ByteArray) y250 (y250.length : Int) 0)) else (none)) else (none)) = some (r1, r2) := by first | (rw [hji11] at H; exact H) | (simp only [hji11] at H ⊢; exact H)
            have hji11w : (IntKind.i64.wrap ((t246.length : Int) - 1)) = ji11 := (i64_w _).trans hji11
            by_cases c12 : 0 ≤ (ji11)
            · rw [if_pos c12] at H
              have c12b0 := eq_true c12
              have c12b1 : decide (0 ≤ (ji11)) = true := decide_eq_true c12
              clear c12
              by_cases c13 : (ji11) ≤ (t246.length : Int)
              · rw [if_pos c13] at H
                have c13b0 := eq_true c13
                have c13b1 : decide ((ji11) ≤ (t246.length : Int)) = true := decide_eq_true c13
                clear c13
                obtain ⟨y250, hy250⟩ : ∃ y_ : List ByteArray, y_ = (t246.take ((ji11) : Int).toNat) := ⟨_, rfl⟩
                replace H : (spec_Cleaned.l0 kj5 (rdOf ByteArray.empty t246 (ji3)) ([] : List ByteArray) y250 (y250.length : Int) 0) = some (r1, r2) := by first | (rw [hy250]; with_reducible exact H) | (have H2_ := (Option.bind_some _ _).symm.trans H; rw [hy250]; with_reducible exact H2_) | (have H2_ := (Option.bind_some _ _).symm.trans H; with_reducible exact H2_) | with_reducible exact H | (rw [hy250]; exact H) | exact H
                have Ny250 := Aside0.mk hy250
                clear hy250
                have H' := Aside0.mk H
                clear H
                have q14 : ((ji11) : Int) ≤ ((t246.length : Int) : Int) := of_decide_eq_true (by first | (with_reducible assumption) | assumption)
                obtain ⟨i014, hi014, _, hsz14, _⟩ := info_parts info9
                have hroom14 : t246.length ≤ co8 := (Kd.R_reads' HO_4.out).2.1
                have hC14 : Kd.C Kd.string _ (some ad249) t246.length t246 := (Kd.R_reads' HO_4.out).2.2
                have hcut14 := cut_to (P := Try.prog) 41 9 .i64 Try.underlying41 hi014 (some ad249) t246.length co8 (ji11) (of_decide_eq_true (by first | (with_reducible assumption) | assumption)) q14 hroom14
                have hr14 := Kd.C_take (m := ((ji11) : Int).toNat) hC14 (by omega)
                have hy14 : y250.length = ((ji11) : Int).toNat := (by rw [Ny250.out, List.length_take]; omega)
                rw [← Ny250.out] at hr14
                rw [← hy14] at hcut14
                have HR253 := Aside0.mk hr14
                have HC253 := Aside0.mk (show y250.length ≤ co8 from by omega)
                obtain ⟨wz, hwz⟩ : ∃ wz, wz = wc := ⟨_, rfl⟩
                subst hwz
                have HBO := HB
                clear HB
                have HB := Aside0.mk (Below.refl wz.heap.size wz)
                clear hr14 hC14 hroom14 hi014 hsz14
                have KY14 := Aside0.mk hy14
                clear hy14
                have KL14 := Aside0.mk (show ((ji11) : Int).toNat ≤ t246.length from by omega)
                replace q14 := eq_true q14
                try (rw [show ji11 = ji3 from hji11.symm.trans hji3] at hcut14)
                go_wp2
                go_loopg [6, 32] kj5 (fun kq v6 v32 w' => ∃ (x6_2 : List ByteArray) (x32_2 : Int), v32 = .int .i64 x32_2 ∧ Aside0 (spec_Cleaned.l0 kq (rdOf ByteArray.empty t246 (ji3)) x6_2 y250 (y250.length : Int) x32_2 = some (r1, r2)) ∧ Aside0 (kq ≤ kj5) ∧ Aside0 (Kd.R Kd.string 9 w' wz.heap.size (fun _ => True) v6 x6_2) ∧ Aside0 (Below wz.heap.size wz w'))
                case atStart => exact ⟨(([] : List ByteArray)), (0), (by first | rfl | (simp; done) | (simp [*]; done) | (simp [Go.Proofs.YtfbllodbcmcndaaX.isEmpty_ne]; done)), H', ⟨Nat.le_refl _⟩, ⟨by first | exact Kd.R_nil _ _ _ _ _ | exact Kd.N_nil _ _ _ _ _ | exact Kd.V_nil _ _ _ _ _ | exact Kd.Q_nil _ _ _ _ _ | exact Kd.S_nil _ _ _ _ _⟩, ⟨by repeat (first | (with_reducible first | exact HB.out | apply below_alloc | apply pw_below_drewN | apply below_drew1) | exact HB.out)⟩⟩
                case round =>
                  clear H'
                  try clear c1
                  try clear q1
                  try clear p2
                  try clear q2
                  try clear hx2
                  try clear c4
                  try clear c4b0
                  try clear c5
                  try clear c5b0
                  try clear p6
                  try clear c7
                  try clear c8
                  try clear c9
                  try clear c9b0
                  try clear c9b1
                  try clear c10
                  try clear c12
                  try clear c12b0
                  try clear c12b1
                  try clear c13
                  try clear c13b0
                  try clear c13b1
                  try clear q14
                  try clear hx249_0
                  try clear p2
                  try clear p249
                  try clear p6
                  try clear q14
                  try clear q2
                  try clear q249
                  obtain ⟨x6_2, x32_2, rfl, HA, HK2, HO_6, HB⟩ := hrel
                  cases gk with
                  | zero => exact absurd HA.out (by simp [spec_Cleaned.l0])
                  | succ k2 =>
                    have H := HA.out
                    clear HA
                    simp only [spec_Cleaned.l0] at H
                    by_cases c15 : x32_2 < (y250.length : Int)
                    · rw [if_pos c15] at H
                      have c15b0 : decide (x32_2 < (y250.length : Int)) = true := decide_eq_true c15
                      clear c15
                      by_cases c16 : 0 ≤ x32_2
                      · rw [if_pos c16] at H
                        have c16b0 : decide (0 ≤ x32_2) = true := decide_eq_true c16
                        clear c16
                        by_cases c17 : x32_2 < (y250.length : Int)
                        · rw [if_pos c17] at H
                          have c17b0 : decide (x32_2 < (y250.length : Int)) = true := decide_eq_true c17
                          clear c17
                          have HC18 := Aside0.mk H
                          clear H
                          have p254 : 0 ≤ (x32_2 : Int) := of_decide_eq_true (by first | (with_reducible assumption) | assumption)
                          have q254 : x32_2 < (y250.length : Int) := of_decide_eq_true (by first | (with_reducible assumption) | assumption)
                          obtain ⟨ad254, e254, hx254_0⟩ := Kd.at_string HR253.out x32_2 p254 q254
                          obtain rfl : ad249 = ad254 := (by injection e254)
                          replace hx254_0 := (HB.out.cell (World.block_lt_of_cell? wz _ hx254_0)).trans hx254_0
                          replace p254 := eq_true p254
                          replace q254 := eq_true q254
                          try (rw [show ji11 = ji3 from hji11.symm.trans hji3] at hcut254)
                          go_upto_if 41 with (fail)
                          go_cut [41] (fun v41 wc => ∃ (kq : Nat) (x41_17 : Bool), v41 = .bool x41_17 ∧ Aside0 (spec_Cleaned.j2 kq (rdOf ByteArray.empty t246 (ji3)) x6_2 (rdOf ByteArray.empty y250 x32_2) y250 (y250.length : Int) x32_2 (rdOf ByteArray.empty y250 x32_2) x41_17 = some (r1, r2)) ∧ Aside0 (kq ≤ k2) ∧ Aside0 (Kd.R Kd.string 9 wc wz.heap.size (fun _ => True) u6 x6_2) ∧ Aside0 (Below wz.heap.size wz wc))
                          case first =>
                            have H := HC18.out
                            clear HC18
                            by_cases c19 : (rdOf ByteArray.empty y250 x32_2).toList = ([] : List UInt8)
                            · rw [if_pos c19] at H
                              have c19b0 : ((rdOf ByteArray.empty y250 x32_2).toList == ([] : List UInt8)) = true := beq_iff_eq.mpr c19
                              have c19b1 : ((rdOf ByteArray.empty y250 x32_2).toList != ([] : List UInt8)) = false := bne_eq_false_iff_eq.mpr c19
                              clear c19
                              (first | rw [c19b0] | (simp only [i64_w, i32_w]; rw [c19b0]) | (rw [Go.Proofs.YtfbllodbcmcndaaX.isEmpty_eq]; rw [c19b0]) | skip)
                              have H' := Aside0.mk H
                              clear H
                              go_wp2
                              go_meet
                              case rel => exact ⟨_, (((rdOf ByteArray.empty y250 x32_2).toList == ([] : List UInt8))), (by first | rfl | (simp; done) | (simp [*]; done) | (simp [Go.Proofs.YtfbllodbcmcndaaX.isEmpty_ne]; done)), H', ⟨by have := HJ5.out; have := HK2.out; first | omega | exact Nat.le_refl _⟩, ⟨by (with_reducible repeat (first | apply Kd.R_alloc | apply Kd.R_drewN | apply Kd.R_drew)); exact HO_6.out⟩, ⟨by repeat (first | (with_reducible first | exact HB.out | apply below_alloc | apply pw_below_drewN | apply below_drew1) | exact HB.out)⟩⟩
                            · rw [if_neg c19] at H
                              have c19b0 : ((rdOf ByteArray.empty y250 x32_2).toList == ([] : List UInt8)) = false := beq_eq_false_iff_ne.mpr c19
                              have c19b1 : ((rdOf ByteArray.empty y250 x32_2).toList != ([] : List UInt8)) = true := bne_iff_ne.mpr c19
                              (first | rw [c19b0] | (simp only [i64_w, i32_w]; rw [c19b0]) | (rw [Go.Proofs.YtfbllodbcmcndaaX.isEmpty_eq]; rw [c19b0]) | skip)
                              have H' := Aside0.mk H
                              clear H
                              go_wp2
                              go_meet
                              case rel => exact ⟨_, (((rdOf ByteArray.empty y250 x32_2).toList == ([46] : List UInt8))), (by first | rfl | (simp; done) | (simp [*]; done) | (simp [Go.Proofs.YtfbllodbcmcndaaX.isEmpty_ne]; done)), H', ⟨by have := HJ5.out; have := HK2.out; first | omega | exact Nat.le_refl _⟩, ⟨by (with_reducible repeat (first | apply Kd.R_alloc | apply Kd.R_drewN | apply Kd.R_drew)); exact HO_6.out⟩, ⟨by repeat (first | (with_reducible first | exact HB.out | apply below_alloc | apply pw_below_drewN | apply below_drew1) | exact HB.out)⟩⟩
                          case rest =>
                            clear HC18
                            try clear c1
                            try clear q1
                            try clear p2
                            try clear q2
                            try clear hx2
                            try clear c4
                            try clear c4b0
                            try clear c5
                            try clear c5b0
                            try clear p6
                            try clear c7
                            try clear c8
                            try clear c9
                            try clear c9b0
                            try clear c9b1
                            try clear c10
                            try clear c12
                            try clear c12b0
                            try clear c12b1
                            try clear c13
                            try clear c13b0
                            try clear c13b1
                            try clear q14
                            try clear c15
                            try clear c15b0
                            try clear c16
                            try clear c16b0
                            try clear c17
                            try clear c17b0
                            try clear c19
                            try clear c19b0
                            try clear c19b1
                            try clear hx249_0
                            try clear hx254_0
                            try clear p2
                            try clear p249
                            try clear p254
                            try clear p6
                            try clear q1
                            try clear q14
                            try clear q2
                            try clear q249
                            try clear q254
                            obtain ⟨kq, x41_17, rfl, HA, HJ17, HO_6, HB⟩ := hcut
                            cases kq with
                            | zero => exact absurd HA.out (by simp [spec_Cleaned.j2])
                            | succ kj17 =>
                              have H := HA.out
                              clear HA
                              simp only [spec_Cleaned.j2] at H
                              by_cases c20 : x41_17 = true
                              · subst c20
                                have H1 : (spec_Cleaned.l0 kj17 (rdOf ByteArray.empty t246 (ji3)) x6_2 y250 (y250.length : Int) (wrap64 (x32_2 + 1))) = some (r1, r2) := by rw [if_pos rfl] at H; exact H
                                clear H
                                have H := H1
                                clear H1
                                have H' := Aside0.mk H
                                clear H
                                go_wp2
                                go_roundg kj17
                                case measure => have := HJ5.out; have := HK2.out; have := HJ17.out; omega
                                case rel => exact ⟨(x6_2), (wrap64 (x32_2 + 1)), (by first | rfl | (simp; done) | (simp [*]; done) | (simp [Go.Proofs.YtfbllodbcmcndaaX.isEmpty_ne]; done)), H', ⟨by have := HJ5.out; have := HK2.out; have := HJ17.out; omega⟩, ⟨by (with_reducible repeat (first | apply Kd.R_alloc | apply Kd.R_drewN | apply Kd.R_drew)); exact HO_6.out⟩, ⟨by repeat (first | (with_reducible first | exact HB.out | apply below_alloc | apply pw_below_drewN | apply below_drew1) | exact HB.out)⟩⟩
                              · replace c20 := Bool.eq_false_iff.mpr c20
                                subst c20
                                have H1 : (if (rdOf ByteArray.empty y250 x32_2).toList = ([46, 46] : List UInt8) then (if 0 ≤ (mx (wrap64 ((x6_2.length : Int) - 1)) 0) then (if (mx (wrap64 ((x6_2.length : Int) - 1)) 0) ≤ (x6_2.length : Int) then (spec_Cleaned.l0 kj17 (rdOf ByteArray.empty t246 (ji3)) (x6_2.take ((mx (wrap64 ((x6_2.length : Int) - 1)) 0) : Int).toNat) y250 (y250.length : Int) (wrap64 (x32_2 + 1))) else (none)) else (none)) else (if x6_2.length < 8796093022208 then (spec_Cleaned.l0 kj17 (rdOf ByteArray.empty t246 (ji3)) (x6_2 ++ [(rdOf ByteArray.empty y250 x32_2)]) y250 (y250.length : Int) (wrap64 (x32_2 + 1))) else (none))) = some (r1, r2) := by rw [if_neg (show ¬ (false = true) by decide)] at H; exact H
                                clear H
                                have H := H1
                                clear H1
                                by_cases c21 : (rdOf ByteArray.empty y250 x32_2).toList = ([46, 46] : List UInt8)
                                · rw [if_pos c21] at H
                                  have c21b0 : ((rdOf ByteArray.empty y250 x32_2).toList == ([46, 46] : List UInt8)) = true := beq_iff_eq.mpr c21
                                  have c21b1 : ((rdOf ByteArray.empty y250 x32_2).toList != ([46, 46] : List UInt8)) = false := bne_eq_false_iff_eq.mpr c21
                                  clear c21
                                  obtain ⟨ji22, hji22⟩ : ∃ j_ : Int, (mx (wrap64 ((x6_2.length : Int) - 1)) 0) = j_ := ⟨_, rfl⟩
                                  replace H : (if 0 ≤ (ji22) then (if (ji22) ≤ (x6_2.length : Int) then (spec_Cleaned.l0 kj17 (rdOf ByteArray.empty t246 (ji3)) (x6_2.take ((ji22) : Int).toNat) y250 (y250.length : Int) (wrap64 (x32_2 + 1))) else (none)) else (none)) = some (r1, r2) := by first | (rw [hji22] at H; exact H) | (simp only [hji22] at H ⊢; exact H)
                                  have hji22_ : (if (wrap64 ((x6_2.length : Int) - 1)) < 0 then 0 else (wrap64 ((x6_2.length : Int) - 1))) = ji22 := hji22
                                  by_cases c23 : 0 ≤ (ji22)
                                  · rw [if_pos c23] at H
                                    have c23b0 := eq_true c23
                                    have c23b1 : decide (0 ≤ (ji22)) = true := decide_eq_true c23
                                    clear c23
                                    by_cases c24 : (ji22) ≤ (x6_2.length : Int)
                                    · rw [if_pos c24] at H
                                      have c24b0 := eq_true c24
                                      have c24b1 : decide ((ji22) ≤ (x6_2.length : Int)) = true := decide_eq_true c24
                                      clear c24
                                      obtain ⟨y255, hy255⟩ : ∃ y_ : List ByteArray, y_ = (x6_2.take ((ji22) : Int).toNat) := ⟨_, rfl⟩
                                      replace H : (spec_Cleaned.l0 kj17 (rdOf ByteArray.empty t246 (ji3)) y255 y250 (y250.length : Int) (wrap64 (x32_2 + 1))) = some (r1, r2) := by first | (rw [hy255]; with_reducible exact H) | (have H2_ := (Option.bind_some _ _).symm.trans H; rw [hy255]; with_reducible exact H2_) | (have H2_ := (Option.bind_some _ _).symm.trans H; with_reducible exact H2_) | with_reducible exact H | (rw [hy255]; exact H) | exact H
                                      have Ny255 := Aside0.mk hy255
                                      clear hy255
                                      have H' := Aside0.mk H
                                      clear H
                                      obtain ⟨Ao25, co25, eo25⟩ := Kd.R_slice HO_6.out
                                      subst eo25
                                      have q26 : ((ji22) : Int) ≤ ((x6_2.length : Int) : Int) := of_decide_eq_true (by first | (with_reducible assumption) | assumption)
                                      obtain ⟨i026, hi026, _, hsz26, _⟩ := info_parts info9
                                      have hcut26 := cut_to (P := Try.prog) 41 9 .i64 Try.underlying41 hi026 Ao25 x6_2.length co25 (ji22) (of_decide_eq_true (by first | (with_reducible assumption) | assumption)) q26 (Kd.R_reads' HO_6.out).2.1
                                      have hr26 := Kd.R_take (m := ((ji22) : Int).toNat) HO_6.out (by omega)
                                      have hy26 : y255.length = ((ji22) : Int).toNat := (by rw [Ny255.out, List.length_take]; omega)
                                      rw [← Ny255.out] at hr26
                                      rw [← hy26] at hr26 hcut26
                                      clear hy26 hi026 hsz26 HO_6
                                      have HO257 := Aside0.mk hr26
                                      clear hr26
                                      replace q26 := eq_true q26
                                      try (rw [show ji11 = ji3 from hji11.symm.trans hji3] at hcut26)
                                      go_wp2
                                      go_roundg kj17
                                      case measure => have := HJ5.out; have := HK2.out; have := HJ17.out; omega
                                      case rel => exact ⟨(y255), (wrap64 (x32_2 + 1)), (by first | rfl | (simp; done) | (simp [*]; done) | (simp [Go.Proofs.YtfbllodbcmcndaaX.isEmpty_ne]; done)), H', ⟨by have := HJ5.out; have := HK2.out; have := HJ17.out; omega⟩, ⟨by (with_reducible repeat (first | apply Kd.R_alloc | apply Kd.R_drewN | apply Kd.R_drew)); exact HO257.out⟩, ⟨by repeat (first | (with_reducible first | exact HB.out | apply below_alloc | apply pw_below_drewN | apply below_drew1) | exact HB.out)⟩⟩
                                    · rw [if_neg c24] at H
                                      exact absurd H (by simp)
                                  · rw [if_neg c23] at H
                                    exact absurd H (by simp)
                                · rw [if_neg c21] at H
                                  have c21b0 : ((rdOf ByteArray.empty y250 x32_2).toList == ([46, 46] : List UInt8)) = false := beq_eq_false_iff_ne.mpr c21
                                  have c21b1 : ((rdOf ByteArray.empty y250 x32_2).toList != ([46, 46] : List UInt8)) = true := bne_iff_ne.mpr c21
                                  by_cases c27 : x6_2.length < 8796093022208
                                  · rw [if_pos c27] at H
                                    have LMc27 := Aside0.mk c27
                                    clear c27
                                    obtain ⟨y258, hy258⟩ : ∃ y_ : List ByteArray, y_ = (x6_2 ++ [(rdOf ByteArray.empty y250 x32_2)]) := ⟨_, rfl⟩
                                    replace H : (spec_Cleaned.l0 kj17 (rdOf ByteArray.empty t246 (ji3)) y258 y250 (y250.length : Int) (wrap64 (x32_2 + 1))) = some (r1, r2) := by first | (rw [hy258]; with_reducible exact H) | (have H2_ := (Option.bind_some _ _).symm.trans H; rw [hy258]; with_reducible exact H2_) | (have H2_ := (Option.bind_some _ _).symm.trans H; with_reducible exact H2_) | with_reducible exact H | (rw [hy258]; exact H) | exact H
                                    have Ny258 := Aside0.mk hy258
                                    clear hy258
                                    have H' := Aside0.mk H
                                    clear H
                                    go_wp2_with (first | ((with_reducible refine gate_builtin (b := .append) (xs := #[.tmp 37, .tmp 39]) rfl ?_); at_builtin; refine Kd.R_append Kd.string (w0 := wz) wz.heap.size rfl (.tmp 37) (.tmp 39) 41 9 (.string ⟨#[]⟩) 16 rfl Try.underlying41 info9 rfl (by decide) (by omega) u6 x6_2 (rdOf ByteArray.empty y250 x32_2) [.string (rdOf ByteArray.empty y250 x32_2)] (fun _ => True) (fun _ => False) rfl rfl ?aP (fun _ hk => hk.elim) ?aF ?aO ?aB ?aS ?aL ?_; (case aP => exact rfl); (case aB => exact (by repeat (first | (with_reducible first | exact HB.out | apply below_alloc | apply pw_below_drewN | apply below_drew1) | exact HB.out))); (case aF => exact (fun _ _ => trivial)); (case aO => exact (by (with_reducible repeat (first | apply Kd.R_alloc | apply Kd.R_drewN | apply Kd.R_drew)); exact HO_6.out)); (case aS => exact (below_size (by repeat (first | (with_reducible first | exact HB.out | apply below_alloc | apply pw_below_drewN | apply below_drew1) | exact HB.out)))); (case aL => have := LMc27.out; omega); intro v259 w28 ho hb hg hat; rw [← Ny258.out] at ho; have n0_ := Aside0.mk (hb); have n1_ := Aside0.mk (ho); clear HB; clear HO_6; have HB := n0_; have HO260 := n1_; clear n0_ n1_; clear ho hb hg hat))
                                    go_roundg kj17
                                    case measure => have := HJ5.out; have := HK2.out; have := HJ17.out; omega
                                    case rel => exact ⟨(y258), (wrap64 (x32_2 + 1)), (by first | rfl | (simp; done) | (simp [*]; done) | (simp [Go.Proofs.YtfbllodbcmcndaaX.isEmpty_ne]; done)), H', ⟨by have := HJ5.out; have := HK2.out; have := HJ17.out; omega⟩, ⟨by (with_reducible repeat (first | apply Kd.R_alloc | apply Kd.R_drewN | apply Kd.R_drew)); exact HO260.out⟩, ⟨by repeat (first | (with_reducible first | exact HB.out | apply below_alloc | apply pw_below_drewN | apply below_drew1) | exact HB.out)⟩⟩
                                  · rw [if_neg c27] at H
                                    exact absurd H (by simp)
                        · rw [if_neg c17] at H
                          exact absurd H (by simp)
                      · rw [if_neg c16] at H
                        exact absurd H (by simp)
                    · rw [if_neg c15] at H
                      have c15b0 : decide (x32_2 < (y250.length : Int)) = false := decide_eq_false c15
                      clear c15
                      have H' := Aside0.mk H
                      clear H
                      obtain ⟨Ao29, co29, eo29⟩ := Kd.R_slice HO_6.out
                      subst eo29
                      go_wp2
                      go_loopg [9, 55] k2 (fun kq v9 v55 w' => ∃ (x9_3 : ByteArray) (x55_3 : Int), v9 = .string x9_3 ∧ v55 = .int .i64 x55_3 ∧ Aside0 (spec_Cleaned.l1 kq (rdOf ByteArray.empty t246 (ji3)) x9_3 x6_2 (x6_2.length : Int) x55_3 = some (r1, r2)) ∧ Aside0 (kq ≤ k2) ∧ Aside0 (Kd.R Kd.string 9 w' wz.heap.size (fun _ => True) (.slice Ao29 x6_2.length co29) x6_2) ∧ Aside0 (Below wz.heap.size wz w'))
                      case atStart => exact ⟨((⟨#[47]⟩ : ByteArray)), (0), (by first | rfl | (simp; done) | (simp [*]; done) | (simp [Go.Proofs.YtfbllodbcmcndaaX.isEmpty_ne]; done)), (by first | rfl | (simp; done) | (simp [*]; done) | (simp [Go.Proofs.YtfbllodbcmcndaaX.isEmpty_ne]; done)), H', ⟨Nat.le_refl _⟩, ⟨by (with_reducible repeat (first | apply Kd.R_alloc | apply Kd.R_drewN | apply Kd.R_drew)); exact HO_6.out⟩, ⟨by repeat (first | (with_reducible first | exact HB.out | apply below_alloc | apply pw_below_drewN | apply below_drew1) | exact HB.out)⟩⟩
                      case round =>
                        clear H'
                        try clear c1
                        try clear q1
                        try clear c2
                        try clear p2
                        try clear q2
                        try clear hx2
                        try clear c4
                        try clear c4b0
                        try clear c5
                        try clear c5b0
                        try clear p6
                        try clear c7
                        try clear c8
                        try clear c9
                        try clear c9b0
                        try clear c9b1
                        try clear c10
                        try clear c12
                        try clear c12b0
                        try clear c12b1
                        try clear c13
                        try clear c13b0
                        try clear c13b1
                        try clear q14
                        try clear c15
                        try clear c15b0
                        try clear c16
                        try clear c16b0
                        try clear c17
                        try clear c17b0
                        try clear c19
                        try clear c19b0
                        try clear c19b1
                        try clear c20
                        try clear c21
                        try clear c21b0
                        try clear c21b1
                        try clear c23
                        try clear c23b0
                        try clear c23b1
                        try clear c24
                        try clear c24b0
                        try clear c24b1
                        try clear p24
                        try clear q24
                        try clear hx24
                        try clear p25
                        try clear q25
                        try clear hx25
                        try clear q26
                        try clear c27
                        try clear hx249_0
                        try clear hx254_0
                        try clear p2
                        try clear p249
                        try clear p254
                        try clear p6
                        try clear q1
                        try clear q14
                        try clear q2
                        try clear q249
                        try clear q254
                        try clear q26
                        obtain ⟨x9_3, x55_3, rfl, rfl, HA, HK3, HO_53, HB⟩ := hrel
                        cases gk with
                        | zero => exact absurd HA.out (by simp [spec_Cleaned.l1])
                        | succ k3 =>
                          have H := HA.out
                          clear HA
                          simp only [spec_Cleaned.l1] at H
                          by_cases c30 : x55_3 < (x6_2.length : Int)
                          · rw [if_pos c30] at H
                            have c30b0 : decide (x55_3 < (x6_2.length : Int)) = true := decide_eq_true c30
                            clear c30
                            by_cases c31 : 0 ≤ x55_3
                            · rw [if_pos c31] at H
                              have c31b0 : decide (0 ≤ x55_3) = true := decide_eq_true c31
                              clear c31
                              by_cases c32 : x55_3 < (x6_2.length : Int)
                              · rw [if_pos c32] at H
                                have c32b0 : decide (x55_3 < (x6_2.length : Int)) = true := decide_eq_true c32
                                clear c32
                                by_cases c33 : (rdOf ByteArray.empty x6_2 x55_3).size + 1 ≤ 9223372036854775807
                                · rw [if_pos c33] at H
                                  have c33b0 := eq_true c33
                                  have c33b1 : decide ((rdOf ByteArray.empty x6_2 x55_3).size + 1 ≤ 9223372036854775807) = true := decide_eq_true c33
                                  try have c33b2 : (9223372036854775807 < (rdOf ByteArray.empty x6_2 x55_3).size + 1) = False := eq_false (Nat.not_lt.2 c33)
                                  by_cases c34 : x9_3.size + ((rdOf ByteArray.empty x6_2 x55_3).size + 1) ≤ 9223372036854775807
                                  · rw [if_pos c34] at H
                                    have c34b0 := eq_true c34
                                    have c34b1 : decide (x9_3.size + ((rdOf ByteArray.empty x6_2 x55_3).size + 1) ≤ 9223372036854775807) = true := decide_eq_true c34
                                    try have c34b2 : (9223372036854775807 < x9_3.size + ((rdOf ByteArray.empty x6_2 x55_3).size + 1)) = False := eq_false (Nat.not_lt.2 c34)
                                    have H' := Aside0.mk H
                                    clear H
                                    have p261 : 0 ≤ (x55_3 : Int) := of_decide_eq_true (by first | (with_reducible assumption) | assumption)
                                    have q261 : x55_3 < (x6_2.length : Int) := of_decide_eq_true (by first | (with_reducible assumption) | assumption)
                                    obtain ⟨ad261, e261, hx261_0⟩ := Kd.at_string (Kd.R_reads' HO_53.out).2.2 x55_3 p261 q261
                                    cases e261
                                    replace p261 := eq_true p261
                                    replace q261 := eq_true q261
                                    try (rw [show ji11 = ji3 from hji11.symm.trans hji3] at hcut261)
                                    go_wp2
                                    any_goals (try (exfalso; have zc4b0 := of_decide_eq_true c4b0; have zc5b0 := of_decide_eq_true c5b0; have zc12b1 := of_decide_eq_true c12b1; have zc13b1 := of_decide_eq_true c13b1; have zc30b0 := of_decide_eq_true c30b0; have zc31b0 := of_decide_eq_true c31b0; have zc32b0 := of_decide_eq_true c32b0; have zc33b1 := of_decide_eq_true c33b1; have zc34b1 := of_decide_eq_true c34b1; omega))
                                    go_roundg k3
                                    case measure => have := HJ5.out; have := HK2.out; have := HK3.out; omega
                                    case rel => exact ⟨(x9_3 ++ ((rdOf ByteArray.empty x6_2 x55_3) ++ (⟨#[47]⟩ : ByteArray))), (wrap64 (x55_3 + 1)), (by first | rfl | (simp; done) | (simp [*]; done) | (simp [Go.Proofs.YtfbllodbcmcndaaX.isEmpty_ne]; done)), (by first | rfl | (simp; done) | (simp [*]; done) | (simp [Go.Proofs.YtfbllodbcmcndaaX.isEmpty_ne]; done)), H', ⟨by have := HJ5.out; have := HK2.out; have := HK3.out; omega⟩, ⟨by (with_reducible repeat (first | apply Kd.R_alloc | apply Kd.R_drewN | apply Kd.R_drew)); exact HO_53.out⟩, ⟨by repeat (first | (with_reducible first | exact HB.out | apply below_alloc | apply pw_below_drewN | apply below_drew1) | exact HB.out)⟩⟩
                                  · rw [if_neg c34] at H
                                    exact absurd H (by simp)
                                · rw [if_neg c33] at H
                                  exact absurd H (by simp)
                              · rw [if_neg c32] at H
                                exact absurd H (by simp)
                            · rw [if_neg c31] at H
                              exact absurd H (by simp)
                          · rw [if_neg c30] at H
                            have c30b0 : decide (x55_3 < (x6_2.length : Int)) = false := decide_eq_false c30
                            clear c30
                            by_cases c35 : x9_3.size + (rdOf ByteArray.empty t246 (ji3)).size ≤ 9223372036854775807
                            · rw [if_pos c35] at H
                              have c35b0 := eq_true c35
                              have c35b1 : decide (x9_3.size + (rdOf ByteArray.empty t246 (ji3)).size ≤ 9223372036854775807) = true := decide_eq_true c35
                              try have c35b2 : (9223372036854775807 < x9_3.size + (rdOf ByteArray.empty t246 (ji3)).size) = False := eq_false (Nat.not_lt.2 c35)
                              simp only [Option.some.injEq, Prod.mk.injEq] at H
                              obtain ⟨rfl, rfl⟩ := H
                              go_wp2
                              any_goals (try (exfalso; have zc4b0 := of_decide_eq_true c4b0; have zc5b0 := of_decide_eq_true c5b0; have zc12b1 := of_decide_eq_true c12b1; have zc13b1 := of_decide_eq_true c13b1; have zc35b1 := of_decide_eq_true c35b1; omega))
                              go_ret2
                              exact ⟨by first | rfl | (simp [errW_none, errW_some] <;> rfl) | (simp only [← hji3, ← hji11]; first | rfl | (simp [errW_none, errW_some] <;> rfl)) | (simp [*, errW_none, errW_some] <;> rfl), HBO.out.trans (Below.mono (show Below wz.heap.size wz _ from by repeat (first | (with_reducible first | exact HB.out | apply below_alloc | apply pw_below_drewN | apply below_drew1) | exact HB.out)) HBO.out.size)⟩
                            · rw [if_neg c35] at H
                              exact absurd H (by simp)
              · rw [if_neg c13] at H
                exact absurd H (by simp)
            · rw [if_neg c12] at H
              exact absurd H (by simp)
    · rw [if_neg c5] at H
      exact absurd H (by simp)
  · rw [if_neg c4] at H
    exact absurd H (by simp)
end Go.Proofs.Ytfbllodbcmcndaa.Q
end
section
namespace Go.Proofs.Ytfbllodbcmcndaa.Q
open Go.RowKit Go.Proofs.YtfbllodbcmcndaaW.PrintWords Go.Proofs.YtfbllodbcmcndaaW.PrintLast Go.Proofs.YtfbllodbcmcndaaW.PrintMore
attribute [local go_sem] max2_int min2_int max_two min_two max_three min_three max_four min_four
set_option linter.unusedVariables false
set_option linter.unusedSimpArgs false
def spec_CleanPath.f (k : Nat) (a0 : ByteArray) : Option (ByteArray × Int) := (spec_Sound.f k a0).bind fun t262 => (if t262 = true then ((spec_Decoded.f k a0 false).bind fun t263 => ((spec_Cleaned.f k t263).bind fun bt264 => (some (bt264.1, bt264.2)))) else (some ((⟨#[]⟩ : ByteArray), 2)))
set_option maxHeartbeats 8000000 in
set_option maxRecDepth 100000 in
theorem spec_CleanPath.calls (k : Nat) (a0 : ByteArray) (r1 : ByteArray) (r2 : Int) (w : World) (h : spec_CleanPath.f k a0 = some (r1, r2)) :
    Calls Try.prog 61 #[.string a0] w fun e w' => e = .returned (.tuple #[.string r1, .int .i64 r2]) ∧ Below w.heap.size w w' := by
  have HB := Aside0.mk (Below.refl w.heap.size w)
  have H : ((spec_Sound.f k a0).bind fun t262 => (if t262 = true then ((spec_Decoded.f k a0 false).bind fun t263 => ((spec_Cleaned.f k t263).bind fun bt264 => (some (bt264.1, bt264.2)))) else (some ((⟨#[]⟩ : ByteArray), 2)))) = some (r1, r2) := h
  clear h
  replace H := Option.bind_eq_some_iff.mp H
  obtain ⟨t262, A20, H⟩ := H
  replace H : (if t262 = true then ((spec_Decoded.f k a0 false).bind fun t263 => ((spec_Cleaned.f k t263).bind fun bt264 => (some (bt264.1, bt264.2)))) else (some ((⟨#[]⟩ : ByteArray), 2))) = some (r1, r2) := H
  have A2 := Aside0.mk A20
  clear A20
  by_cases c3 : t262 = true
  · subst c3
    have H1 : ((spec_Decoded.f k a0 false).bind fun t263 => ((spec_Cleaned.f k t263).bind fun bt264 => (some (bt264.1, bt264.2)))) = some (r1, r2) := by rw [if_pos rfl] at H; exact H
    clear H
    have H := H1
    clear H1
    replace H := Option.bind_eq_some_iff.mp H
    obtain ⟨t263, A40, H⟩ := H
    replace H : ((spec_Cleaned.f k t263).bind fun bt264 => (some (bt264.1, bt264.2))) = some (r1, r2) := H
    have A4 := Aside0.mk A40
    clear A40
    replace H := Option.bind_eq_some_iff.mp H
    obtain ⟨⟨t264, t265⟩, A50, H⟩ := H
    replace H : (some (t264, t265)) = some (r1, r2) := H
    have A5 := Aside0.mk A50
    clear A50
    simp only [Option.some.injEq, Prod.mk.injEq] at H
    obtain ⟨rfl, rfl⟩ := H
    go_enter Try.func61, Try.ntmps61
    go_wp2_with (first | ((with_reducible refine gate_callee (f := 77) rfl ?_); refine goesL_ (some 5) rfl rfl Try.func77 (by kernel_rfl) rfl #[.string a0] rfl (by (try simp only [List.map_toArray, List.map_cons, List.map_nil]); first | done | rfl | (simp only [List.length_drop, List.length_take]; rfl)) ?_; (with_reducible refine (spec_Sound.calls k a0 true _ A2.out).mono ?_); rintro e w' ⟨rfl, ⟨nd, rfl⟩⟩; refine ⟨_, rfl, ?_⟩) | ((with_reducible refine gate_callee (f := 80) rfl ?_); refine goesL_ (some 8) rfl rfl Try.func80 (by kernel_rfl) rfl #[.string a0, .bool false] rfl (by (try simp only [List.map_toArray, List.map_cons, List.map_nil]); first | done | rfl | (simp only [List.length_drop, List.length_take]; rfl)) ?_; (with_reducible refine (spec_Decoded.calls k a0 false t263 _ A4.out).mono ?_); rintro e w6 ⟨rfl, hb⟩; refine ⟨_, rfl, ?_⟩; have n0_ := Aside0.mk (below_step (by repeat (first | (with_reducible first | exact HB.out | apply below_alloc | apply pw_below_drewN | apply below_drew1) | exact HB.out)) hb); clear HB; have HB := n0_; clear n0_; (try clear hb); (try clear hb2); (try clear hk); (try clear hi)) | ((with_reducible refine gate_callee (f := 84) rfl ?_); refine goesL_ (some 9) rfl rfl Try.func84 (by kernel_rfl) rfl #[.string t263] rfl (by (try simp only [List.map_toArray, List.map_cons, List.map_nil]); first | done | rfl | (simp only [List.length_drop, List.length_take]; rfl)) ?_; (with_reducible refine (spec_Cleaned.calls k t263 t264 t265 _ A5.out).mono ?_); rintro e w7 ⟨rfl, hb⟩; refine ⟨_, rfl, ?_⟩; have n0_ := Aside0.mk (below_step (by repeat (first | (with_reducible first | exact HB.out | apply below_alloc | apply pw_below_drewN | apply below_drew1) | exact HB.out)) hb); clear HB; have HB := n0_; clear n0_; (try clear hb); (try clear hb2); (try clear hk); (try clear hi)))
    go_ret2
    exact ⟨by first | rfl | (simp [errW_none, errW_some] <;> rfl) | (simp [*, errW_none, errW_some] <;> rfl), by repeat (first | (with_reducible first | exact HB.out | apply below_alloc | apply pw_below_drewN | apply below_drew1) | exact HB.out)⟩
  · replace c3 := Bool.eq_false_iff.mpr c3
    subst c3
    have H1 : (some ((⟨#[]⟩ : ByteArray), 2)) = some (r1, r2) := by rw [if_neg (show ¬ (false = true) by decide)] at H; exact H
    clear H
    have H := H1
    clear H1
    simp only [Option.some.injEq, Prod.mk.injEq] at H
    obtain ⟨rfl, rfl⟩ := H
    go_enter Try.func61, Try.ntmps61
    go_wp2_with (first | ((with_reducible refine gate_callee (f := 77) rfl ?_); refine goesL_ (some 5) rfl rfl Try.func77 (by kernel_rfl) rfl #[.string a0] rfl (by (try simp only [List.map_toArray, List.map_cons, List.map_nil]); first | done | rfl | (simp only [List.length_drop, List.length_take]; rfl)) ?_; (with_reducible refine (spec_Sound.calls k a0 false _ A2.out).mono ?_); rintro e w' ⟨rfl, ⟨nd, rfl⟩⟩; refine ⟨_, rfl, ?_⟩))
    go_ret2
    exact ⟨by first | rfl | (simp [errW_none, errW_some] <;> rfl) | (simp [*, errW_none, errW_some] <;> rfl), by repeat (first | (with_reducible first | exact HB.out | apply below_alloc | apply pw_below_drewN | apply below_drew1) | exact HB.out)⟩
end Go.Proofs.Ytfbllodbcmcndaa.Q
end
