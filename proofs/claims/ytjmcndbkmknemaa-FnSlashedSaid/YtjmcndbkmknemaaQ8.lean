-- Written by a program of this session out of the translation, with the kit's printer. Not trusted: Lean checks it.
import Derived.Test.YtjmcndbkmknemaaQ0
import Derived.Test.YtjmcndbkmknemaaQ7
namespace Go.Proofs.Ytjmcndbkmknemaa.Q
open Go.RowKit Go.Proofs.YtjmcndbkmknemaaW.PrintWords Go.Proofs.YtjmcndbkmknemaaW.PrintLast Go.Proofs.YtjmcndbkmknemaaW.PrintMore
attribute [local go_sem] max2_int min2_int max_two min_two max_three min_three max_four min_four   -- for this text's walks alone
set_option linter.unusedVariables false
set_option linter.unusedSimpArgs false

/-! ### impl_QuotedPath: function 34 -/
def impl_QuotedPath.f (k : Nat) (a0 : ByteArray) : Option (ByteArray) := (conv67.f a0).bind fun t230 => ((hertzconv_AppendQuotedPath.f k ([] : List Int) t230).bind fun t233 => (some (strOfNums t233)))
theorem impl_QuotedPath.mono : ∀ a0 k, LeO (impl_QuotedPath.f k a0) (impl_QuotedPath.f (k + 1) a0) := by
  intro a0 k
  unfold impl_QuotedPath.f
  repeat' first
      | (with_reducible exact hertzconv_AppendQuotedPath.mono _ _ _)
      | (with_reducible exact LeO.refl _)
      | (with_reducible exact LeO.none _)
      | (with_reducible refine LeO.ite ?_ ?_)
      | (with_reducible refine LeO.bind ?_ (fun _ => ?_))
      | exact hertzconv_AppendQuotedPath.mono _ _ _
      | exact LeO.none _
      | refine LeO.ite ?_ ?_
      | refine LeO.bind ?_ (fun _ => ?_)
set_option maxHeartbeats 8000000 in
set_option maxRecDepth 100000 in
theorem impl_QuotedPath.calls (k : Nat) (a0 : ByteArray) (r : ByteArray) (w : World) (h : impl_QuotedPath.f k a0 = some r) :
    Calls Try.prog 34 #[.string a0] w fun e w' => e = .returned (.string r) ∧ Below w.heap.size w w' := by
  have HB := Aside0.mk (Below.refl w.heap.size w)
  have H : ((conv67.f a0).bind fun t230 => ((hertzconv_AppendQuotedPath.f k ([] : List Int) t230).bind fun t233 => (some (strOfNums t233)))) = some r := h
  clear h
  replace H := Option.bind_eq_some_iff.mp H
  obtain ⟨t230, A20, H⟩ := H
  replace H : ((hertzconv_AppendQuotedPath.f k ([] : List Int) t230).bind fun t233 => (some (strOfNums t233))) = some r := H
  have A2 := Aside0.mk A20
  clear A20
  replace H := Option.bind_eq_some_iff.mp H
  obtain ⟨t233, A30, H⟩ := H
  replace H : (some (strOfNums t233)) = some r := H
  have A3 := Aside0.mk A30
  clear A30
  obtain rfl := Option.some.inj H
  go_enter Try.func34, Try.ntmps34
  go_wp2_with (first | (refine Go.Proofs.YtjmcndbkmknemaaX.convL_ (some 4) rfl rfl 9 67 _ rfl a0 rfl ?_; (with_reducible refine (conv67.calls a0 t230 _ A2.out).mono ?_); rintro e w4 ⟨v231, rfl, ho0, hb⟩; refine ⟨_, rfl, ?_⟩; have n0_ := Aside0.mk (Kd.V_lower (Kd.V_mono (ok' := fun k_ => True) ho0 (fun k_ hk_ => trivial)) (below_size (by repeat (first | (with_reducible first | exact HB.out | apply below_alloc | apply pw_below_drewN | apply below_drew1) | exact HB.out)))); have n1_ := Aside0.mk (below_step (by repeat (first | (with_reducible first | exact HB.out | apply below_alloc | apply pw_below_drewN | apply below_drew1) | exact HB.out)) hb); clear HB; have HO232 := n0_; have HB := n1_; clear n0_ n1_; (try clear hb); (try clear hb2); (try clear hk); (try clear hi); (try clear ho0); obtain ⟨Ao5, co5, eo5⟩ := Kd.V_slice HO232.out; subst eo5) | ((with_reducible refine gate_callee (f := 55) rfl ?_); refine goesL_ (some 5) rfl rfl Try.func55 (by kernel_rfl) rfl #[.slice none 0 0, .slice Ao5 t230.length co5] rfl (by (try simp only [List.map_toArray, List.map_cons, List.map_nil]); first | done | rfl | (simp only [List.length_drop, List.length_take]; rfl)) ?_; (refine (hertzconv_AppendQuotedPath.calls k (fun k_ => some k_ = (.slice none 0 0 : Value).ownBlock) (.slice none 0 0) ([] : List Int) _ _ t230 t233 w _ ?side1 ?side2 ?side3 ?side4 A3.out).mono ?_); (case side1 => repeat (first | (with_reducible first | exact HB.out | apply below_alloc | apply pw_below_drewN | apply below_drew1) | exact HB.out)); (case side2 => exact Kd.R_nil _ _ _ _ _); (case side3 => exact Kd.C_kept_ownV (HO232.out) (fun k_ hk_ hs_ => (fun e_ => by simp [Value.ownBlock] at e_) hs_)); (case side4 => exact (Kd.V_reads' HO232.out).2.1); rintro e w6 ⟨v234, rfl, ho0, hb, hkp⟩; refine ⟨_, rfl, ?_⟩; have n0_ := Aside0.mk (Kd.V_mono (ok' := fun k_ => some k_ ≠ (v234 : Value).ownBlock) (Kd.V_keptB (HO232.out) hkp (fun k_ hk_ hs_ => (fun e_ => by simp [Value.ownBlock] at e_) hs_)) (fun k_ hk_ => fun e_ => Or.elim (ho0.1 k_ e_.symm) (fun hs_ => hk_.2.1 hs_) (fun hn_ => Nat.not_le.2 hk_.2.2 hn_))); have n1_ := Aside0.mk (Kd.R_mono (ok' := fun k_ => True) ho0 (fun k_ hk_ => trivial)); have n2_ := Aside0.mk (hb); clear HO232; clear HB; have HO232 := n0_; have HO235 := n1_; have HB := n2_; clear n0_ n1_ n2_; (try clear hb); (try clear hkp); (try clear ho0); have hcv7 := own_string (P := Try.prog) Try.underlying67 Try.underlying5 Try.underlying9 (Kd.own_of_R HO235.out)))
  go_ret
  exact ⟨by first | rfl | (simp [errW_none, errW_some] <;> rfl) | (simp [*, errW_none, errW_some] <;> rfl), by repeat (first | (with_reducible first | exact HB.out | apply below_alloc | apply pw_below_drewN | apply below_drew1) | exact HB.out)⟩

/-! ### spec_unreserved: function 63 -/
def spec_unreserved.f (a0 : Int) : Option (Bool) := if a0 ≥ 97 then (if a0 ≤ 122 then (some true) else (if a0 ≥ 65 then (if a0 ≤ 90 then (some true) else (if a0 ≥ 48 then (if a0 ≤ 57 then (some true) else (if a0 = 45 then (some true) else (if a0 = 46 then (some true) else (if a0 = 95 then (some true) else (some (a0 == 126)))))) else (if a0 = 45 then (some true) else (if a0 = 46 then (some true) else (if a0 = 95 then (some true) else (some (a0 == 126))))))) else (if a0 ≥ 48 then (if a0 ≤ 57 then (some true) else (if a0 = 45 then (some true) else (if a0 = 46 then (some true) else (if a0 = 95 then (some true) else (some (a0 == 126)))))) else (if a0 = 45 then (some true) else (if a0 = 46 then (some true) else (if a0 = 95 then (some true) else (some (a0 == 126)))))))) else (if a0 ≥ 65 then (if a0 ≤ 90 then (some true) else (if a0 ≥ 48 then (if a0 ≤ 57 then (some true) else (if a0 = 45 then (some true) else (if a0 = 46 then (some true) else (if a0 = 95 then (some true) else (some (a0 == 126)))))) else (if a0 = 45 then (some true) else (if a0 = 46 then (some true) else (if a0 = 95 then (some true) else (some (a0 == 126))))))) else (if a0 ≥ 48 then (if a0 ≤ 57 then (some true) else (if a0 = 45 then (some true) else (if a0 = 46 then (some true) else (if a0 = 95 then (some true) else (some (a0 == 126)))))) else (if a0 = 45 then (some true) else (if a0 = 46 then (some true) else (if a0 = 95 then (some true) else (some (a0 == 126)))))))
set_option maxHeartbeats 8000000 in
set_option maxRecDepth 100000 in
theorem spec_unreserved.calls (a0 : Int) (r : Bool) (w : World) (h : spec_unreserved.f a0 = some r) :
    Calls Try.prog 63 #[.int .u8 a0] w fun e w' => e = .returned (.bool r) ∧ Drawn0 w w' := by
  have H : (if a0 ≥ 97 then (if a0 ≤ 122 then (some true) else (if a0 ≥ 65 then (if a0 ≤ 90 then (some true) else (if a0 ≥ 48 then (if a0 ≤ 57 then (some true) else (if a0 = 45 then (some true) else (if a0 = 46 then (some true) else (if a0 = 95 then (some true) else (some (a0 == 126)))))) else (if a0 = 45 then (some true) else (if a0 = 46 then (some true) else (if a0 = 95 then (some true) else (some (a0 == 126))))))) else (if a0 ≥ 48 then (if a0 ≤ 57 then (some true) else (if a0 = 45 then (some true) else (if a0 = 46 then (some true) else (if a0 = 95 then (some true) else (some (a0 == 126)))))) else (if a0 = 45 then (some true) else (if a0 = 46 then (some true) else (if a0 = 95 then (some true) else (some (a0 == 126)))))))) else (if a0 ≥ 65 then (if a0 ≤ 90 then (some true) else (if a0 ≥ 48 then (if a0 ≤ 57 then (some true) else (if a0 = 45 then (some true) else (if a0 = 46 then (some true) else (if a0 = 95 then (some true) else (some (a0 == 126)))))) else (if a0 = 45 then (some true) else (if a0 = 46 then (some true) else (if a0 = 95 then (some true) else (some (a0 == 126))))))) else (if a0 ≥ 48 then (if a0 ≤ 57 then (some true) else (if a0 = 45 then (some true) else (if a0 = 46 then (some true) else (if a0 = 95 then (some true) else (some (a0 == 126)))))) else (if a0 = 45 then (some true) else (if a0 = 46 then (some true) else (if a0 = 95 then (some true) else (some (a0 == 126)))))))) = some r := h
  clear h
  by_cases c2 : a0 ≥ 97
  · rw [if_pos c2] at H
    have c2b0 : decide (97 ≤ a0) = true := decide_eq_true c2
    clear c2
    by_cases c3 : a0 ≤ 122
    · rw [if_pos c3] at H
      have c3b0 : decide (a0 ≤ 122) = true := decide_eq_true c3
      clear c3
      obtain rfl := Option.some.inj H
      go_enter Try.func63, Try.ntmps63
      go_wp2
      go_ret
      exact ⟨by first | rfl | (simp; done) | (simp [*]; done) | (simp [Go.Proofs.YtjmcndbkmknemaaX.isEmpty_ne]; done), by repeat (first | exact Drawn0.refl _ | apply Drawn0.step)⟩
    · rw [if_neg c3] at H
      have c3b0 : decide (a0 ≤ 122) = false := decide_eq_false c3
      clear c3
      by_cases c4 : a0 ≥ 65
      · rw [if_pos c4] at H
        have c4b0 : decide (65 ≤ a0) = true := decide_eq_true c4
        clear c4
        by_cases c5 : a0 ≤ 90
        · rw [if_pos c5] at H
          have c5b0 : decide (a0 ≤ 90) = true := decide_eq_true c5
          clear c5
          obtain rfl := Option.some.inj H
          go_enter Try.func63, Try.ntmps63
          go_wp2
          go_ret
          exact ⟨by first | rfl | (simp; done) | (simp [*]; done) | (simp [Go.Proofs.YtjmcndbkmknemaaX.isEmpty_ne]; done), by repeat (first | exact Drawn0.refl _ | apply Drawn0.step)⟩
        · rw [if_neg c5] at H
          have c5b0 : decide (a0 ≤ 90) = false := decide_eq_false c5
          clear c5
          by_cases c6 : a0 ≥ 48
          · rw [if_pos c6] at H
            have c6b0 : decide (48 ≤ a0) = true := decide_eq_true c6
            clear c6
            by_cases c7 : a0 ≤ 57
            · rw [if_pos c7] at H
              have c7b0 : decide (a0 ≤ 57) = true := decide_eq_true c7
              clear c7
              obtain rfl := Option.some.inj H
              go_enter Try.func63, Try.ntmps63
              go_wp2
              go_ret
              exact ⟨by first | rfl | (simp; done) | (simp [*]; done) | (simp [Go.Proofs.YtjmcndbkmknemaaX.isEmpty_ne]; done), by repeat (first | exact Drawn0.refl _ | apply Drawn0.step)⟩
            · rw [if_neg c7] at H
              have c7b0 : decide (a0 ≤ 57) = false := decide_eq_false c7
              clear c7
              by_cases c8 : a0 = 45
              · rw [if_pos c8] at H
                have c8b0 : (a0 == 45) = true := beq_iff_eq.mpr c8
                have c8b1 : (a0 != 45) = false := bne_eq_false_iff_eq.mpr c8
                clear c8
                obtain rfl := Option.some.inj H
                go_enter Try.func63, Try.ntmps63
                go_wp2
                go_ret
                exact ⟨by first | rfl | (simp; done) | (simp [*]; done) | (simp [Go.Proofs.YtjmcndbkmknemaaX.isEmpty_ne]; done), by repeat (first | exact Drawn0.refl _ | apply Drawn0.step)⟩
              · rw [if_neg c8] at H
                have c8b0 : (a0 == 45) = false := beq_eq_false_iff_ne.mpr c8
                have c8b1 : (a0 != 45) = true := bne_iff_ne.mpr c8
                by_cases c9 : a0 = 46
                · rw [if_pos c9] at H
                  have c9b0 : (a0 == 46) = true := beq_iff_eq.mpr c9
                  have c9b1 : (a0 != 46) = false := bne_eq_false_iff_eq.mpr c9
                  clear c9
                  obtain rfl := Option.some.inj H
                  go_enter Try.func63, Try.ntmps63
                  go_wp2
                  go_ret
                  exact ⟨by first | rfl | (simp; done) | (simp [*]; done) | (simp [Go.Proofs.YtjmcndbkmknemaaX.isEmpty_ne]; done), by repeat (first | exact Drawn0.refl _ | apply Drawn0.step)⟩
                · rw [if_neg c9] at H
                  have c9b0 : (a0 == 46) = false := beq_eq_false_iff_ne.mpr c9
                  have c9b1 : (a0 != 46) = true := bne_iff_ne.mpr c9
                  by_cases c10 : a0 = 95
                  · rw [if_pos c10] at H
                    have c10b0 : (a0 == 95) = true := beq_iff_eq.mpr c10
                    have c10b1 : (a0 != 95) = false := bne_eq_false_iff_eq.mpr c10
                    clear c10
                    obtain rfl := Option.some.inj H
                    go_enter Try.func63, Try.ntmps63
                    go_wp2
                    go_ret
                    exact ⟨by first | rfl | (simp; done) | (simp [*]; done) | (simp [Go.Proofs.YtjmcndbkmknemaaX.isEmpty_ne]; done), by repeat (first | exact Drawn0.refl _ | apply Drawn0.step)⟩
                  · rw [if_neg c10] at H
                    have c10b0 : (a0 == 95) = false := beq_eq_false_iff_ne.mpr c10
                    have c10b1 : (a0 != 95) = true := bne_iff_ne.mpr c10
                    obtain rfl := Option.some.inj H
                    go_enter Try.func63, Try.ntmps63
                    go_wp2
                    go_ret
                    exact ⟨by first | rfl | (simp; done) | (simp [*]; done) | (simp [Go.Proofs.YtjmcndbkmknemaaX.isEmpty_ne]; done), by repeat (first | exact Drawn0.refl _ | apply Drawn0.step)⟩
          · rw [if_neg c6] at H
            have c6b0 : decide (48 ≤ a0) = false := decide_eq_false c6
            clear c6
            by_cases c11 : a0 = 45
            · rw [if_pos c11] at H
              have c11b0 : (a0 == 45) = true := beq_iff_eq.mpr c11
              have c11b1 : (a0 != 45) = false := bne_eq_false_iff_eq.mpr c11
              clear c11
              obtain rfl := Option.some.inj H
              go_enter Try.func63, Try.ntmps63
              go_wp2
              go_ret
              exact ⟨by first | rfl | (simp; done) | (simp [*]; done) | (simp [Go.Proofs.YtjmcndbkmknemaaX.isEmpty_ne]; done), by repeat (first | exact Drawn0.refl _ | apply Drawn0.step)⟩
            · rw [if_neg c11] at H
              have c11b0 : (a0 == 45) = false := beq_eq_false_iff_ne.mpr c11
              have c11b1 : (a0 != 45) = true := bne_iff_ne.mpr c11
              by_cases c12 : a0 = 46
              · rw [if_pos c12] at H
                have c12b0 : (a0 == 46) = true := beq_iff_eq.mpr c12
                have c12b1 : (a0 != 46) = false := bne_eq_false_iff_eq.mpr c12
                clear c12
                obtain rfl := Option.some.inj H
                go_enter Try.func63, Try.ntmps63
                go_wp2
                go_ret
                exact ⟨by first | rfl | (simp; done) | (simp [*]; done) | (simp [Go.Proofs.YtjmcndbkmknemaaX.isEmpty_ne]; done), by repeat (first | exact Drawn0.refl _ | apply Drawn0.step)⟩
              · rw [if_neg c12] at H
                have c12b0 : (a0 == 46) = false := beq_eq_false_iff_ne.mpr c12
                have c12b1 : (a0 != 46) = true := bne_iff_ne.mpr c12
                by_cases c13 : a0 = 95
                · rw [if_pos c13] at H
                  have c13b0 : (a0 == 95) = true := beq_iff_eq.mpr c13
                  have c13b1 : (a0 != 95) = false := bne_eq_false_iff_eq.mpr c13
                  clear c13
                  obtain rfl := Option.some.inj H
                  go_enter Try.func63, Try.ntmps63
                  go_wp2
                  go_ret
                  exact ⟨by first | rfl | (simp; done) | (simp [*]; done) | (simp [Go.Proofs.YtjmcndbkmknemaaX.isEmpty_ne]; done), by repeat (first | exact Drawn0.refl _ | apply Drawn0.step)⟩
                · rw [if_neg c13] at H
                  have c13b0 : (a0 == 95) = false := beq_eq_false_iff_ne.mpr c13
                  have c13b1 : (a0 != 95) = true := bne_iff_ne.mpr c13
                  obtain rfl := Option.some.inj H
                  go_enter Try.func63, Try.ntmps63
                  go_wp2
                  go_ret
                  exact ⟨by first | rfl | (simp; done) | (simp [*]; done) | (simp [Go.Proofs.YtjmcndbkmknemaaX.isEmpty_ne]; done), by repeat (first | exact Drawn0.refl _ | apply Drawn0.step)⟩
      · rw [if_neg c4] at H
        have c4b0 : decide (65 ≤ a0) = false := decide_eq_false c4
        clear c4
        by_cases c14 : a0 ≥ 48
        · rw [if_pos c14] at H
          have c14b0 : decide (48 ≤ a0) = true := decide_eq_true c14
          clear c14
          by_cases c15 : a0 ≤ 57
          · rw [if_pos c15] at H
            have c15b0 : decide (a0 ≤ 57) = true := decide_eq_true c15
            clear c15
            obtain rfl := Option.some.inj H
            go_enter Try.func63, Try.ntmps63
            go_wp2
            go_ret
            exact ⟨by first | rfl | (simp; done) | (simp [*]; done) | (simp [Go.Proofs.YtjmcndbkmknemaaX.isEmpty_ne]; done), by repeat (first | exact Drawn0.refl _ | apply Drawn0.step)⟩
          · rw [if_neg c15] at H
            have c15b0 : decide (a0 ≤ 57) = false := decide_eq_false c15
            clear c15
            by_cases c16 : a0 = 45
            · rw [if_pos c16] at H
              have c16b0 : (a0 == 45) = true := beq_iff_eq.mpr c16
              have c16b1 : (a0 != 45) = false := bne_eq_false_iff_eq.mpr c16
              clear c16
              obtain rfl := Option.some.inj H
              go_enter Try.func63, Try.ntmps63
              go_wp2
              go_ret
              exact ⟨by first | rfl | (simp; done) | (simp [*]; done) | (simp [Go.Proofs.YtjmcndbkmknemaaX.isEmpty_ne]; done), by repeat (first | exact Drawn0.refl _ | apply Drawn0.step)⟩
            · rw [if_neg c16] at H
              have c16b0 : (a0 == 45) = false := beq_eq_false_iff_ne.mpr c16
              have c16b1 : (a0 != 45) = true := bne_iff_ne.mpr c16
              by_cases c17 : a0 = 46
              · rw [if_pos c17] at H
                have c17b0 : (a0 == 46) = true := beq_iff_eq.mpr c17
                have c17b1 : (a0 != 46) = false := bne_eq_false_iff_eq.mpr c17
                clear c17
                obtain rfl := Option.some.inj H
                go_enter Try.func63, Try.ntmps63
                go_wp2
                go_ret
                exact ⟨by first | rfl | (simp; done) | (simp [*]; done) | (simp [Go.Proofs.YtjmcndbkmknemaaX.isEmpty_ne]; done), by repeat (first | exact Drawn0.refl _ | apply Drawn0.step)⟩
              · rw [if_neg c17] at H
                have c17b0 : (a0 == 46) = false := beq_eq_false_iff_ne.mpr c17
                have c17b1 : (a0 != 46) = true := bne_iff_ne.mpr c17
                by_cases c18 : a0 = 95
                · rw [if_pos c18] at H
                  have c18b0 : (a0 == 95) = true := beq_iff_eq.mpr c18
                  have c18b1 : (a0 != 95) = false := bne_eq_false_iff_eq.mpr c18
                  clear c18
                  obtain rfl := Option.some.inj H
                  go_enter Try.func63, Try.ntmps63
                  go_wp2
                  go_ret
                  exact ⟨by first | rfl | (simp; done) | (simp [*]; done) | (simp [Go.Proofs.YtjmcndbkmknemaaX.isEmpty_ne]; done), by repeat (first | exact Drawn0.refl _ | apply Drawn0.step)⟩
                · rw [if_neg c18] at H
                  have c18b0 : (a0 == 95) = false := beq_eq_false_iff_ne.mpr c18
                  have c18b1 : (a0 != 95) = true := bne_iff_ne.mpr c18
                  obtain rfl := Option.some.inj H
                  go_enter Try.func63, Try.ntmps63
                  go_wp2
                  go_ret
                  exact ⟨by first | rfl | (simp; done) | (simp [*]; done) | (simp [Go.Proofs.YtjmcndbkmknemaaX.isEmpty_ne]; done), by repeat (first | exact Drawn0.refl _ | apply Drawn0.step)⟩
        · rw [if_neg c14] at H
          have c14b0 : decide (48 ≤ a0) = false := decide_eq_false c14
          clear c14
          by_cases c19 : a0 = 45
          · rw [if_pos c19] at H
            have c19b0 : (a0 == 45) = true := beq_iff_eq.mpr c19
            have c19b1 : (a0 != 45) = false := bne_eq_false_iff_eq.mpr c19
            clear c19
            obtain rfl := Option.some.inj H
            go_enter Try.func63, Try.ntmps63
            go_wp2
            go_ret
            exact ⟨by first | rfl | (simp; done) | (simp [*]; done) | (simp [Go.Proofs.YtjmcndbkmknemaaX.isEmpty_ne]; done), by repeat (first | exact Drawn0.refl _ | apply Drawn0.step)⟩
          · rw [if_neg c19] at H
            have c19b0 : (a0 == 45) = false := beq_eq_false_iff_ne.mpr c19
            have c19b1 : (a0 != 45) = true := bne_iff_ne.mpr c19
            by_cases c20 : a0 = 46
            · rw [if_pos c20] at H
              have c20b0 : (a0 == 46) = true := beq_iff_eq.mpr c20
              have c20b1 : (a0 != 46) = false := bne_eq_false_iff_eq.mpr c20
              clear c20
              obtain rfl := Option.some.inj H
              go_enter Try.func63, Try.ntmps63
              go_wp2
              go_ret
              exact ⟨by first | rfl | (simp; done) | (simp [*]; done) | (simp [Go.Proofs.YtjmcndbkmknemaaX.isEmpty_ne]; done), by repeat (first | exact Drawn0.refl _ | apply Drawn0.step)⟩
            · rw [if_neg c20] at H
              have c20b0 : (a0 == 46) = false := beq_eq_false_iff_ne.mpr c20
              have c20b1 : (a0 != 46) = true := bne_iff_ne.mpr c20
              by_cases c21 : a0 = 95
              · rw [if_pos c21] at H
                have c21b0 : (a0 == 95) = true := beq_iff_eq.mpr c21
                have c21b1 : (a0 != 95) = false := bne_eq_false_iff_eq.mpr c21
                clear c21
                obtain rfl := Option.some.inj H
                go_enter Try.func63, Try.ntmps63
                go_wp2
                go_ret
                exact ⟨by first | rfl | (simp; done) | (simp [*]; done) | (simp [Go.Proofs.YtjmcndbkmknemaaX.isEmpty_ne]; done), by repeat (first | exact Drawn0.refl _ | apply Drawn0.step)⟩
              · rw [if_neg c21] at H
                have c21b0 : (a0 == 95) = false := beq_eq_false_iff_ne.mpr c21
                have c21b1 : (a0 != 95) = true := bne_iff_ne.mpr c21
                obtain rfl := Option.some.inj H
                go_enter Try.func63, Try.ntmps63
                go_wp2
                go_ret
                exact ⟨by first | rfl | (simp; done) | (simp [*]; done) | (simp [Go.Proofs.YtjmcndbkmknemaaX.isEmpty_ne]; done), by repeat (first | exact Drawn0.refl _ | apply Drawn0.step)⟩
  · rw [if_neg c2] at H
    have c2b0 : decide (97 ≤ a0) = false := decide_eq_false c2
    clear c2
    by_cases c22 : a0 ≥ 65
    · rw [if_pos c22] at H
      have c22b0 : decide (65 ≤ a0) = true := decide_eq_true c22
      clear c22
      by_cases c23 : a0 ≤ 90
      · rw [if_pos c23] at H
        have c23b0 : decide (a0 ≤ 90) = true := decide_eq_true c23
        clear c23
        obtain rfl := Option.some.inj H
        go_enter Try.func63, Try.ntmps63
        go_wp2
        go_ret
        exact ⟨by first | rfl | (simp; done) | (simp [*]; done) | (simp [Go.Proofs.YtjmcndbkmknemaaX.isEmpty_ne]; done), by repeat (first | exact Drawn0.refl _ | apply Drawn0.step)⟩
      · rw [if_neg c23] at H
        have c23b0 : decide (a0 ≤ 90) = false := decide_eq_false c23
        clear c23
        by_cases c24 : a0 ≥ 48
        · rw [if_pos c24] at H
          have c24b0 : decide (48 ≤ a0) = true := decide_eq_true c24
          clear c24
          by_cases c25 : a0 ≤ 57
          · rw [if_pos c25] at H
            have c25b0 : decide (a0 ≤ 57) = true := decide_eq_true c25
            clear c25
            obtain rfl := Option.some.inj H
            go_enter Try.func63, Try.ntmps63
            go_wp2
            go_ret
            exact ⟨by first | rfl | (simp; done) | (simp [*]; done) | (simp [Go.Proofs.YtjmcndbkmknemaaX.isEmpty_ne]; done), by repeat (first | exact Drawn0.refl _ | apply Drawn0.step)⟩
          · rw [if_neg c25] at H
            have c25b0 : decide (a0 ≤ 57) = false := decide_eq_false c25
            clear c25
            by_cases c26 : a0 = 45
            · rw [if_pos c26] at H
              have c26b0 : (a0 == 45) = true := beq_iff_eq.mpr c26
              have c26b1 : (a0 != 45) = false := bne_eq_false_iff_eq.mpr c26
              clear c26
              obtain rfl := Option.some.inj H
              go_enter Try.func63, Try.ntmps63
              go_wp2
              go_ret
              exact ⟨by first | rfl | (simp; done) | (simp [*]; done) | (simp [Go.Proofs.YtjmcndbkmknemaaX.isEmpty_ne]; done), by repeat (first | exact Drawn0.refl _ | apply Drawn0.step)⟩
            · rw [if_neg c26] at H
              have c26b0 : (a0 == 45) = false := beq_eq_false_iff_ne.mpr c26
              have c26b1 : (a0 != 45) = true := bne_iff_ne.mpr c26
              by_cases c27 : a0 = 46
              · rw [if_pos c27] at H
                have c27b0 : (a0 == 46) = true := beq_iff_eq.mpr c27
                have c27b1 : (a0 != 46) = false := bne_eq_false_iff_eq.mpr c27
                clear c27
                obtain rfl := Option.some.inj H
                go_enter Try.func63, Try.ntmps63
                go_wp2
                go_ret
                exact ⟨by first | rfl | (simp; done) | (simp [*]; done) | (simp [Go.Proofs.YtjmcndbkmknemaaX.isEmpty_ne]; done), by repeat (first | exact Drawn0.refl _ | apply Drawn0.step)⟩
              · rw [if_neg c27] at H
                have c27b0 : (a0 == 46) = false := beq_eq_false_iff_ne.mpr c27
                have c27b1 : (a0 != 46) = true := bne_iff_ne.mpr c27
                by_cases c28 : a0 = 95
                · rw [if_pos c28] at H
                  have c28b0 : (a0 == 95) = true := beq_iff_eq.mpr c28
                  have c28b1 : (a0 != 95) = false := bne_eq_false_iff_eq.mpr c28
                  clear c28
                  obtain rfl := Option.some.inj H
                  go_enter Try.func63, Try.ntmps63
                  go_wp2
                  go_ret
                  exact ⟨by first | rfl | (simp; done) | (simp [*]; done) | (simp [Go.Proofs.YtjmcndbkmknemaaX.isEmpty_ne]; done), by repeat (first | exact Drawn0.refl _ | apply Drawn0.step)⟩
                · rw [if_neg c28] at H
                  have c28b0 : (a0 == 95) = false := beq_eq_false_iff_ne.mpr c28
                  have c28b1 : (a0 != 95) = true := bne_iff_ne.mpr c28
                  obtain rfl := Option.some.inj H
                  go_enter Try.func63, Try.ntmps63
                  go_wp2
                  go_ret
                  exact ⟨by first | rfl | (simp; done) | (simp [*]; done) | (simp [Go.Proofs.YtjmcndbkmknemaaX.isEmpty_ne]; done), by repeat (first | exact Drawn0.refl _ | apply Drawn0.step)⟩
        · rw [if_neg c24] at H
          have c24b0 : decide (48 ≤ a0) = false := decide_eq_false c24
          clear c24
          by_cases c29 : a0 = 45
          · rw [if_pos c29] at H
            have c29b0 : (a0 == 45) = true := beq_iff_eq.mpr c29
            have c29b1 : (a0 != 45) = false := bne_eq_false_iff_eq.mpr c29
            clear c29
            obtain rfl := Option.some.inj H
            go_enter Try.func63, Try.ntmps63
            go_wp2
            go_ret
            exact ⟨by first | rfl | (simp; done) | (simp [*]; done) | (simp [Go.Proofs.YtjmcndbkmknemaaX.isEmpty_ne]; done), by repeat (first | exact Drawn0.refl _ | apply Drawn0.step)⟩
          · rw [if_neg c29] at H
            have c29b0 : (a0 == 45) = false := beq_eq_false_iff_ne.mpr c29
            have c29b1 : (a0 != 45) = true := bne_iff_ne.mpr c29
            by_cases c30 : a0 = 46
            · rw [if_pos c30] at H
              have c30b0 : (a0 == 46) = true := beq_iff_eq.mpr c30
              have c30b1 : (a0 != 46) = false := bne_eq_false_iff_eq.mpr c30
              clear c30
              obtain rfl := Option.some.inj H
              go_enter Try.func63, Try.ntmps63
              go_wp2
              go_ret
              exact ⟨by first | rfl | (simp; done) | (simp [*]; done) | (simp [Go.Proofs.YtjmcndbkmknemaaX.isEmpty_ne]; done), by repeat (first | exact Drawn0.refl _ | apply Drawn0.step)⟩
            · rw [if_neg c30] at H
              have c30b0 : (a0 == 46) = false := beq_eq_false_iff_ne.mpr c30
              have c30b1 : (a0 != 46) = true := bne_iff_ne.mpr c30
              by_cases c31 : a0 = 95
              · rw [if_pos c31] at H
                have c31b0 : (a0 == 95) = true := beq_iff_eq.mpr c31
                have c31b1 : (a0 != 95) = false := bne_eq_false_iff_eq.mpr c31
                clear c31
                obtain rfl := Option.some.inj H
                go_enter Try.func63, Try.ntmps63
                go_wp2
                go_ret
                exact ⟨by first | rfl | (simp; done) | (simp [*]; done) | (simp [Go.Proofs.YtjmcndbkmknemaaX.isEmpty_ne]; done), by repeat (first | exact Drawn0.refl _ | apply Drawn0.step)⟩
              · rw [if_neg c31] at H
                have c31b0 : (a0 == 95) = false := beq_eq_false_iff_ne.mpr c31
                have c31b1 : (a0 != 95) = true := bne_iff_ne.mpr c31
                obtain rfl := Option.some.inj H
                go_enter Try.func63, Try.ntmps63
                go_wp2
                go_ret
                exact ⟨by first | rfl | (simp; done) | (simp [*]; done) | (simp [Go.Proofs.YtjmcndbkmknemaaX.isEmpty_ne]; done), by repeat (first | exact Drawn0.refl _ | apply Drawn0.step)⟩
    · rw [if_neg c22] at H
      have c22b0 : decide (65 ≤ a0) = false := decide_eq_false c22
      clear c22
      by_cases c32 : a0 ≥ 48
      · rw [if_pos c32] at H
        have c32b0 : decide (48 ≤ a0) = true := decide_eq_true c32
        clear c32
        by_cases c33 : a0 ≤ 57
        · rw [if_pos c33] at H
          have c33b0 : decide (a0 ≤ 57) = true := decide_eq_true c33
          clear c33
          obtain rfl := Option.some.inj H
          go_enter Try.func63, Try.ntmps63
          go_wp2
          go_ret
          exact ⟨by first | rfl | (simp; done) | (simp [*]; done) | (simp [Go.Proofs.YtjmcndbkmknemaaX.isEmpty_ne]; done), by repeat (first | exact Drawn0.refl _ | apply Drawn0.step)⟩
        · rw [if_neg c33] at H
          have c33b0 : decide (a0 ≤ 57) = false := decide_eq_false c33
          clear c33
          by_cases c34 : a0 = 45
          · rw [if_pos c34] at H
            have c34b0 : (a0 == 45) = true := beq_iff_eq.mpr c34
            have c34b1 : (a0 != 45) = false := bne_eq_false_iff_eq.mpr c34
            clear c34
            obtain rfl := Option.some.inj H
            go_enter Try.func63, Try.ntmps63
            go_wp2
            go_ret
            exact ⟨by first | rfl | (simp; done) | (simp [*]; done) | (simp [Go.Proofs.YtjmcndbkmknemaaX.isEmpty_ne]; done), by repeat (first | exact Drawn0.refl _ | apply Drawn0.step)⟩
          · rw [if_neg c34] at H
            have c34b0 : (a0 == 45) = false := beq_eq_false_iff_ne.mpr c34
            have c34b1 : (a0 != 45) = true := bne_iff_ne.mpr c34
            by_cases c35 : a0 = 46
            · rw [if_pos c35] at H
              have c35b0 : (a0 == 46) = true := beq_iff_eq.mpr c35
              have c35b1 : (a0 != 46) = false := bne_eq_false_iff_eq.mpr c35
              clear c35
              obtain rfl := Option.some.inj H
              go_enter Try.func63, Try.ntmps63
              go_wp2
              go_ret
              exact ⟨by first | rfl | (simp; done) | (simp [*]; done) | (simp [Go.Proofs.YtjmcndbkmknemaaX.isEmpty_ne]; done), by repeat (first | exact Drawn0.refl _ | apply Drawn0.step)⟩
            · rw [if_neg c35] at H
              have c35b0 : (a0 == 46) = false := beq_eq_false_iff_ne.mpr c35
              have c35b1 : (a0 != 46) = true := bne_iff_ne.mpr c35
              by_cases c36 : a0 = 95
              · rw [if_pos c36] at H
                have c36b0 : (a0 == 95) = true := beq_iff_eq.mpr c36
                have c36b1 : (a0 != 95) = false := bne_eq_false_iff_eq.mpr c36
                clear c36
                obtain rfl := Option.some.inj H
                go_enter Try.func63, Try.ntmps63
                go_wp2
                go_ret
                exact ⟨by first | rfl | (simp; done) | (simp [*]; done) | (simp [Go.Proofs.YtjmcndbkmknemaaX.isEmpty_ne]; done), by repeat (first | exact Drawn0.refl _ | apply Drawn0.step)⟩
              · rw [if_neg c36] at H
                have c36b0 : (a0 == 95) = false := beq_eq_false_iff_ne.mpr c36
                have c36b1 : (a0 != 95) = true := bne_iff_ne.mpr c36
                obtain rfl := Option.some.inj H
                go_enter Try.func63, Try.ntmps63
                go_wp2
                go_ret
                exact ⟨by first | rfl | (simp; done) | (simp [*]; done) | (simp [Go.Proofs.YtjmcndbkmknemaaX.isEmpty_ne]; done), by repeat (first | exact Drawn0.refl _ | apply Drawn0.step)⟩
      · rw [if_neg c32] at H
        have c32b0 : decide (48 ≤ a0) = false := decide_eq_false c32
        clear c32
        by_cases c37 : a0 = 45
        · rw [if_pos c37] at H
          have c37b0 : (a0 == 45) = true := beq_iff_eq.mpr c37
          have c37b1 : (a0 != 45) = false := bne_eq_false_iff_eq.mpr c37
          clear c37
          obtain rfl := Option.some.inj H
          go_enter Try.func63, Try.ntmps63
          go_wp2
          go_ret
          exact ⟨by first | rfl | (simp; done) | (simp [*]; done) | (simp [Go.Proofs.YtjmcndbkmknemaaX.isEmpty_ne]; done), by repeat (first | exact Drawn0.refl _ | apply Drawn0.step)⟩
        · rw [if_neg c37] at H
          have c37b0 : (a0 == 45) = false := beq_eq_false_iff_ne.mpr c37
          have c37b1 : (a0 != 45) = true := bne_iff_ne.mpr c37
          by_cases c38 : a0 = 46
          · rw [if_pos c38] at H
            have c38b0 : (a0 == 46) = true := beq_iff_eq.mpr c38
            have c38b1 : (a0 != 46) = false := bne_eq_false_iff_eq.mpr c38
            clear c38
            obtain rfl := Option.some.inj H
            go_enter Try.func63, Try.ntmps63
            go_wp2
            go_ret
            exact ⟨by first | rfl | (simp; done) | (simp [*]; done) | (simp [Go.Proofs.YtjmcndbkmknemaaX.isEmpty_ne]; done), by repeat (first | exact Drawn0.refl _ | apply Drawn0.step)⟩
          · rw [if_neg c38] at H
            have c38b0 : (a0 == 46) = false := beq_eq_false_iff_ne.mpr c38
            have c38b1 : (a0 != 46) = true := bne_iff_ne.mpr c38
            by_cases c39 : a0 = 95
            · rw [if_pos c39] at H
              have c39b0 : (a0 == 95) = true := beq_iff_eq.mpr c39
              have c39b1 : (a0 != 95) = false := bne_eq_false_iff_eq.mpr c39
              clear c39
              obtain rfl := Option.some.inj H
              go_enter Try.func63, Try.ntmps63
              go_wp2
              go_ret
              exact ⟨by first | rfl | (simp; done) | (simp [*]; done) | (simp [Go.Proofs.YtjmcndbkmknemaaX.isEmpty_ne]; done), by repeat (first | exact Drawn0.refl _ | apply Drawn0.step)⟩
            · rw [if_neg c39] at H
              have c39b0 : (a0 == 95) = false := beq_eq_false_iff_ne.mpr c39
              have c39b1 : (a0 != 95) = true := bne_iff_ne.mpr c39
              obtain rfl := Option.some.inj H
              go_enter Try.func63, Try.ntmps63
              go_wp2
              go_ret
              exact ⟨by first | rfl | (simp; done) | (simp [*]; done) | (simp [Go.Proofs.YtjmcndbkmknemaaX.isEmpty_ne]; done), by repeat (first | exact Drawn0.refl _ | apply Drawn0.step)⟩

/-! ### spec_indexOf: function 64 -/
def spec_indexOf.l0 : Nat → ByteArray → Int → Int → Option (Int)
  | 0, _, _, _ => none
  | k + 1, x0, x1, x5 => if x5 < (x0.size : Int) then (if 0 ≤ x5 then (if (bt x0 x5) = x1 then (some x5) else (spec_indexOf.l0 k x0 x1 (wrap64 (x5 + 1)))) else (none)) else (some (-1))
def spec_indexOf.f (k : Nat) (a0 : ByteArray) (a1 : Int) : Option (Int) := spec_indexOf.l0 k a0 a1 0
theorem spec_indexOf.mono_l : ∀ k, (∀ y0 y1 y2, LeO (spec_indexOf.l0 k y0 y1 y2) (spec_indexOf.l0 (k + 1) y0 y1 y2))
  | 0 => fun _ _ _ r h => by simp [spec_indexOf.l0] at h
  | k + 1 => by
    have ih0 := spec_indexOf.mono_l k
    · intro y0 y1 y2
      unfold spec_indexOf.l0
      repeat' first
      | (with_reducible exact ih0 _ _ _)
      | (with_reducible exact LeO.refl _)
      | (with_reducible exact LeO.none _)
      | (with_reducible refine LeO.ite ?_ ?_)
      | (with_reducible refine LeO.bind ?_ (fun _ => ?_))
      | exact ih0 _ _ _
      | exact LeO.none _
      | refine LeO.ite ?_ ?_
      | refine LeO.bind ?_ (fun _ => ?_)
theorem spec_indexOf.mono : ∀ a0 a1 k, LeO (spec_indexOf.f k a0 a1) (spec_indexOf.f (k + 1) a0 a1) := by
  intro a0 a1 k
  have ih0 := spec_indexOf.mono_l k
  unfold spec_indexOf.f
  repeat' first
      | (with_reducible exact ih0 _ _ _)
      | (with_reducible exact LeO.refl _)
      | (with_reducible exact LeO.none _)
      | (with_reducible refine LeO.ite ?_ ?_)
      | (with_reducible refine LeO.bind ?_ (fun _ => ?_))
      | exact ih0 _ _ _
      | exact LeO.none _
      | refine LeO.ite ?_ ?_
      | refine LeO.bind ?_ (fun _ => ?_)
set_option maxHeartbeats 8000000 in
set_option maxRecDepth 100000 in
theorem spec_indexOf.calls (k : Nat) (a0 : ByteArray) (a1 : Int) (r : Int) (w : World) (h : spec_indexOf.f k a0 a1 = some r) :
    Calls Try.prog 64 #[.string a0, .int .u8 a1] w fun e w' => e = .returned (.int .i64 r) ∧ Drawn0 w w' := by
  have H : (spec_indexOf.l0 k a0 a1 0) = some r := h
  clear h
  have H' := Aside0.mk H
  clear H
  go_enter Try.func64, Try.ntmps64
  go_wp2
  go_loopg [5] k (fun kq v5 w' => ∃ (x5_1 : Int), v5 = .int .i64 x5_1 ∧ Aside0 (spec_indexOf.l0 kq a0 a1 x5_1 = some r) ∧ Aside0 (kq ≤ k) ∧ Drawn0 w w')
  case atStart => exact ⟨(0), (by first | rfl | (simp; done) | (simp [*]; done) | (simp [Go.Proofs.YtjmcndbkmknemaaX.isEmpty_ne]; done)), H', ⟨Nat.le_refl _⟩, by repeat (first | exact Drawn0.refl _ | apply Drawn0.step)⟩
  case round =>
    clear H'
    try clear p2
    obtain ⟨x5_1, rfl, HA, HK1, ⟨m1, rfl⟩⟩ := hrel
    cases gk with
    | zero => exact absurd HA.out (by simp [spec_indexOf.l0])
    | succ k1 =>
      have H := HA.out
      clear HA
      simp only [spec_indexOf.l0] at H
      by_cases c3 : x5_1 < (a0.size : Int)
      · rw [if_pos c3] at H
        have c3b0 : decide (x5_1 < (a0.size : Int)) = true := decide_eq_true c3
        clear c3
        by_cases c4 : 0 ≤ x5_1
        · rw [if_pos c4] at H
          have c4b0 : decide (0 ≤ x5_1) = true := decide_eq_true c4
          clear c4
          by_cases c6 : (bt a0 x5_1) = a1
          · rw [if_pos c6] at H
            have c6b0 : ((bt a0 x5_1) == a1) = true := beq_iff_eq.mpr c6
            have c6b1 : ((bt a0 x5_1) != a1) = false := bne_eq_false_iff_eq.mpr c6
            clear c6
            obtain rfl := Option.some.inj H
            have p5 : 0 ≤ (x5_1 : Int) := of_decide_eq_true (by first | (with_reducible assumption) | assumption)
            have q5 : x5_1 < (a0.size : Int) := of_decide_eq_true (by first | (with_reducible assumption) | assumption)
            have hx5 := bt_at a0 x5_1
            replace p5 := eq_true p5
            replace q5 := eq_true q5
            go_wp2
            go_ret
            exact ⟨by first | rfl | (simp; done) | (simp [*]; done) | (simp [Go.Proofs.YtjmcndbkmknemaaX.isEmpty_ne]; done), by repeat (first | exact Drawn0.refl _ | apply Drawn0.step)⟩
          · rw [if_neg c6] at H
            have c6b0 : ((bt a0 x5_1) == a1) = false := beq_eq_false_iff_ne.mpr c6
            have c6b1 : ((bt a0 x5_1) != a1) = true := bne_iff_ne.mpr c6
            have H' := Aside0.mk H
            clear H
            have p5 : 0 ≤ (x5_1 : Int) := of_decide_eq_true (by first | (with_reducible assumption) | assumption)
            have q5 : x5_1 < (a0.size : Int) := of_decide_eq_true (by first | (with_reducible assumption) | assumption)
            have hx5 := bt_at a0 x5_1
            replace p5 := eq_true p5
            replace q5 := eq_true q5
            go_wp2
            go_roundg k1
            case measure => have := HK1.out; omega
            case rel => exact ⟨(wrap64 (x5_1 + 1)), (by first | rfl | (simp; done) | (simp [*]; done) | (simp [Go.Proofs.YtjmcndbkmknemaaX.isEmpty_ne]; done)), H', ⟨by have := HK1.out; omega⟩, by repeat (first | exact Drawn0.refl _ | apply Drawn0.step)⟩
        · rw [if_neg c4] at H
          exact absurd H (by simp)
      · rw [if_neg c3] at H
        have c3b0 : decide (x5_1 < (a0.size : Int)) = false := decide_eq_false c3
        clear c3
        obtain rfl := Option.some.inj H
        go_wp2
        go_ret
        exact ⟨by first | rfl | (simp; done) | (simp [*]; done) | (simp [Go.Proofs.YtjmcndbkmknemaaX.isEmpty_ne]; done), by repeat (first | exact Drawn0.refl _ | apply Drawn0.step)⟩

end Go.Proofs.Ytjmcndbkmknemaa.Q
