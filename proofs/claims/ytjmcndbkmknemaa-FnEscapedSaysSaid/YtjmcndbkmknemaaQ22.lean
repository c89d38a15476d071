-- Written by a program of this session out of the translation, with the kit's printer. Not trusted: Lean checks it.
import Derived.Test.YtjmcndbkmknemaaQ0
import Derived.Test.YtjmcndbkmknemaaQ21
namespace Go.Proofs.Ytjmcndbkmknemaa.Q
open Go.RowKit Go.Proofs.YtjmcndbkmknemaaW.PrintWords Go.Proofs.YtjmcndbkmknemaaW.PrintLast Go.Proofs.YtjmcndbkmknemaaW.PrintMore
attribute [local go_sem] max2_int min2_int max_two min_two max_three min_three max_four min_four   -- for this text's walks alone
set_option linter.unusedVariables false
set_option linter.unusedSimpArgs false

/-! ### impl_QuotedPath: function 34 -/
def impl_QuotedPath.f (k : Nat) (a0 : ByteArray) : Option (ByteArray) := (conv67.f a0).bind fun t230 => ((hertzconv_AppendQuotedPath.f k ([] : List Int) t230).bind fun t233 => (some (strOfNums t233)))
theorem impl_QuotedPath.mono : ∀ a0 k, LeO (impl_QuotedPath.f k a0) (impl_QuotedPath.f (k + 1) a0) := by
  intro a0 k
  unfold impl_QuotedPath.f
  repeat' first
      | (with_reducible exact hertzconv_AppendQuotedPath.mono _ _ _)
      | (with_reducible exact LeO.refl _)
      | (with_reducible exact LeO.none _)
      | (with_reducible refine LeO.ite ?_ ?_)
      | (with_reducible refine LeO.bind ?_ (fun _ => ?_))
      | exact hertzconv_AppendQuotedPath.mono _ _ _
      | exact LeO.none _
      | refine LeO.ite ?_ ?_
      | refine LeO.bind ?_ (fun _ => ?_)
set_option maxHeartbeats 8000000 in
set_option maxRecDepth 100000 in
theorem impl_QuotedPath.calls (k : Nat) (a0 : ByteArray) (r : ByteArray) (w : World) (h : impl_QuotedPath.f k a0 = some r) :
    Calls Try.prog 34 #[.string a0] w fun e w' => e = .returned (.string r) ∧ Below w.heap.size w w' := by
  have HB := Aside0.mk (Below.refl w.heap.size w)
  have H : ((conv67.f a0).bind fun t230 => ((hertzconv_AppendQuotedPath.f k ([] : List Int) t230).bind fun t233 => (some (strOfNums t233)))) = some r := h
  clear h
  replace H := Option.bind_eq_some_iff.mp H
  obtain ⟨t230, A20, H⟩ := H
  replace H : ((hertzconv_AppendQuotedPath.f k ([] : List Int) t230).bind fun t233 => (some (strOfNums t233))) = some r := H
  have A2 := Aside0.mk A20
  clear A20
  replace H := Option.bind_eq_some_iff.mp H
  obtain ⟨t233, A30, H⟩ := H
  replace H : (some (strOfNums t233)) = some r := H
  have A3 := Aside0.mk A30
  clear A30
  obtain rfl := Option.some.inj H
  go_enter Try.func34, Try.ntmps34
  go_wp2_with (first | (refine Go.Proofs.YtjmcndbkmknemaaX.convL_ (some 4) rfl rfl 9 67 _ rfl a0 rfl ?_; (with_reducible refine (conv67.calls a0 t230 _ A2.out).mono ?_); rintro e w4 ⟨v231, rfl, ho0, hb⟩; refine ⟨_, rfl, ?_⟩; have n0_ := Aside0.mk (Kd.V_lower (Kd.V_mono (ok' := fun k_ => True) ho0 (fun k_ hk_ => trivial)) (below_size (by repeat (first | (with_reducible first | exact HB.out | apply below_alloc | apply pw_below_drewN | apply below_drew1) | exact HB.out)))); have n1_ := Aside0.mk (below_step (by repeat (first | (with_reducible first | exact HB.out | apply below_alloc | apply pw_below_drewN | apply below_drew1) | exact HB.out)) hb); clear HB; have HO232 := n0_; have HB := n1_; clear n0_ n1_; (try clear hb); (try clear hb2); (try clear hk); (try clear hi); (try clear ho0); obtain ⟨Ao5, co5, eo5⟩ := Kd.V_slice HO232.out; subst eo5) | ((with_reducible refine gate_callee (f := 55) rfl ?_); refine goesL_ (some 5) rfl rfl Try.func55 (by kernel_rfl) rfl #[.slice none 0 0, .slice Ao5 t230.length co5] rfl (by (try simp only [List.map_toArray, List.map_cons, List.map_nil]); first | done | rfl | (simp only [List.length_drop, List.length_take]; rfl)) ?_; (refine (hertzconv_AppendQuotedPath.calls k (fun k_ => some k_ = (.slice none 0 0 : Value).ownBlock) (.slice none 0 0) ([] : List Int) _ _ t230 t233 w _ ?side1 ?side2 ?side3 ?side4 A3.out).mono ?_); (case side1 => repeat (first | (with_reducible first | exact HB.out | apply below_alloc | apply pw_below_drewN | apply below_drew1) | exact HB.out)); (case side2 => exact Kd.R_nil _ _ _ _ _); (case side3 => exact Kd.C_kept_ownV (HO232.out) (fun k_ hk_ hs_ => (fun e_ => by simp [Value.ownBlock] at e_) hs_)); (case side4 => exact (Kd.V_reads' HO232.out).2.1); rintro e w6 ⟨v234, rfl, ho0, hb, hkp⟩; refine ⟨_, rfl, ?_⟩; have n0_ := Aside0.mk (Kd.V_mono (ok' := fun k_ => some k_ ≠ (v234 : Value).ownBlock) (Kd.V_keptB (HO232.out) hkp (fun k_ hk_ hs_ => (fun e_ => by simp [Value.ownBlock] at e_) hs_)) (fun k_ hk_ => fun e_ => Or.elim (ho0.1 k_ e_.symm) (fun hs_ => hk_.2.1 hs_) (fun hn_ => Nat.not_le.2 hk_.2.2 hn_))); have n1_ := Aside0.mk (Kd.R_mono (ok' := fun k_ => True) ho0 (fun k_ hk_ => trivial)); have n2_ := Aside0.mk (hb); clear HO232; clear HB; have HO232 := n0_; have HO235 := n1_; have HB := n2_; clear n0_ n1_ n2_; (try clear hb); (try clear hkp); (try clear ho0); have hcv7 := own_string (P := Try.prog) Try.underlying67 Try.underlying5 Try.underlying9 (Kd.own_of_R HO235.out)))
  go_ret
  exact ⟨by first | rfl | (simp [errW_none, errW_some] <;> rfl) | (simp [*, errW_none, errW_some] <;> rfl), by repeat (first | (with_reducible first | exact HB.out | apply below_alloc | apply pw_below_drewN | apply below_drew1) | exact HB.out)⟩

end Go.Proofs.Ytjmcndbkmknemaa.Q
