import Derived.Test.YtjklempjljikpaaAr10
import Derived.Test.YtjklempjljikpaaQ0
import Derived.Test.YtjklempjljikpaaQ5
-- Written by a program of this session out of the translation, with the kit's printer. Not trusted: Lean checks it.
namespace Go.Proofs.Ytjklempjljikpaa.Q
open Go.RowKit Go.Proofs.YtjklempjljikpaaW.PrintWords Go.Proofs.YtjklempjljikpaaW.PrintLast Go.Proofs.YtjklempjljikpaaW.PrintMore
attribute [local go_sem] max2_int min2_int max_two min_two max_three min_three max_four min_four   -- for this text's walks alone
set_option linter.unusedVariables false
set_option linter.unusedSimpArgs false

/-! ### impl_ArgsText: function 25 -/
-- USES Ar10
def impl_ArgsText.f (l0 : List S36) : Option (ByteArray) := if l0.length ≤ 2147483647 ∧ (∀ x ∈ l0, x.f0.size ≤ 2147483647 ∧ x.f1.size ≤ 2147483647) ∧ (textL (l0.map en36)).length ≤ 1000000000000 then some ⟨(textL (l0.map en36)).toArray⟩ else none
theorem impl_ArgsText.calls (A0 : Option Addr) (c0 : Nat) (l0 : List (S36)) (r : ByteArray) (w : World) (hr0 : Kd.C k36 w A0 l0.length l0) (hc0 : l0.length ≤ c0) (h : impl_ArgsText.f l0 = some r) :
    Calls Try.prog 25 #[.slice A0 l0.length c0] w fun e w' => e = .returned (.string r) ∧ Below w.heap.size w w' := by
  unfold impl_ArgsText.f at h
  split at h
  · rename_i hc
    obtain rfl := Option.some.inj h
    exact argsText_calls w A0 c0 l0 hr0 hc0 hc.1 hc.2.1 hc.2.2
  · cases h
--
--
--
--
--
--
--
--
--
--
--
--
--
--
--
--
--
--
--
--
--
--
--
--
--
--
--
--
--
--
--
--
--
--
--
--
--
--
--
--
--
--
--
--
--
--
--
--
--
--
--
--
--
--
--
--
--
--
--
--
--
--
--
--
--
--
--
--
--
--
--
--
--
--
--
--
--
--
--
--
--
--
--
--
--
--
--
--
--
--
--
--
--
--
--
--
--
--
--
--
--
--
--
--
--
--
--
--
--
--
--
--
--
--
--
--
--
--
--
--
--
--
--
--
--
--
--
--
--
--
--
--
--
--
--
--
--
--
--
--
--
--
--
--
--
--
--
--
--
--
--
--
--
--
--
--
--
--
--
--
--
--
--
--
--
--
--
--
--
--
--
--
--
--
--
--
--
--
--
--
--
--
--
--
--
--
--
--
--
--
--
--
--
--
--
--
--
--
--
--
--
--
--
--
--
--
--
--
--
--
--
--
--
--
--
--
--
--
--
--
--
--
--
--
--
--
--
--
--
--
--
--
--
--
--
--
--
--
--
--
--
--
--
--
--
--
--
--
--
--
--
--
--
--
--
--
--
--
--
--
--
--
--
--
--
--
--
--
--
--
--
--
--
--
--
--
--
--
--
--
--
--
--
--
--
--
--
--
--
--
--
--
--
--
--
--
--
--
--
--
--
--
--
--
--
--
--
--
--
--
--
--
--
--
--
--
--
--
--
--
--
--
--
--
--
--
--
--
--
--
--
--
--
--
--
--
--
--
--
--
--
--
--
--
--
--
--
--
--
--
--
--
--
--
--
--
--
--
--
--
--
--
--
--
--
--
--
--
--
--
--
--
--
--
--
--
--
--
--
--
--
--
--
--
--
--
--
--
--
--
--
--
--
--
--
--
--
--
--
--

end Go.Proofs.Ytjklempjljikpaa.Q

-- Written by a program of this session out of the translation, with the kit's printer. Not trusted: Lean checks it.
namespace Go.Proofs.Ytjklempjljikpaa.Q
open Go.RowKit Go.Proofs.YtjklempjljikpaaW.PrintWords Go.Proofs.YtjklempjljikpaaW.PrintLast Go.Proofs.YtjklempjljikpaaW.PrintMore
attribute [local go_sem] max2_int min2_int max_two min_two max_three min_three max_four min_four   -- for this text's walks alone
set_option linter.unusedVariables false
set_option linter.unusedSimpArgs false

/-! ### laws_reads: function 22 -/
def laws_reads.f (k : Nat)  : Option (Bool) := (impl_ArgsOf.f (⟨#[97, 61, 98]⟩ : ByteArray)).bind fun t171 => ((laws_sameArgs.f k t171 (([(⟨(⟨#[97]⟩ : ByteArray), (⟨#[98]⟩ : ByteArray), false⟩ : S36)] : List (S36)))).bind fun t177 => (if t177 = true then ((impl_ArgsText.f (([(⟨(⟨#[97]⟩ : ByteArray), (⟨#[98]⟩ : ByteArray), false⟩ : S36)] : List (S36)))).bind fun t181 => (some (t181.toList == ([97, 61, 98] : List UInt8)))) else (some false)))
theorem laws_reads.mono : ∀ k, LeO (laws_reads.f k ) (laws_reads.f (k + 1) ) := by
  intro  k
  unfold laws_reads.f
  repeat' first
      | (with_reducible exact laws_sameArgs.mono _ _ _)
      | (with_reducible exact LeO.refl _)
      | (with_reducible exact LeO.none _)
      | (with_reducible refine LeO.ite ?_ ?_)
      | (with_reducible refine LeO.bind ?_ (fun _ => ?_))
      | exact laws_sameArgs.mono _ _ _
      | exact LeO.none _
      | refine LeO.ite ?_ ?_
      | refine LeO.bind ?_ (fun _ => ?_)
set_option maxHeartbeats 8000000 in
set_option maxRecDepth 100000 in
theorem laws_reads.calls (k : Nat)  (r : Bool) (w : World) (h : laws_reads.f k  = some r) :
    Calls Try.prog 22 #[] w fun e w' => e = .returned (.bool r) ∧ Below w.heap.size w w' := by
  have hu36 := Try.underlying36
  have HB := Aside0.mk (Below.refl w.heap.size w)
  have H : ((impl_ArgsOf.f (⟨#[97, 61, 98]⟩ : ByteArray)).bind fun t171 => ((laws_sameArgs.f k t171 (([(⟨(⟨#[97]⟩ : ByteArray), (⟨#[98]⟩ : ByteArray), false⟩ : S36)] : List (S36)))).bind fun t177 => (if t177 = true then ((impl_ArgsText.f (([(⟨(⟨#[97]⟩ : ByteArray), (⟨#[98]⟩ : ByteArray), false⟩ : S36)] : List (S36)))).bind fun t181 => (some (t181.toList == ([97, 61, 98] : List UInt8)))) else (some false)))) = some r := h
  clear h
  replace H := Option.bind_eq_some_iff.mp H
  obtain ⟨t171, A10, H⟩ := H
  replace H : ((laws_sameArgs.f k t171 (([(⟨(⟨#[97]⟩ : ByteArray), (⟨#[98]⟩ : ByteArray), false⟩ : S36)] : List (S36)))).bind fun t177 => (if t177 = true then ((impl_ArgsText.f (([(⟨(⟨#[97]⟩ : ByteArray), (⟨#[98]⟩ : ByteArray), false⟩ : S36)] : List (S36)))).bind fun t181 => (some (t181.toList == ([97, 61, 98] : List UInt8)))) else (some false))) = some r := H
  have A1 := Aside0.mk A10
  clear A10
  obtain ⟨y174, hy174⟩ : ∃ y_ : List (S36), y_ = (([(⟨(⟨#[97]⟩ : ByteArray), (⟨#[98]⟩ : ByteArray), false⟩ : S36)] : List (S36))) := ⟨_, rfl⟩
  replace H : ((laws_sameArgs.f k t171 y174).bind fun t177 => (if t177 = true then ((impl_ArgsText.f (([(⟨(⟨#[97]⟩ : ByteArray), (⟨#[98]⟩ : ByteArray), false⟩ : S36)] : List (S36)))).bind fun t181 => (some (t181.toList == ([97, 61, 98] : List UInt8)))) else (some false))) = some r := by first | (rw [hy174]; with_reducible exact H) | (have H2_ := (Option.bind_some _ _).symm.trans H; rw [hy174]; with_reducible exact H2_) | (have H2_ := (Option.bind_some _ _).symm.trans H; with_reducible exact H2_) | with_reducible exact H | (rw [hy174]; exact H) | exact H
  have Ny174 := Aside0.mk hy174
  clear hy174
  replace H := Option.bind_eq_some_iff.mp H
  obtain ⟨t177, A20, H⟩ := H
  replace H : (if t177 = true then ((impl_ArgsText.f (([(⟨(⟨#[97]⟩ : ByteArray), (⟨#[98]⟩ : ByteArray), false⟩ : S36)] : List (S36)))).bind fun t181 => (some (t181.toList == ([97, 61, 98] : List UInt8)))) else (some false)) = some r := H
  have A2 := Aside0.mk A20
  clear A20
  by_cases c3 : t177 = true
  · subst c3
    have H1 : ((impl_ArgsText.f (([(⟨(⟨#[97]⟩ : ByteArray), (⟨#[98]⟩ : ByteArray), false⟩ : S36)] : List (S36)))).bind fun t181 => (some (t181.toList == ([97, 61, 98] : List UInt8)))) = some r := by rw [if_pos rfl] at H; exact H
    clear H
    have H := H1
    clear H1
    obtain ⟨y178, hy178⟩ : ∃ y_ : List (S36), y_ = (([(⟨(⟨#[97]⟩ : ByteArray), (⟨#[98]⟩ : ByteArray), false⟩ : S36)] : List (S36))) := ⟨_, rfl⟩
    replace H : ((impl_ArgsText.f y178).bind fun t181 => (some (t181.toList == ([97, 61, 98] : List UInt8)))) = some r := by first | (rw [hy178]; with_reducible exact H) | (have H2_ := (Option.bind_some _ _).symm.trans H; rw [hy178]; with_reducible exact H2_) | (have H2_ := (Option.bind_some _ _).symm.trans H; with_reducible exact H2_) | with_reducible exact H | (rw [hy178]; exact H) | exact H
    have Ny178 := Aside0.mk hy178
    clear hy178
    replace H := Option.bind_eq_some_iff.mp H
    obtain ⟨t181, A40, H⟩ := H
    replace H : (some (t181.toList == ([97, 61, 98] : List UInt8))) = some r := H
    have A4 := Aside0.mk A40
    clear A40
    obtain rfl := Option.some.inj H
    go_enter Try.func22, Try.ntmps22
    go_wp2_with (first | ((with_reducible refine gate_callee (f := 23) rfl ?_); refine goesL_ (some 1) rfl rfl Try.func23 (by kernel_rfl) rfl #[.string (⟨#[97, 61, 98]⟩ : ByteArray)] rfl (by (try simp only [List.map_toArray, List.map_cons, List.map_nil]); first | done | rfl | (simp only [List.length_drop, List.length_take]; rfl)) ?_; (with_reducible refine (impl_ArgsOf.calls (⟨#[97, 61, 98]⟩ : ByteArray) t171 _ A1.out).mono ?_); rintro e w5 ⟨v172, rfl, ho0, hb⟩; refine ⟨_, rfl, ?_⟩; have n0_ := Aside0.mk (Kd.R_lower ho0 (below_size (by repeat (first | (with_reducible first | exact HB.out | apply below_alloc | apply pw_below_drewN | apply below_drew1) | exact HB.out)))); have n1_ := Aside0.mk (below_step (by repeat (first | (with_reducible first | exact HB.out | apply below_alloc | apply pw_below_drewN | apply below_drew1) | exact HB.out)) hb); clear HB; have HO173 := n0_; have HB := n1_; clear n0_ n1_; (try clear hb); (try clear hb2); (try clear hk); (try clear hi); (try clear ho0)) | ((with_reducible refine gate_dst (N := 3) rfl ?_); (try (refine gate_guard (by rfl) ?_; dsimp only)); refine Kd.R_lit k36 _ 36 ?hg (N := 3) ?hd (xs := ([(⟨(⟨#[97]⟩ : ByteArray), (⟨#[98]⟩ : ByteArray), false⟩ : S36)] : List (S36))) (inner := [.string (⟨#[97]⟩ : ByteArray), .string (⟨#[98]⟩ : ByteArray), .bool false]) (ok := fun _ => True) (okp := fun _ => True) ?hr ?hp (fun _ hk => hk) trivial (Below.refl _ _) (Nat.le_refl _) (by simp) ?_; (case hd => rfl); (case hg => rfl); (case hr => first | (go_simp; done) | (go_simp; rfl)); (case hp => exact (Reps.c3 (show Kd.M k36 _ _ _ (⟨(⟨#[97]⟩ : ByteArray), (⟨#[98]⟩ : ByteArray), false⟩ : S36) [.string (⟨#[97]⟩ : ByteArray), .string (⟨#[98]⟩ : ByteArray), .bool false] from (k36_mkM _ _ _ (⟨(⟨#[97]⟩ : ByteArray), (⟨#[98]⟩ : ByteArray), false⟩ : S36) )) (Reps.none _ _))); intro v175 w6 ho7 hb hg_ hnew_; clear hg_ hnew_; (first | rw [← Ny174.out] at ho7 | (simp only [Int.reduceToNat] at ho7; rw [← Ny174.out] at ho7)); have n0_ := Aside0.mk (Kd.R_elder' (by (with_reducible repeat (first | apply Kd.R_alloc | apply Kd.R_drewN | apply Kd.R_drew)); exact HO173.out) (Kd.R_base ho7) hb); have n1_ := Aside0.mk (Kd.R_lower (Kd.R_new' ho7 (Kd.R_lt (by (with_reducible repeat (first | apply Kd.R_alloc | apply Kd.R_drewN | apply Kd.R_drew)); exact HO173.out))) (below_size (by repeat (first | (with_reducible first | exact HB.out | apply below_alloc | apply pw_below_drewN | apply below_drew1) | exact HB.out)))); have n2_ := Aside0.mk (below_step (by repeat (first | (with_reducible first | exact HB.out | apply below_alloc | apply pw_below_drewN | apply below_drew1) | exact HB.out)) hb); clear HO173; clear HB; have HO173 := n0_; have HO176 := n1_; have HB := n2_; clear n0_ n1_ n2_; clear hb ho7; obtain ⟨Ao8, co8, eo8⟩ := Kd.R_slice HO173.out; subst eo8; obtain ⟨Ao9, co9, eo9⟩ := Kd.R_slice HO176.out; subst eo9) | ((with_reducible refine gate_callee (f := 24) rfl ?_); refine goesL_ (some 4) rfl rfl Try.func24 (by kernel_rfl) rfl #[.slice Ao8 t171.length co8, .slice Ao9 y174.length co9] rfl (by (try simp only [List.map_toArray, List.map_cons, List.map_nil]); first | done | rfl | (simp only [List.length_drop, List.length_take]; rfl)) ?_; (with_reducible refine (laws_sameArgs.calls k _ _ t171 _ _ y174 true _ ?side1 ?side2 ?side3 ?side4 A2.out).mono ?_); (case side1 => repeat (first | exact (Kd.R_reads' HO173.out).2.2 | (with_reducible refine Kd.C_alloc ?_ _) | (with_reducible refine Kd.C_drewN ?_ _) | (with_reducible refine Kd.C_drew ?_))); (case side2 => exact (Kd.R_reads' HO173.out).2.1); (case side3 => repeat (first | exact (Kd.R_reads' HO176.out).2.2 | (with_reducible refine Kd.C_alloc ?_ _) | (with_reducible refine Kd.C_drewN ?_ _) | (with_reducible refine Kd.C_drew ?_))); (case side4 => exact (Kd.R_reads' HO176.out).2.1); rintro e w' ⟨rfl, ⟨nd, rfl⟩⟩; refine ⟨_, rfl, ?_⟩) | ((with_reducible refine gate_dst (N := 7) rfl ?_); (try (refine gate_guard (by rfl) ?_; dsimp only)); refine Kd.R_lit k36 _ 36 ?hg (N := 7) ?hd (xs := ([(⟨(⟨#[97]⟩ : ByteArray), (⟨#[98]⟩ : ByteArray), false⟩ : S36)] : List (S36))) (inner := [.string (⟨#[97]⟩ : ByteArray), .string (⟨#[98]⟩ : ByteArray), .bool false]) (ok := fun _ => True) (okp := fun _ => True) ?hr ?hp (fun _ hk => hk) trivial (Below.refl _ _) (Nat.le_refl _) (by simp) ?_; (case hd => rfl); (case hg => rfl); (case hr => first | (go_simp; done) | (go_simp; rfl)); (case hp => exact (Reps.c3 (show Kd.M k36 _ _ _ (⟨(⟨#[97]⟩ : ByteArray), (⟨#[98]⟩ : ByteArray), false⟩ : S36) [.string (⟨#[97]⟩ : ByteArray), .string (⟨#[98]⟩ : ByteArray), .bool false] from (k36_mkM _ _ _ (⟨(⟨#[97]⟩ : ByteArray), (⟨#[98]⟩ : ByteArray), false⟩ : S36) )) (Reps.none _ _))); intro v179 w10 ho11 hb hg_ hnew_; clear hg_ hnew_; (first | rw [← Ny178.out] at ho11 | (simp only [Int.reduceToNat] at ho11; rw [← Ny178.out] at ho11)); have n0_ := Aside0.mk (Kd.R_elder' (by (with_reducible repeat (first | apply Kd.R_alloc | apply Kd.R_drewN | apply Kd.R_drew)); exact HO173.out) (Kd.R_base ho11) hb); have n1_ := Aside0.mk (Kd.R_elder' (by (with_reducible repeat (first | apply Kd.R_alloc | apply Kd.R_drewN | apply Kd.R_drew)); exact HO176.out) (Kd.R_base ho11) hb); have n2_ := Aside0.mk (Kd.R_lower (Kd.R_new' (Kd.R_new' ho11 (Kd.R_lt (by (with_reducible repeat (first | apply Kd.R_alloc | apply Kd.R_drewN | apply Kd.R_drew)); exact HO173.out))) (Kd.R_lt (by (with_reducible repeat (first | apply Kd.R_alloc | apply Kd.R_drewN | apply Kd.R_drew)); exact HO176.out))) (below_size (by repeat (first | (with_reducible first | exact HB.out | apply below_alloc | apply pw_below_drewN | apply below_drew1) | exact HB.out)))); have n3_ := Aside0.mk (below_step (by repeat (first | (with_reducible first | exact HB.out | apply below_alloc | apply pw_below_drewN | apply below_drew1) | exact HB.out)) hb); clear HO173; clear HO176; clear HB; have HO173 := n0_; have HO176 := n1_; have HO180 := n2_; have HB := n3_; clear n0_ n1_ n2_ n3_; clear hb ho11; obtain ⟨Ao12, co12, eo12⟩ := Kd.R_slice HO180.out; subst eo12) | (go_at_call 25; (with_reducible refine (impl_ArgsText.calls _ _ y178 t181 _ ?side1 ?side2 A4.out).mono ?_); (case side1 => repeat (first | exact (Kd.R_reads' HO180.out).2.2 | (with_reducible refine Kd.C_alloc ?_ _) | (with_reducible refine Kd.C_drewN ?_ _) | (with_reducible refine Kd.C_drew ?_))); (case side2 => exact (Kd.R_reads' HO180.out).2.1); rintro e w13 ⟨rfl, hb⟩; have n0_ := Aside0.mk (Kd.R_below (by (with_reducible repeat (first | apply Kd.R_alloc | apply Kd.R_drewN | apply Kd.R_drew)); exact HO173.out) hb); have n1_ := Aside0.mk (Kd.R_below (by (with_reducible repeat (first | apply Kd.R_alloc | apply Kd.R_drewN | apply Kd.R_drew)); exact HO176.out) hb); have n2_ := Aside0.mk (Kd.R_below (by (with_reducible repeat (first | apply Kd.R_alloc | apply Kd.R_drewN | apply Kd.R_drew)); exact HO180.out) hb); have n3_ := Aside0.mk (below_step (by repeat (first | (with_reducible first | exact HB.out | apply below_alloc | apply pw_below_drewN | apply below_drew1) | exact HB.out)) hb); clear HO173; clear HO176; clear HO180; clear HB; have HO173 := n0_; have HO176 := n1_; have HO180 := n2_; have HB := n3_; clear n0_ n1_ n2_ n3_; (try clear hb); (try clear hb2); (try clear hk); (try clear hi)))
    go_ret
    exact ⟨by first | rfl | (simp [errW_none, errW_some] <;> rfl) | (simp [*, errW_none, errW_some] <;> rfl), by repeat (first | (with_reducible first | exact HB.out | apply below_alloc | apply pw_below_drewN | apply below_drew1) | exact HB.out)⟩
  · replace c3 := Bool.eq_false_iff.mpr c3
    subst c3
    have H1 : (some false) = some r := by rw [if_neg (show ¬ (false = true) by decide)] at H; exact H
    clear H
    have H := H1
    clear H1
    obtain rfl := Option.some.inj H
    go_enter Try.func22, Try.ntmps22
    go_wp2_with (first | ((with_reducible refine gate_callee (f := 23) rfl ?_); refine goesL_ (some 1) rfl rfl Try.func23 (by kernel_rfl) rfl #[.string (⟨#[97, 61, 98]⟩ : ByteArray)] rfl (by (try simp only [List.map_toArray, List.map_cons, List.map_nil]); first | done | rfl | (simp only [List.length_drop, List.length_take]; rfl)) ?_; (with_reducible refine (impl_ArgsOf.calls (⟨#[97, 61, 98]⟩ : ByteArray) t171 _ A1.out).mono ?_); rintro e w14 ⟨v172, rfl, ho0, hb⟩; refine ⟨_, rfl, ?_⟩; have n0_ := Aside0.mk (Kd.R_lower ho0 (below_size (by repeat (first | (with_reducible first | exact HB.out | apply below_alloc | apply pw_below_drewN | apply below_drew1) | exact HB.out)))); have n1_ := Aside0.mk (below_step (by repeat (first | (with_reducible first | exact HB.out | apply below_alloc | apply pw_below_drewN | apply below_drew1) | exact HB.out)) hb); clear HB; have HO173 := n0_; have HB := n1_; clear n0_ n1_; (try clear hb); (try clear hb2); (try clear hk); (try clear hi); (try clear ho0)) | ((with_reducible refine gate_dst (N := 3) rfl ?_); (try (refine gate_guard (by rfl) ?_; dsimp only)); refine Kd.R_lit k36 _ 36 ?hg (N := 3) ?hd (xs := ([(⟨(⟨#[97]⟩ : ByteArray), (⟨#[98]⟩ : ByteArray), false⟩ : S36)] : List (S36))) (inner := [.string (⟨#[97]⟩ : ByteArray), .string (⟨#[98]⟩ : ByteArray), .bool false]) (ok := fun _ => True) (okp := fun _ => True) ?hr ?hp (fun _ hk => hk) trivial (Below.refl _ _) (Nat.le_refl _) (by simp) ?_; (case hd => rfl); (case hg => rfl); (case hr => first | (go_simp; done) | (go_simp; rfl)); (case hp => exact (Reps.c3 (show Kd.M k36 _ _ _ (⟨(⟨#[97]⟩ : ByteArray), (⟨#[98]⟩ : ByteArray), false⟩ : S36) [.string (⟨#[97]⟩ : ByteArray), .string (⟨#[98]⟩ : ByteArray), .bool false] from (k36_mkM _ _ _ (⟨(⟨#[97]⟩ : ByteArray), (⟨#[98]⟩ : ByteArray), false⟩ : S36) )) (Reps.none _ _))); intro v175 w15 ho16 hb hg_ hnew_; clear hg_ hnew_; (first | rw [← Ny174.out] at ho16 | (simp only [Int.reduceToNat] at ho16; rw [← Ny174.out] at ho16)); have n0_ := Aside0.mk (Kd.R_elder' (by (with_reducible repeat (first | apply Kd.R_alloc | apply Kd.R_drewN | apply Kd.R_drew)); exact HO173.out) (Kd.R_base ho16) hb); have n1_ := Aside0.mk (Kd.R_lower (Kd.R_new' ho16 (Kd.R_lt (by (with_reducible repeat (first | apply Kd.R_alloc | apply Kd.R_drewN | apply Kd.R_drew)); exact HO173.out))) (below_size (by repeat (first | (with_reducible first | exact HB.out | apply below_alloc | apply pw_below_drewN | apply below_drew1) | exact HB.out)))); have n2_ := Aside0.mk (below_step (by repeat (first | (with_reducible first | exact HB.out | apply below_alloc | apply pw_below_drewN | apply below_drew1) | exact HB.out)) hb); clear HO173; clear HB; have HO173 := n0_; have HO176 := n1_; have HB := n2_; clear n0_ n1_ n2_; clear hb ho16; obtain ⟨Ao17, co17, eo17⟩ := Kd.R_slice HO173.out; subst eo17; obtain ⟨Ao18, co18, eo18⟩ := Kd.R_slice HO176.out; subst eo18) | ((with_reducible refine gate_callee (f := 24) rfl ?_); refine goesL_ (some 4) rfl rfl Try.func24 (by kernel_rfl) rfl #[.slice Ao17 t171.length co17, .slice Ao18 y174.length co18] rfl (by (try simp only [List.map_toArray, List.map_cons, List.map_nil]); first | done | rfl | (simp only [List.length_drop, List.length_take]; rfl)) ?_; (with_reducible refine (laws_sameArgs.calls k _ _ t171 _ _ y174 false _ ?side1 ?side2 ?side3 ?side4 A2.out).mono ?_); (case side1 => repeat (first | exact (Kd.R_reads' HO173.out).2.2 | (with_reducible refine Kd.C_alloc ?_ _) | (with_reducible refine Kd.C_drewN ?_ _) | (with_reducible refine Kd.C_drew ?_))); (case side2 => exact (Kd.R_reads' HO173.out).2.1); (case side3 => repeat (first | exact (Kd.R_reads' HO176.out).2.2 | (with_reducible refine Kd.C_alloc ?_ _) | (with_reducible refine Kd.C_drewN ?_ _) | (with_reducible refine Kd.C_drew ?_))); (case side4 => exact (Kd.R_reads' HO176.out).2.1); rintro e w' ⟨rfl, ⟨nd, rfl⟩⟩; refine ⟨_, rfl, ?_⟩))
    go_ret
    exact ⟨by first | rfl | (simp [errW_none, errW_some] <;> rfl) | (simp [*, errW_none, errW_some] <;> rfl), by repeat (first | (with_reducible first | exact HB.out | apply below_alloc | apply pw_below_drewN | apply below_drew1) | exact HB.out)⟩

/-! ### spec_hexOf: function 48 -/
mutual
def spec_hexOf.j0 : Nat → Int → Bool → Option (Int)
  | 0, _, _ => none
  | k + 1, x0, x3 => if x3 = true then (some ((x0 - 48) % 256)) else (if x0 ≥ 97 then (spec_hexOf.j1 k x0 (decide (x0 ≤ 102))) else (spec_hexOf.j1 k x0 false))
def spec_hexOf.j1 : Nat → Int → Bool → Option (Int)
  | 0, _, _ => none
  | k + 1, x0, x13 => if x13 = true then (some (((x0 - 97) % 256) + 10)) else (if x0 ≥ 65 then (if x0 ≤ 70 then (some (((x0 - 65) % 256) + 10)) else (some (-1))) else (some (-1)))
end
def spec_hexOf.f (k : Nat) (a0 : Int) : Option (Int) := if a0 ≥ 48 then (spec_hexOf.j0 k a0 (decide (a0 ≤ 57))) else (spec_hexOf.j0 k a0 false)
theorem spec_hexOf.mono_l : ∀ k, (∀ y0 y1, LeO (spec_hexOf.j0 k y0 y1) (spec_hexOf.j0 (k + 1) y0 y1)) ∧ (∀ y0 y1, LeO (spec_hexOf.j1 k y0 y1) (spec_hexOf.j1 (k + 1) y0 y1))
  | 0 => ⟨fun _ _ r h => by simp [spec_hexOf.j0] at h, fun _ _ r h => by simp [spec_hexOf.j1] at h⟩
  | k + 1 => by
    obtain ⟨ih0, ih1⟩ := spec_hexOf.mono_l k
    refine ⟨?_, ?_⟩
    · intro y0 y1
      unfold spec_hexOf.j0
      repeat' first
      | (with_reducible exact ih0 _ _)
      | (with_reducible exact ih1 _ _)
      | (with_reducible exact LeO.refl _)
      | (with_reducible exact LeO.none _)
      | (with_reducible refine LeO.ite ?_ ?_)
      | (with_reducible refine LeO.bind ?_ (fun _ => ?_))
      | exact ih0 _ _
      | exact ih1 _ _
      | exact LeO.none _
      | refine LeO.ite ?_ ?_
      | refine LeO.bind ?_ (fun _ => ?_)
    · intro y0 y1
      unfold spec_hexOf.j1
      repeat' first
      | (with_reducible exact ih0 _ _)
      | (with_reducible exact ih1 _ _)
      | (with_reducible exact LeO.refl _)
      | (with_reducible exact LeO.none _)
      | (with_reducible refine LeO.ite ?_ ?_)
      | (with_reducible refine LeO.bind ?_ (fun _ => ?_))
      | exact ih0 _ _
      | exact ih1 _ _
      | exact LeO.none _
      | refine LeO.ite ?_ ?_
      | refine LeO.bind ?_ (fun _ => ?_)
theorem spec_hexOf.mono : ∀ a0 k, LeO (spec_hexOf.f k a0) (spec_hexOf.f (k + 1) a0) := by
  intro a0 k
  obtain ⟨ih0, ih1⟩ := spec_hexOf.mono_l k
  unfold spec_hexOf.f
  repeat' first
      | (with_reducible exact ih0 _ _)
      | (with_reducible exact ih1 _ _)
      | (with_reducible exact LeO.refl _)
      | (with_reducible exact LeO.none _)
      | (with_reducible refine LeO.ite ?_ ?_)
      | (with_reducible refine LeO.bind ?_ (fun _ => ?_))
      | exact ih0 _ _
      | exact ih1 _ _
      | exact LeO.none _
      | refine LeO.ite ?_ ?_
      | refine LeO.bind ?_ (fun _ => ?_)
set_option maxHeartbeats 8000000 in
set_option maxRecDepth 100000 in
theorem spec_hexOf.calls (k : Nat) (a0 : Int) (r : Int) (w : World) (h : spec_hexOf.f k a0 = some r) :
    Calls Try.prog 48 #[.int .u8 a0] w fun e w' => e = .returned (.int .i64 r) ∧ Drawn0 w w' := by
  have H : (if a0 ≥ 48 then (spec_hexOf.j0 k a0 (decide (a0 ≤ 57))) else (spec_hexOf.j0 k a0 false)) = some r := h
  clear h
  have HC2 := Aside0.mk H
  clear H
  go_enter Try.func48, Try.ntmps48
  go_upto_region 1 with (fail)
  go_cut [3] (fun v3 wc => ∃ (kq : Nat) (x3_1 : Bool), v3 = .bool x3_1 ∧ Aside0 (spec_hexOf.j0 kq a0 x3_1 = some r) ∧ Aside0 (kq ≤ k) ∧ Drawn0 w wc)
  case first =>
    have H := HC2.out
    clear HC2
    by_cases c3 : a0 ≥ 48
    · rw [if_pos c3] at H
      have c3b0 : decide (48 ≤ a0) = true := decide_eq_true c3
      clear c3
      (first | rw [c3b0] | (simp only [i64_w, i32_w]; rw [c3b0]) | (rw [Go.Proofs.YtjklempjljikpaaX.isEmpty_eq]; rw [c3b0]) | skip)
      have H' := Aside0.mk H
      clear H
      go_wp2
      go_meet
      case rel => exact ⟨_, (decide (a0 ≤ 57)), (by first | rfl | (simp; done) | (simp [*]; done) | (simp [Go.Proofs.YtjklempjljikpaaX.isEmpty_ne]; done)), H', ⟨by first | omega | exact Nat.le_refl _⟩, by repeat (first | exact Drawn0.refl _ | apply Drawn0.step)⟩
    · rw [if_neg c3] at H
      have c3b0 : decide (48 ≤ a0) = false := decide_eq_false c3
      clear c3
      (first | rw [c3b0] | (simp only [i64_w, i32_w]; rw [c3b0]) | (rw [Go.Proofs.YtjklempjljikpaaX.isEmpty_eq]; rw [c3b0]) | skip)
      have H' := Aside0.mk H
      clear H
      go_wp2
      go_meet
      case rel => exact ⟨_, (false), (by first | rfl | (simp; done) | (simp [*]; done) | (simp [Go.Proofs.YtjklempjljikpaaX.isEmpty_ne]; done)), H', ⟨by first | omega | exact Nat.le_refl _⟩, by repeat (first | exact Drawn0.refl _ | apply Drawn0.step)⟩
  case rest =>
    clear HC2
    try clear p2
    try clear c3
    try clear c3b0
    obtain ⟨kq, x3_1, rfl, HA, HJ1, ⟨mc1, rfl⟩⟩ := hcut
    cases kq with
    | zero => exact absurd HA.out (by simp [spec_hexOf.j0])
    | succ kj1 =>
      have H := HA.out
      clear HA
      simp only [spec_hexOf.j0] at H
      by_cases c4 : x3_1 = true
      · subst c4
        have H1 : (some ((a0 - 48) % 256)) = some r := by rw [if_pos rfl] at H; exact H
        clear H
        have H := H1
        clear H1
        obtain rfl := Option.some.inj H
        go_wp2
        go_ret
        exact ⟨by first | rfl | (simp; done) | (simp [*]; done) | (simp [Go.Proofs.YtjklempjljikpaaX.isEmpty_ne]; done), by repeat (first | exact Drawn0.refl _ | apply Drawn0.step)⟩
      · replace c4 := Bool.eq_false_iff.mpr c4
        subst c4
        have H1 : (if a0 ≥ 97 then (spec_hexOf.j1 kj1 a0 (decide (a0 ≤ 102))) else (spec_hexOf.j1 kj1 a0 false)) = some r := by rw [if_neg (show ¬ (false = true) by decide)] at H; exact H
        clear H
        have H := H1
        clear H1
        have HC5 := Aside0.mk H
        clear H
        go_upto_region 3 with (fail)
        go_cut [13] (fun v13 wc => ∃ (kq : Nat) (x13_4 : Bool), v13 = .bool x13_4 ∧ Aside0 (spec_hexOf.j1 kq a0 x13_4 = some r) ∧ Aside0 (kq ≤ kj1) ∧ Drawn0 w wc)
        case first =>
          have H := HC5.out
          clear HC5
          by_cases c6 : a0 ≥ 97
          · rw [if_pos c6] at H
            have c6b0 : decide (97 ≤ a0) = true := decide_eq_true c6
            clear c6
            (first | rw [c6b0] | (simp only [i64_w, i32_w]; rw [c6b0]) | (rw [Go.Proofs.YtjklempjljikpaaX.isEmpty_eq]; rw [c6b0]) | skip)
            have H' := Aside0.mk H
            clear H
            go_wp2
            go_meet
            case rel => exact ⟨_, (decide (a0 ≤ 102)), (by first | rfl | (simp; done) | (simp [*]; done) | (simp [Go.Proofs.YtjklempjljikpaaX.isEmpty_ne]; done)), H', ⟨by have := HJ1.out; first | omega | exact Nat.le_refl _⟩, by repeat (first | exact Drawn0.refl _ | apply Drawn0.step)⟩
          · rw [if_neg c6] at H
            have c6b0 : decide (97 ≤ a0) = false := decide_eq_false c6
            clear c6
            (first | rw [c6b0] | (simp only [i64_w, i32_w]; rw [c6b0]) | (rw [Go.Proofs.YtjklempjljikpaaX.isEmpty_eq]; rw [c6b0]) | skip)
            have H' := Aside0.mk H
            clear H
            go_wp2
            go_meet
            case rel => exact ⟨_, (false), (by first | rfl | (simp; done) | (simp [*]; done) | (simp [Go.Proofs.YtjklempjljikpaaX.isEmpty_ne]; done)), H', ⟨by have := HJ1.out; first | omega | exact Nat.le_refl _⟩, by repeat (first | exact Drawn0.refl _ | apply Drawn0.step)⟩
        case rest =>
          clear HC5
          try clear c1
          try clear p2
          try clear c3
          try clear c3b0
          try clear c4
          try clear c6
          try clear c6b0
          try clear p2
          obtain ⟨kq, x13_4, rfl, HA, HJ4, ⟨mc4, rfl⟩⟩ := hcut
          cases kq with
          | zero => exact absurd HA.out (by simp [spec_hexOf.j1])
          | succ kj4 =>
            have H := HA.out
            clear HA
            simp only [spec_hexOf.j1] at H
            by_cases c7 : x13_4 = true
            · subst c7
              have H1 : (some (((a0 - 97) % 256) + 10)) = some r := by rw [if_pos rfl] at H; exact H
              clear H
              have H := H1
              clear H1
              obtain rfl := Option.some.inj H
              go_wp2
              go_ret
              exact ⟨by first | rfl | (simp; done) | (simp [*]; done) | (simp [Go.Proofs.YtjklempjljikpaaX.isEmpty_ne]; done), by repeat (first | exact Drawn0.refl _ | apply Drawn0.step)⟩
            · replace c7 := Bool.eq_false_iff.mpr c7
              subst c7
              have H1 : (if a0 ≥ 65 then (if a0 ≤ 70 then (some (((a0 - 65) % 256) + 10)) else (some (-1))) else (some (-1))) = some r := by rw [if_neg (show ¬ (false = true) by decide)] at H; exact H
              clear H
              have H := H1
              clear H1
              by_cases c8 : a0 ≥ 65
              · rw [if_pos c8] at H
                have c8b0 : decide (65 ≤ a0) = true := decide_eq_true c8
                clear c8
                by_cases c9 : a0 ≤ 70
                · rw [if_pos c9] at H
                  have c9b0 : decide (a0 ≤ 70) = true := decide_eq_true c9
                  clear c9
                  obtain rfl := Option.some.inj H
                  go_wp2
                  go_ret
                  exact ⟨by first | rfl | (simp; done) | (simp [*]; done) | (simp [Go.Proofs.YtjklempjljikpaaX.isEmpty_ne]; done), by repeat (first | exact Drawn0.refl _ | apply Drawn0.step)⟩
                · rw [if_neg c9] at H
                  have c9b0 : decide (a0 ≤ 70) = false := decide_eq_false c9
                  clear c9
                  obtain rfl := Option.some.inj H
                  go_wp2
                  go_ret
                  exact ⟨by first | rfl | (simp; done) | (simp [*]; done) | (simp [Go.Proofs.YtjklempjljikpaaX.isEmpty_ne]; done), by repeat (first | exact Drawn0.refl _ | apply Drawn0.step)⟩
              · rw [if_neg c8] at H
                have c8b0 : decide (65 ≤ a0) = false := decide_eq_false c8
                clear c8
                obtain rfl := Option.some.inj H
                go_wp2
                go_ret
                exact ⟨by first | rfl | (simp; done) | (simp [*]; done) | (simp [Go.Proofs.YtjklempjljikpaaX.isEmpty_ne]; done), by repeat (first | exact Drawn0.refl _ | apply Drawn0.step)⟩

end Go.Proofs.Ytjklempjljikpaa.Q

-- Written by a program of this session out of the translation, with the kit's printer. Not trusted: Lean checks it.
namespace Go.Proofs.Ytjklempjljikpaa.Q
open Go.RowKit Go.Proofs.YtjklempjljikpaaW.PrintWords Go.Proofs.YtjklempjljikpaaW.PrintLast Go.Proofs.YtjklempjljikpaaW.PrintMore
attribute [local go_sem] max2_int min2_int max_two min_two max_three min_three max_four min_four   -- for this text's walks alone
set_option linter.unusedVariables false
set_option linter.unusedSimpArgs false

/-! ### spec_Sound: function 33 -/
def spec_Sound.l0 : Nat → ByteArray → Int → Option (Bool)
  | 0, _, _ => none
  | k + 1, x0, x3 => if x3 < (x0.size : Int) then (if 0 ≤ x3 then (if (bt x0 x3) = 37 then (if (wrap64 (x3 + 2)) ≥ (x0.size : Int) then (some false) else (if 0 ≤ (wrap64 (x3 + 1)) then (if (wrap64 (x3 + 1)) < (x0.size : Int) then ((spec_hexOf.f k (bt x0 (wrap64 (x3 + 1)))).bind fun t182 => (if t182 < 0 then (some false) else (if 0 ≤ (wrap64 (x3 + 2)) then (if (wrap64 (x3 + 2)) < (x0.size : Int) then ((spec_hexOf.f k (bt x0 (wrap64 (x3 + 2)))).bind fun t183 => (if t183 < 0 then (some false) else (spec_Sound.l0 k x0 (wrap64 (x3 + 1))))) else (none)) else (none)))) else (none)) else (none))) else (spec_Sound.l0 k x0 (wrap64 (x3 + 1)))) else (none)) else (some true)
def spec_Sound.f (k : Nat) (a0 : ByteArray) : Option (Bool) := spec_Sound.l0 k a0 0
theorem spec_Sound.mono_l : ∀ k, (∀ y0 y1, LeO (spec_Sound.l0 k y0 y1) (spec_Sound.l0 (k + 1) y0 y1))
  | 0 => fun _ _ r h => by simp [spec_Sound.l0] at h
  | k + 1 => by
    have ih0 := spec_Sound.mono_l k
    · intro y0 y1
      unfold spec_Sound.l0
      repeat' first
      | (with_reducible exact ih0 _ _)
      | (with_reducible exact spec_hexOf.mono _ _)
      | (with_reducible exact LeO.refl _)
      | (with_reducible exact LeO.none _)
      | (with_reducible refine LeO.ite ?_ ?_)
      | (with_reducible refine LeO.bind ?_ (fun _ => ?_))
      | exact ih0 _ _
      | exact spec_hexOf.mono _ _
      | exact LeO.none _
      | refine LeO.ite ?_ ?_
      | refine LeO.bind ?_ (fun _ => ?_)
theorem spec_Sound.mono : ∀ a0 k, LeO (spec_Sound.f k a0) (spec_Sound.f (k + 1) a0) := by
  intro a0 k
  have ih0 := spec_Sound.mono_l k
  unfold spec_Sound.f
  repeat' first
      | (with_reducible exact ih0 _ _)
      | (with_reducible exact spec_hexOf.mono _ _)
      | (with_reducible exact LeO.refl _)
      | (with_reducible exact LeO.none _)
      | (with_reducible refine LeO.ite ?_ ?_)
      | (with_reducible refine LeO.bind ?_ (fun _ => ?_))
      | exact ih0 _ _
      | exact spec_hexOf.mono _ _
      | exact LeO.none _
      | refine LeO.ite ?_ ?_
      | refine LeO.bind ?_ (fun _ => ?_)
set_option maxHeartbeats 8000000 in
set_option maxRecDepth 100000 in
theorem spec_Sound.calls (k : Nat) (a0 : ByteArray) (r : Bool) (w : World) (h : spec_Sound.f k a0 = some r) :
    Calls Try.prog 33 #[.string a0] w fun e w' => e = .returned (.bool r) ∧ Drawn0 w w' := by
  have H : (spec_Sound.l0 k a0 0) = some r := h
  clear h
  have H' := Aside0.mk H
  clear H
  go_enter Try.func33, Try.ntmps33
  go_wp2
  go_loopg [3] k (fun kq v3 w' => ∃ (x3_1 : Int), v3 = .int .i64 x3_1 ∧ Aside0 (spec_Sound.l0 kq a0 x3_1 = some r) ∧ Aside0 (kq ≤ k) ∧ Drawn0 w w')
  case atStart => exact ⟨(0), (by first | rfl | (simp; done) | (simp [*]; done) | (simp [Go.Proofs.YtjklempjljikpaaX.isEmpty_ne]; done)), H', ⟨Nat.le_refl _⟩, by repeat (first | exact Drawn0.refl _ | apply Drawn0.step)⟩
  case round =>
    clear H'
    obtain ⟨x3_1, rfl, HA, HK1, ⟨m1, rfl⟩⟩ := hrel
    cases gk with
    | zero => exact absurd HA.out (by simp [spec_Sound.l0])
    | succ k1 =>
      have H := HA.out
      clear HA
      simp only [spec_Sound.l0] at H
      by_cases c2 : x3_1 < (a0.size : Int)
      · rw [if_pos c2] at H
        have c2b0 : decide (x3_1 < (a0.size : Int)) = true := decide_eq_true c2
        clear c2
        by_cases c3 : 0 ≤ x3_1
        · rw [if_pos c3] at H
          have c3b0 : decide (0 ≤ x3_1) = true := decide_eq_true c3
          clear c3
          by_cases c5 : (bt a0 x3_1) = 37
          · rw [if_pos c5] at H
            have c5b0 : ((bt a0 x3_1) == 37) = true := beq_iff_eq.mpr c5
            have c5b1 : ((bt a0 x3_1) != 37) = false := bne_eq_false_iff_eq.mpr c5
            clear c5
            by_cases c6 : (wrap64 (x3_1 + 2)) ≥ (a0.size : Int)
            · rw [if_pos c6] at H
              have c6b0 : decide ((a0.size : Int) ≤ (wrap64 (x3_1 + 2))) = true := decide_eq_true c6
              clear c6
              obtain rfl := Option.some.inj H
              have p4 : 0 ≤ (x3_1 : Int) := of_decide_eq_true (by first | (with_reducible assumption) | assumption)
              have q4 : x3_1 < (a0.size : Int) := of_decide_eq_true (by first | (with_reducible assumption) | assumption)
              have hx4 := bt_at a0 x3_1
              replace p4 := eq_true p4
              replace q4 := eq_true q4
              go_wp2
              go_ret
              exact ⟨by first | rfl | (simp; done) | (simp [*]; done) | (simp [Go.Proofs.YtjklempjljikpaaX.isEmpty_ne]; done), by repeat (first | exact Drawn0.refl _ | apply Drawn0.step)⟩
            · rw [if_neg c6] at H
              have c6b0 : decide ((a0.size : Int) ≤ (wrap64 (x3_1 + 2))) = false := decide_eq_false c6
              clear c6
              obtain ⟨ji7, hji7⟩ : ∃ j_ : Int, (wrap64 (x3_1 + 1)) = j_ := ⟨_, rfl⟩
              replace H : (if 0 ≤ (ji7) then (if (ji7) < (a0.size : Int) then ((spec_hexOf.f k1 (bt a0 (ji7))).bind fun t182 => (if t182 < 0 then (some false) else (if 0 ≤ (wrap64 (x3_1 + 2)) then (if (wrap64 (x3_1 + 2)) < (a0.size : Int) then ((spec_hexOf.f k1 (bt a0 (wrap64 (x3_1 + 2)))).bind fun t183 => (if t183 < 0 then (some false) else (spec_Sound.l0 k1 a0 ji7))) else (none)) else (none)))) else (none)) else (none)) = some r := by first | (rw [hji7] at H; exact H) | (simp only [hji7] at H ⊢; exact H)
              have hji7w : (IntKind.i64.wrap (x3_1 + 1)) = ji7 := (i64_w _).trans hji7
              by_cases c8 : 0 ≤ (ji7)
              · rw [if_pos c8] at H
                have c8b0 : decide (0 ≤ (ji7)) = true := decide_eq_true c8
                clear c8
                by_cases c9 : (ji7) < (a0.size : Int)
                · rw [if_pos c9] at H
                  have c9b0 : decide ((ji7) < (a0.size : Int)) = true := decide_eq_true c9
                  clear c9
                  replace H := Option.bind_eq_some_iff.mp H
                  obtain ⟨t182, A110, H⟩ := H
                  replace H : (if t182 < 0 then (some false) else (if 0 ≤ (wrap64 (x3_1 + 2)) then (if (wrap64 (x3_1 + 2)) < (a0.size : Int) then ((spec_hexOf.f k1 (bt a0 (wrap64 (x3_1 + 2)))).bind fun t183 => (if t183 < 0 then (some false) else (spec_Sound.l0 k1 a0 ji7))) else (none)) else (none))) = some r := H
                  have A11 := Aside0.mk A110
                  clear A110
                  by_cases c12 : t182 < 0
                  · rw [if_pos c12] at H
                    have c12b0 : decide (t182 < 0) = true := decide_eq_true c12
                    clear c12
                    obtain rfl := Option.some.inj H
                    have p4 : 0 ≤ (x3_1 : Int) := of_decide_eq_true (by first | (with_reducible assumption) | assumption)
                    have q4 : x3_1 < (a0.size : Int) := of_decide_eq_true (by first | (with_reducible assumption) | assumption)
                    have hx4 := bt_at a0 x3_1
                    replace p4 := eq_true p4
                    replace q4 := eq_true q4
                    have p10 : 0 ≤ ((ji7) : Int) := of_decide_eq_true (by first | (with_reducible assumption) | assumption)
                    have q10 : (ji7) < (a0.size : Int) := of_decide_eq_true (by first | (with_reducible assumption) | assumption)
                    have hx10 := bt_at a0 (ji7)
                    replace p10 := eq_true p10
                    replace q10 := eq_true q10
                    go_wp2_with (first | (go_at_call 48; (with_reducible refine (spec_hexOf.calls k1 (bt a0 (ji7)) t182 _ A11.out).mono ?_); rintro e w' ⟨rfl, ⟨nd, rfl⟩⟩))
                    go_ret
                    exact ⟨by first | rfl | (simp; done) | (simp only [← hji7] <;> (first | rfl | simp)) | (simp [*]; done) | (simp [Go.Proofs.YtjklempjljikpaaX.isEmpty_ne]; done), by repeat (first | exact Drawn0.refl _ | apply Drawn0.step)⟩
                  · rw [if_neg c12] at H
                    have c12b0 : decide (t182 < 0) = false := decide_eq_false c12
                    clear c12
                    obtain ⟨ji13, hji13⟩ : ∃ j_ : Int, (wrap64 (x3_1 + 2)) = j_ := ⟨_, rfl⟩
                    replace H : (if 0 ≤ (ji13) then (if (ji13) < (a0.size : Int) then ((spec_hexOf.f k1 (bt a0 (ji13))).bind fun t183 => (if t183 < 0 then (some false) else (spec_Sound.l0 k1 a0 ji7))) else (none)) else (none)) = some r := by first | (rw [hji13] at H; exact H) | (simp only [hji13] at H ⊢; exact H)
                    (try rw [hji13] at c6b0)
                    (try rw [hji13] at A11)
                    have hji13w : (IntKind.i64.wrap (x3_1 + 2)) = ji13 := (i64_w _).trans hji13
                    by_cases c14 : 0 ≤ (ji13)
                    · rw [if_pos c14] at H
                      have c14b0 : decide (0 ≤ (ji13)) = true := decide_eq_true c14
                      clear c14
                      by_cases c15 : (ji13) < (a0.size : Int)
                      · rw [if_pos c15] at H
                        have c15b0 : decide ((ji13) < (a0.size : Int)) = true := decide_eq_true c15
                        clear c15
                        replace H := Option.bind_eq_some_iff.mp H
                        obtain ⟨t183, A170, H⟩ := H
                        replace H : (if t183 < 0 then (some false) else (spec_Sound.l0 k1 a0 ji7)) = some r := H
                        have A17 := Aside0.mk A170
                        clear A170
                        by_cases c18 : t183 < 0
                        · rw [if_pos c18] at H
                          have c18b0 : decide (t183 < 0) = true := decide_eq_true c18
                          clear c18
                          obtain rfl := Option.some.inj H
                          have p4 : 0 ≤ (x3_1 : Int) := of_decide_eq_true (by first | (with_reducible assumption) | assumption)
                          have q4 : x3_1 < (a0.size : Int) := of_decide_eq_true (by first | (with_reducible assumption) | assumption)
                          have hx4 := bt_at a0 x3_1
                          replace p4 := eq_true p4
                          replace q4 := eq_true q4
                          have p10 : 0 ≤ ((ji7) : Int) := of_decide_eq_true (by first | (with_reducible assumption) | assumption)
                          have q10 : (ji7) < (a0.size : Int) := of_decide_eq_true (by first | (with_reducible assumption) | assumption)
                          have hx10 := bt_at a0 (ji7)
                          replace p10 := eq_true p10
                          replace q10 := eq_true q10
                          go_wp2_with (first | (go_at_call 48; (with_reducible refine (spec_hexOf.calls k1 (bt a0 (ji7)) t182 _ A11.out).mono ?_); rintro e w' ⟨rfl, ⟨nd, rfl⟩⟩; have p16 : 0 ≤ ((ji13) : Int) := of_decide_eq_true (by first | (with_reducible assumption) | assumption); have q16 : (ji13) < (a0.size : Int) := of_decide_eq_true (by first | (with_reducible assumption) | assumption); have hx16 := bt_at a0 (ji13); replace p16 := eq_true p16; replace q16 := eq_true q16) | (go_at_call 48; (with_reducible refine (spec_hexOf.calls k1 (bt a0 (ji13)) t183 _ A17.out).mono ?_); rintro e w' ⟨rfl, ⟨nd, rfl⟩⟩))
                          go_ret
                          exact ⟨by first | rfl | (simp; done) | (simp only [← hji7, ← hji13] <;> (first | rfl | simp)) | (simp [*]; done) | (simp [Go.Proofs.YtjklempjljikpaaX.isEmpty_ne]; done), by repeat (first | exact Drawn0.refl _ | apply Drawn0.step)⟩
                        · rw [if_neg c18] at H
                          have c18b0 : decide (t183 < 0) = false := decide_eq_false c18
                          clear c18
                          have H' := Aside0.mk H
                          clear H
                          have p4 : 0 ≤ (x3_1 : Int) := of_decide_eq_true (by first | (with_reducible assumption) | assumption)
                          have q4 : x3_1 < (a0.size : Int) := of_decide_eq_true (by first | (with_reducible assumption) | assumption)
                          have hx4 := bt_at a0 x3_1
                          replace p4 := eq_true p4
                          replace q4 := eq_true q4
                          have p10 : 0 ≤ ((ji7) : Int) := of_decide_eq_true (by first | (with_reducible assumption) | assumption)
                          have q10 : (ji7) < (a0.size : Int) := of_decide_eq_true (by first | (with_reducible assumption) | assumption)
                          have hx10 := bt_at a0 (ji7)
                          replace p10 := eq_true p10
                          replace q10 := eq_true q10
                          go_wp2_with (first | (go_at_call 48; (with_reducible refine (spec_hexOf.calls k1 (bt a0 (ji7)) t182 _ A11.out).mono ?_); rintro e w' ⟨rfl, ⟨nd, rfl⟩⟩; have p16 : 0 ≤ ((ji13) : Int) := of_decide_eq_true (by first | (with_reducible assumption) | assumption); have q16 : (ji13) < (a0.size : Int) := of_decide_eq_true (by first | (with_reducible assumption) | assumption); have hx16 := bt_at a0 (ji13); replace p16 := eq_true p16; replace q16 := eq_true q16) | (go_at_call 48; (with_reducible refine (spec_hexOf.calls k1 (bt a0 (ji13)) t183 _ A17.out).mono ?_); rintro e w' ⟨rfl, ⟨nd, rfl⟩⟩))
                          go_roundg k1
                          case measure => have := HK1.out; omega
                          case rel => exact ⟨(ji7), (by first | rfl | (simp; done) | (simp only [← hji7] <;> (first | rfl | simp)) | (simp [*]; done) | (simp [Go.Proofs.YtjklempjljikpaaX.isEmpty_ne]; done)), H', ⟨by have := HK1.out; omega⟩, by repeat (first | exact Drawn0.refl _ | apply Drawn0.step)⟩
                      · rw [if_neg c15] at H
                        exact absurd H (by simp)
                    · rw [if_neg c14] at H
                      exact absurd H (by simp)
                · rw [if_neg c9] at H
                  exact absurd H (by simp)
              · rw [if_neg c8] at H
                exact absurd H (by simp)
          · rw [if_neg c5] at H
            have c5b0 : ((bt a0 x3_1) == 37) = false := beq_eq_false_iff_ne.mpr c5
            have c5b1 : ((bt a0 x3_1) != 37) = true := bne_iff_ne.mpr c5
            have H' := Aside0.mk H
            clear H
            have p4 : 0 ≤ (x3_1 : Int) := of_decide_eq_true (by first | (with_reducible assumption) | assumption)
            have q4 : x3_1 < (a0.size : Int) := of_decide_eq_true (by first | (with_reducible assumption) | assumption)
            have hx4 := bt_at a0 x3_1
            replace p4 := eq_true p4
            replace q4 := eq_true q4
            go_wp2
            go_roundg k1
            case measure => have := HK1.out; omega
            case rel => exact ⟨(wrap64 (x3_1 + 1)), (by first | rfl | (simp; done) | (simp [*]; done) | (simp [Go.Proofs.YtjklempjljikpaaX.isEmpty_ne]; done)), H', ⟨by have := HK1.out; omega⟩, by repeat (first | exact Drawn0.refl _ | apply Drawn0.step)⟩
        · rw [if_neg c3] at H
          exact absurd H (by simp)
      · rw [if_neg c2] at H
        have c2b0 : decide (x3_1 < (a0.size : Int)) = false := decide_eq_false c2
        clear c2
        obtain rfl := Option.some.inj H
        go_wp2
        go_ret
        exact ⟨by first | rfl | (simp; done) | (simp [*]; done) | (simp [Go.Proofs.YtjklempjljikpaaX.isEmpty_ne]; done), by repeat (first | exact Drawn0.refl _ | apply Drawn0.step)⟩

end Go.Proofs.Ytjklempjljikpaa.Q
