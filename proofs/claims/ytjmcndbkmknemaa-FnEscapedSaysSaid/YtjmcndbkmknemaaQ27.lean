-- Written by a program of this session out of the translation, with the kit's printer. Not trusted: Lean checks it.
import Derived.Test.YtjmcndbkmknemaaQ0
import Derived.Test.YtjmcndbkmknemaaQ10
import Derived.Test.YtjmcndbkmknemaaQ20
import Derived.Test.YtjmcndbkmknemaaQ22
import Derived.Test.YtjmcndbkmknemaaQ26
namespace Go.Proofs.Ytjmcndbkmknemaa.Q
open Go.RowKit Go.Proofs.YtjmcndbkmknemaaW.PrintWords Go.Proofs.YtjmcndbkmknemaaW.PrintLast Go.Proofs.YtjmcndbkmknemaaW.PrintMore
attribute [local go_sem] max2_int min2_int max_two min_two max_three min_three max_four min_four   -- for this text's walks alone
set_option linter.unusedVariables false
set_option linter.unusedSimpArgs false

/-! ### laws_FnEscapedSays: function 11 -/
def laws_FnEscapedSays.j0 : Nat → ByteArray → Bool → Option (Bool)
  | 0, _, _ => none
  | k + 1, x0, x11 => if x11 = true then (some false) else ((laws_short.f k (([x0] : List ByteArray))).bind fun t245 => (if t245 = true then ((impl_QuotedArg.f k x0).bind fun t246 => ((spec_QuotedArg.f k x0).bind fun t247 => (if t246.toList = t247.toList then (if x0.toList = ([42] : List UInt8) then (some true) else ((impl_QuotedPath.f k x0).bind fun t248 => ((spec_QuotedPath.f k x0).bind fun t249 => (some (t248.toList == t249.toList))))) else (some false)))) else (some true)))
def laws_FnEscapedSays.f (k : Nat) (a0 : ByteArray) : Option (Bool) := if (a0.size : Int) > 2147483647 then (some true) else ((impl_QuotedArg.f k (⟨#[97]⟩ : ByteArray)).bind fun t240 => (if t240.toList = ([97] : List UInt8) then ((impl_QuotedPath.f k (⟨#[97]⟩ : ByteArray)).bind fun t241 => (laws_FnEscapedSays.j0 k a0 (t241.toList != ([97] : List UInt8)))) else (laws_FnEscapedSays.j0 k a0 true)))
theorem laws_FnEscapedSays.mono_l : ∀ k, (∀ y0 y1, LeO (laws_FnEscapedSays.j0 k y0 y1) (laws_FnEscapedSays.j0 (k + 1) y0 y1))
  | 0 => fun _ _ r h => by simp [laws_FnEscapedSays.j0] at h
  | k + 1 => by
    have ih0 := laws_FnEscapedSays.mono_l k
    · intro y0 y1
      unfold laws_FnEscapedSays.j0
      repeat' first
      | (with_reducible exact ih0 _ _)
      | (with_reducible exact impl_QuotedArg.mono _ _)
      | (with_reducible exact impl_QuotedPath.mono _ _)
      | (with_reducible exact laws_short.mono _ _)
      | (with_reducible exact spec_QuotedArg.mono _ _)
      | (with_reducible exact spec_QuotedPath.mono _ _)
      | (with_reducible exact LeO.refl _)
      | (with_reducible exact LeO.none _)
      | (with_reducible refine LeO.ite ?_ ?_)
      | (with_reducible refine LeO.bind ?_ (fun _ => ?_))
      | exact ih0 _ _
      | exact impl_QuotedArg.mono _ _
      | exact impl_QuotedPath.mono _ _
      | exact laws_short.mono _ _
      | exact spec_QuotedArg.mono _ _
      | exact spec_QuotedPath.mono _ _
      | exact LeO.none _
      | refine LeO.ite ?_ ?_
      | refine LeO.bind ?_ (fun _ => ?_)
theorem laws_FnEscapedSays.mono : ∀ a0 k, LeO (laws_FnEscapedSays.f k a0) (laws_FnEscapedSays.f (k + 1) a0) := by
  intro a0 k
  have ih0 := laws_FnEscapedSays.mono_l k
  unfold laws_FnEscapedSays.f
  repeat' first
      | (with_reducible exact ih0 _ _)
      | (with_reducible exact impl_QuotedArg.mono _ _)
      | (with_reducible exact impl_QuotedPath.mono _ _)
      | (with_reducible exact laws_short.mono _ _)
      | (with_reducible exact spec_QuotedArg.mono _ _)
      | (with_reducible exact spec_QuotedPath.mono _ _)
      | (with_reducible exact LeO.refl _)
      | (with_reducible exact LeO.none _)
      | (with_reducible refine LeO.ite ?_ ?_)
      | (with_reducible refine LeO.bind ?_ (fun _ => ?_))
      | exact ih0 _ _
      | exact impl_QuotedArg.mono _ _
      | exact impl_QuotedPath.mono _ _
      | exact laws_short.mono _ _
      | exact spec_QuotedArg.mono _ _
      | exact spec_QuotedPath.mono _ _
      | exact LeO.none _
      | refine LeO.ite ?_ ?_
      | refine LeO.bind ?_ (fun _ => ?_)
set_option maxHeartbeats 8000000 in
set_option maxRecDepth 100000 in
theorem laws_FnEscapedSays.calls (k : Nat) (a0 : ByteArray) (r : Bool) (w : World) (h : laws_FnEscapedSays.f k a0 = some r) :
    Calls Try.prog 11 #[.string a0] w fun e w' => e = .returned (.bool r) ∧ Below w.heap.size w w' := by
  have HB := Aside0.mk (Below.refl w.heap.size w)
  have H : (if (a0.size : Int) > 2147483647 then (some true) else ((impl_QuotedArg.f k (⟨#[97]⟩ : ByteArray)).bind fun t240 => (if t240.toList = ([97] : List UInt8) then ((impl_QuotedPath.f k (⟨#[97]⟩ : ByteArray)).bind fun t241 => (laws_FnEscapedSays.j0 k a0 (t241.toList != ([97] : List UInt8)))) else (laws_FnEscapedSays.j0 k a0 true)))) = some r := h
  clear h
  by_cases c2 : (a0.size : Int) > 2147483647
  · rw [if_pos c2] at H
    have c2b0 : decide (2147483647 < (a0.size : Int)) = true := decide_eq_true c2
    have c2b1 : decide (2147483647 < a0.size) = true := decide_eq_true (by omega)
    clear c2
    obtain rfl := Option.some.inj H
    go_enter Try.func11, Try.ntmps11
    go_wp2
    go_ret
    exact ⟨by first | rfl | (simp [errW_none, errW_some] <;> rfl) | (simp [*, errW_none, errW_some] <;> rfl), by repeat (first | (with_reducible first | exact HB.out | apply below_alloc | apply pw_below_drewN | apply below_drew1) | exact HB.out)⟩
  · rw [if_neg c2] at H
    have c2b0 : decide (2147483647 < (a0.size : Int)) = false := decide_eq_false c2
    have c2b1 : decide (2147483647 < a0.size) = false := decide_eq_false (by omega)
    clear c2
    have HC3 := Aside0.mk H
    clear H
    go_enter Try.func11, Try.ntmps11
    go_upto_region 3 with (fail)
    go_cut [11] (fun v11 wc => ∃ (kq : Nat) (x11_2 : Bool), v11 = .bool x11_2 ∧ Aside0 (laws_FnEscapedSays.j0 kq a0 x11_2 = some r) ∧ Aside0 (kq ≤ k) ∧ Aside0 (Below w.heap.size w wc))
    case first =>
      have H := HC3.out
      clear HC3
      replace H := Option.bind_eq_some_iff.mp H
      obtain ⟨t240, A40, H⟩ := H
      replace H : (if t240.toList = ([97] : List UInt8) then ((impl_QuotedPath.f k (⟨#[97]⟩ : ByteArray)).bind fun t241 => (laws_FnEscapedSays.j0 k a0 (t241.toList != ([97] : List UInt8)))) else (laws_FnEscapedSays.j0 k a0 true)) = some r := H
      have A4 := Aside0.mk A40
      clear A40
      by_cases c5 : t240.toList = ([97] : List UInt8)
      · rw [if_pos c5] at H
        have c5b0 : (t240.toList == ([97] : List UInt8)) = true := beq_iff_eq.mpr c5
        have c5b1 : (t240.toList != ([97] : List UInt8)) = false := bne_eq_false_iff_eq.mpr c5
        clear c5
        (first | rw [c5b0] | (simp only [i64_w, i32_w]; rw [c5b0]) | skip)
        replace H := Option.bind_eq_some_iff.mp H
        obtain ⟨t241, A60, H⟩ := H
        replace H : (laws_FnEscapedSays.j0 k a0 (t241.toList != ([97] : List UInt8))) = some r := H
        have A6 := Aside0.mk A60
        clear A60
        have H' := Aside0.mk H
        clear H
        go_wp2_with (first | ((with_reducible refine gate_callee (f := 33) rfl ?_); refine goesL_ (some 6) rfl rfl Try.func33 (by kernel_rfl) rfl #[.string (⟨#[97]⟩ : ByteArray)] rfl (by (try simp only [List.map_toArray, List.map_cons, List.map_nil]); first | done | rfl | (simp only [List.length_drop, List.length_take]; rfl)) ?_; (with_reducible refine (impl_QuotedArg.calls k (⟨#[97]⟩ : ByteArray) t240 _ A4.out).mono ?_); rintro e w7 ⟨rfl, hb⟩; refine ⟨_, rfl, ?_⟩; have n0_ := Aside0.mk (below_step (by repeat (first | (with_reducible first | exact HB.out | apply below_alloc | apply pw_below_drewN | apply below_drew1) | exact HB.out)) hb); clear HB; have HB := n0_; clear n0_; (try clear hb); (try clear hb2); (try clear hk); (try clear hi)) | (go_at_call 34; (with_reducible refine (impl_QuotedPath.calls k (⟨#[97]⟩ : ByteArray) t241 _ A6.out).mono ?_); rintro e w8 ⟨rfl, hb⟩; have n0_ := Aside0.mk (below_step (by repeat (first | (with_reducible first | exact HB.out | apply below_alloc | apply pw_below_drewN | apply below_drew1) | exact HB.out)) hb); clear HB; have HB := n0_; clear n0_; (try clear hb); (try clear hb2); (try clear hk); (try clear hi)))
        go_meet
        case rel => exact ⟨_, ((t241.toList != ([97] : List UInt8))), (by first | rfl | (simp; done) | (simp [*]; done) | (simp [Go.Proofs.YtjmcndbkmknemaaX.isEmpty_ne]; done)), H', ⟨by first | omega | exact Nat.le_refl _⟩, ⟨by repeat (first | (with_reducible first | exact HB.out | apply below_alloc | apply pw_below_drewN | apply below_drew1) | exact HB.out)⟩⟩
      · rw [if_neg c5] at H
        have c5b0 : (t240.toList == ([97] : List UInt8)) = false := beq_eq_false_iff_ne.mpr c5
        have c5b1 : (t240.toList != ([97] : List UInt8)) = true := bne_iff_ne.mpr c5
        (first | rw [c5b0] | (simp only [i64_w, i32_w]; rw [c5b0]) | skip)
        have H' := Aside0.mk H
        clear H
        go_wp2_with (first | ((with_reducible refine gate_callee (f := 33) rfl ?_); refine goesL_ (some 6) rfl rfl Try.func33 (by kernel_rfl) rfl #[.string (⟨#[97]⟩ : ByteArray)] rfl (by (try simp only [List.map_toArray, List.map_cons, List.map_nil]); first | done | rfl | (simp only [List.length_drop, List.length_take]; rfl)) ?_; (with_reducible refine (impl_QuotedArg.calls k (⟨#[97]⟩ : ByteArray) t240 _ A4.out).mono ?_); rintro e w9 ⟨rfl, hb⟩; refine ⟨_, rfl, ?_⟩; have n0_ := Aside0.mk (below_step (by repeat (first | (with_reducible first | exact HB.out | apply below_alloc | apply pw_below_drewN | apply below_drew1) | exact HB.out)) hb); clear HB; have HB := n0_; clear n0_; (try clear hb); (try clear hb2); (try clear hk); (try clear hi)))
        go_meet
        case rel => exact ⟨_, (true), (by first | rfl | (simp; done) | (simp [*]; done) | (simp [Go.Proofs.YtjmcndbkmknemaaX.isEmpty_ne]; done)), H', ⟨by first | omega | exact Nat.le_refl _⟩, ⟨by repeat (first | (with_reducible first | exact HB.out | apply below_alloc | apply pw_below_drewN | apply below_drew1) | exact HB.out)⟩⟩
    case rest =>
      clear HC3
      try clear c1
      try clear c2
      try clear c2b0
      try clear c2b1
      try clear p2
      try clear c3
      try clear c5
      try clear c5b0
      try clear c5b1
      obtain ⟨kq, x11_2, rfl, HA, HJ2, HB⟩ := hcut
      cases kq with
      | zero => exact absurd HA.out (by simp [laws_FnEscapedSays.j0])
      | succ kj2 =>
        have H := HA.out
        clear HA
        simp only [laws_FnEscapedSays.j0] at H
        by_cases c10 : x11_2 = true
        · subst c10
          have H1 : (some false) = some r := by rw [if_pos rfl] at H; exact H
          clear H
          have H := H1
          clear H1
          obtain rfl := Option.some.inj H
          go_wp2
          go_ret
          exact ⟨by first | rfl | (simp [errW_none, errW_some] <;> rfl) | (simp [*, errW_none, errW_some] <;> rfl), by repeat (first | (with_reducible first | exact HB.out | apply below_alloc | apply pw_below_drewN | apply below_drew1) | exact HB.out)⟩
        · replace c10 := Bool.eq_false_iff.mpr c10
          subst c10
          have H1 : ((laws_short.f kj2 (([a0] : List ByteArray))).bind fun t245 => (if t245 = true then ((impl_QuotedArg.f kj2 a0).bind fun t246 => ((spec_QuotedArg.f kj2 a0).bind fun t247 => (if t246.toList = t247.toList then (if a0.toList = ([42] : List UInt8) then (some true) else ((impl_QuotedPath.f kj2 a0).bind fun t248 => ((spec_QuotedPath.f kj2 a0).bind fun t249 => (some (t248.toList == t249.toList))))) else (some false)))) else (some true))) = some r := by rw [if_neg (show ¬ (false = true) by decide)] at H; exact H
          clear H
          have H := H1
          clear H1
          obtain ⟨y242, hy242⟩ : ∃ y_ : List ByteArray, y_ = (([a0] : List ByteArray)) := ⟨_, rfl⟩
          replace H : ((laws_short.f kj2 y242).bind fun t245 => (if t245 = true then ((impl_QuotedArg.f kj2 a0).bind fun t246 => ((spec_QuotedArg.f kj2 a0).bind fun t247 => (if t246.toList = t247.toList then (if a0.toList = ([42] : List UInt8) then (some true) else ((impl_QuotedPath.f kj2 a0).bind fun t248 => ((spec_QuotedPath.f kj2 a0).bind fun t249 => (some (t248.toList == t249.toList))))) else (some false)))) else (some true))) = some r := by first | (rw [hy242]; with_reducible exact H) | (have H2_ := (Option.bind_some _ _).symm.trans H; rw [hy242]; with_reducible exact H2_) | (have H2_ := (Option.bind_some _ _).symm.trans H; with_reducible exact H2_) | with_reducible exact H | (rw [hy242]; exact H) | exact H
          have Ny242 := Aside0.mk hy242
          clear hy242
          replace H := Option.bind_eq_some_iff.mp H
          obtain ⟨t245, A110, H⟩ := H
          replace H : (if t245 = true then ((impl_QuotedArg.f kj2 a0).bind fun t246 => ((spec_QuotedArg.f kj2 a0).bind fun t247 => (if t246.toList = t247.toList then (if a0.toList = ([42] : List UInt8) then (some true) else ((impl_QuotedPath.f kj2 a0).bind fun t248 => ((spec_QuotedPath.f kj2 a0).bind fun t249 => (some (t248.toList == t249.toList))))) else (some false)))) else (some true)) = some r := H
          have A11 := Aside0.mk A110
          clear A110
          by_cases c12 : t245 = true
          · subst c12
            have H1 : ((impl_QuotedArg.f kj2 a0).bind fun t246 => ((spec_QuotedArg.f kj2 a0).bind fun t247 => (if t246.toList = t247.toList then (if a0.toList = ([42] : List UInt8) then (some true) else ((impl_QuotedPath.f kj2 a0).bind fun t248 => ((spec_QuotedPath.f kj2 a0).bind fun t249 => (some (t248.toList == t249.toList))))) else (some false)))) = some r := by rw [if_pos rfl] at H; exact H
            clear H
            have H := H1
            clear H1
            replace H := Option.bind_eq_some_iff.mp H
            obtain ⟨t246, A130, H⟩ := H
            replace H : ((spec_QuotedArg.f kj2 a0).bind fun t247 => (if t246.toList = t247.toList then (if a0.toList = ([42] : List UInt8) then (some true) else ((impl_QuotedPath.f kj2 a0).bind fun t248 => ((spec_QuotedPath.f kj2 a0).bind fun t249 => (some (t248.toList == t249.toList))))) else (some false))) = some r := H
            have A13 := Aside0.mk A130
            clear A130
            replace H := Option.bind_eq_some_iff.mp H
            obtain ⟨t247, A140, H⟩ := H
            replace H : (if t246.toList = t247.toList then (if a0.toList = ([42] : List UInt8) then (some true) else ((impl_QuotedPath.f kj2 a0).bind fun t248 => ((spec_QuotedPath.f kj2 a0).bind fun t249 => (some (t248.toList == t249.toList))))) else (some false)) = some r := H
            have A14 := Aside0.mk A140
            clear A140
            by_cases c15 : t246.toList = t247.toList
            · rw [if_pos c15] at H
              have c15b0 : (t246.toList == t247.toList) = true := beq_iff_eq.mpr c15
              have c15b1 : (t246.toList != t247.toList) = false := bne_eq_false_iff_eq.mpr c15
              clear c15
              by_cases c16 : a0.toList = ([42] : List UInt8)
              · rw [if_pos c16] at H
                have c16b0 : (a0.toList == ([42] : List UInt8)) = true := beq_iff_eq.mpr c16
                have c16b1 : (a0.toList != ([42] : List UInt8)) = false := bne_eq_false_iff_eq.mpr c16
                clear c16
                obtain rfl := Option.some.inj H
                go_wp2_with (first | ((with_reducible refine gate_dst (N := 13) rfl ?_); refine Kd.R_lit Kd.string _ 9 ?hg (N := 13) ?hd (xs := ([a0] : List ByteArray)) (inner := [.string a0]) (ok := fun _ => True) (okp := fun _ => True) ?hr ?hp (fun _ hk => hk) trivial (Below.refl _ _) (Nat.le_refl _) (by simp) ?_; (case hd => rfl); (case hg => rfl); (case hr => first | (go_simp; done) | (go_simp; rfl)); (case hp => exact (Reps.one (show Kd.M Kd.string _ _ _ a0 [.string a0] from rfl) (Reps.none _ _))); intro v243 w17 ho18 hb hg_ hnew_; clear hg_ hnew_; (first | rw [← Ny242.out] at ho18 | (simp only [Int.reduceToNat] at ho18; rw [← Ny242.out] at ho18)); have n0_ := Aside0.mk (Kd.R_lower ho18 (below_size (by repeat (first | (with_reducible first | exact HB.out | apply below_alloc | apply pw_below_drewN | apply below_drew1) | exact HB.out)))); have n1_ := Aside0.mk (below_step (by repeat (first | (with_reducible first | exact HB.out | apply below_alloc | apply pw_below_drewN | apply below_drew1) | exact HB.out)) hb); clear HB; have HO244 := n0_; have HB := n1_; clear n0_ n1_; clear hb ho18; obtain ⟨Ao19, co19, eo19⟩ := Kd.R_slice HO244.out; subst eo19) | ((with_reducible refine gate_callee (f := 23) rfl ?_); refine goesL_ (some 14) rfl rfl Try.func23 (by kernel_rfl) rfl #[.slice Ao19 y242.length co19] rfl (by (try simp only [List.map_toArray, List.map_cons, List.map_nil]); first | done | rfl | (simp only [List.length_drop, List.length_take]; rfl)) ?_; (with_reducible refine (laws_short.calls kj2 _ _ y242 true _ ?side1 ?side2 A11.out).mono ?_); (case side1 => repeat (first | exact (Kd.R_reads' HO244.out).2.2 | (with_reducible refine Kd.C_alloc ?_ _) | (with_reducible refine Kd.C_drewN ?_ _) | (with_reducible refine Kd.C_drew ?_))); (case side2 => exact (Kd.R_reads' HO244.out).2.1); rintro e w' ⟨rfl, ⟨nd, rfl⟩⟩; refine ⟨_, rfl, ?_⟩) | (go_at_call 33; (with_reducible refine (impl_QuotedArg.calls kj2 a0 t246 _ A13.out).mono ?_); rintro e w20 ⟨rfl, hb⟩; have n0_ := Aside0.mk (Kd.R_below (by (with_reducible repeat (first | apply Kd.R_alloc | apply Kd.R_drewN | apply Kd.R_drew)); exact HO244.out) hb); have n1_ := Aside0.mk (below_step (by repeat (first | (with_reducible first | exact HB.out | apply below_alloc | apply pw_below_drewN | apply below_drew1) | exact HB.out)) hb); clear HO244; clear HB; have HO244 := n0_; have HB := n1_; clear n0_ n1_; (try clear hb); (try clear hb2); (try clear hk); (try clear hi)) | (go_at_call 35; (with_reducible refine (spec_QuotedArg.calls kj2 a0 t247 _ A14.out).mono ?_); rintro e w' ⟨rfl, ⟨nd, rfl⟩⟩))
                go_ret
                exact ⟨by first | rfl | (simp [errW_none, errW_some] <;> rfl) | (simp [*, errW_none, errW_some] <;> rfl), by repeat (first | (with_reducible first | exact HB.out | apply below_alloc | apply pw_below_drewN | apply below_drew1) | exact HB.out)⟩
              · rw [if_neg c16] at H
                have c16b0 : (a0.toList == ([42] : List UInt8)) = false := beq_eq_false_iff_ne.mpr c16
                have c16b1 : (a0.toList != ([42] : List UInt8)) = true := bne_iff_ne.mpr c16
                replace H := Option.bind_eq_some_iff.mp H
                obtain ⟨t248, A210, H⟩ := H
                replace H : ((spec_QuotedPath.f kj2 a0).bind fun t249 => (some (t248.toList == t249.toList))) = some r := H
                have A21 := Aside0.mk A210
                clear A210
                replace H := Option.bind_eq_some_iff.mp H
                obtain ⟨t249, A220, H⟩ := H
                replace H : (some (t248.toList == t249.toList)) = some r := H
                have A22 := Aside0.mk A220
                clear A220
                obtain rfl := Option.some.inj H
                go_wp2_with (first | ((with_reducible refine gate_dst (N := 13) rfl ?_); refine Kd.R_lit Kd.string _ 9 ?hg (N := 13) ?hd (xs := ([a0] : List ByteArray)) (inner := [.string a0]) (ok := fun _ => True) (okp := fun _ => True) ?hr ?hp (fun _ hk => hk) trivial (Below.refl _ _) (Nat.le_refl _) (by simp) ?_; (case hd => rfl); (case hg => rfl); (case hr => first | (go_simp; done) | (go_simp; rfl)); (case hp => exact (Reps.one (show Kd.M Kd.string _ _ _ a0 [.string a0] from rfl) (Reps.none _ _))); intro v243 w23 ho24 hb hg_ hnew_; clear hg_ hnew_; (first | rw [← Ny242.out] at ho24 | (simp only [Int.reduceToNat] at ho24; rw [← Ny242.out] at ho24)); have n0_ := Aside0.mk (Kd.R_lower ho24 (below_size (by repeat (first | (with_reducible first | exact HB.out | apply below_alloc | apply pw_below_drewN | apply below_drew1) | exact HB.out)))); have n1_ := Aside0.mk (below_step (by repeat (first | (with_reducible first | exact HB.out | apply below_alloc | apply pw_below_drewN | apply below_drew1) | exact HB.out)) hb); clear HB; have HO244 := n0_; have HB := n1_; clear n0_ n1_; clear hb ho24; obtain ⟨Ao25, co25, eo25⟩ := Kd.R_slice HO244.out; subst eo25) | ((with_reducible refine gate_callee (f := 23) rfl ?_); refine goesL_ (some 14) rfl rfl Try.func23 (by kernel_rfl) rfl #[.slice Ao25 y242.length co25] rfl (by (try simp only [List.map_toArray, List.map_cons, List.map_nil]); first | done | rfl | (simp only [List.length_drop, List.length_take]; rfl)) ?_; (with_reducible refine (laws_short.calls kj2 _ _ y242 true _ ?side1 ?side2 A11.out).mono ?_); (case side1 => repeat (first | exact (Kd.R_reads' HO244.out).2.2 | (with_reducible refine Kd.C_alloc ?_ _) | (with_reducible refine Kd.C_drewN ?_ _) | (with_reducible refine Kd.C_drew ?_))); (case side2 => exact (Kd.R_reads' HO244.out).2.1); rintro e w' ⟨rfl, ⟨nd, rfl⟩⟩; refine ⟨_, rfl, ?_⟩) | (go_at_call 33; (with_reducible refine (impl_QuotedArg.calls kj2 a0 t246 _ A13.out).mono ?_); rintro e w26 ⟨rfl, hb⟩; have n0_ := Aside0.mk (Kd.R_below (by (with_reducible repeat (first | apply Kd.R_alloc | apply Kd.R_drewN | apply Kd.R_drew)); exact HO244.out) hb); have n1_ := Aside0.mk (below_step (by repeat (first | (with_reducible first | exact HB.out | apply below_alloc | apply pw_below_drewN | apply below_drew1) | exact HB.out)) hb); clear HO244; clear HB; have HO244 := n0_; have HB := n1_; clear n0_ n1_; (try clear hb); (try clear hb2); (try clear hk); (try clear hi)) | (go_at_call 35; (with_reducible refine (spec_QuotedArg.calls kj2 a0 t247 _ A14.out).mono ?_); rintro e w' ⟨rfl, ⟨nd, rfl⟩⟩) | (go_at_call 34; (with_reducible refine (impl_QuotedPath.calls kj2 a0 t248 _ A21.out).mono ?_); rintro e w27 ⟨rfl, hb⟩; have n0_ := Aside0.mk (Kd.R_below (by (with_reducible repeat (first | apply Kd.R_alloc | apply Kd.R_drewN | apply Kd.R_drew)); exact HO244.out) hb); have n1_ := Aside0.mk (below_step (by repeat (first | (with_reducible first | exact HB.out | apply below_alloc | apply pw_below_drewN | apply below_drew1) | exact HB.out)) hb); clear HO244; clear HB; have HO244 := n0_; have HB := n1_; clear n0_ n1_; (try clear hb); (try clear hb2); (try clear hk); (try clear hi)) | (go_at_call 36; (with_reducible refine (spec_QuotedPath.calls kj2 a0 t249 _ A22.out).mono ?_); rintro e w' ⟨rfl, ⟨nd, rfl⟩⟩))
                go_ret
                exact ⟨by first | rfl | (simp [errW_none, errW_some] <;> rfl) | (simp [*, errW_none, errW_some] <;> rfl), by repeat (first | (with_reducible first | exact HB.out | apply below_alloc | apply pw_below_drewN | apply below_drew1) | exact HB.out)⟩
            · rw [if_neg c15] at H
              have c15b0 : (t246.toList == t247.toList) = false := beq_eq_false_iff_ne.mpr c15
              have c15b1 : (t246.toList != t247.toList) = true := bne_iff_ne.mpr c15
              obtain rfl := Option.some.inj H
              go_wp2_with (first | ((with_reducible refine gate_dst (N := 13) rfl ?_); refine Kd.R_lit Kd.string _ 9 ?hg (N := 13) ?hd (xs := ([a0] : List ByteArray)) (inner := [.string a0]) (ok := fun _ => True) (okp := fun _ => True) ?hr ?hp (fun _ hk => hk) trivial (Below.refl _ _) (Nat.le_refl _) (by simp) ?_; (case hd => rfl); (case hg => rfl); (case hr => first | (go_simp; done) | (go_simp; rfl)); (case hp => exact (Reps.one (show Kd.M Kd.string _ _ _ a0 [.string a0] from rfl) (Reps.none _ _))); intro v243 w28 ho29 hb hg_ hnew_; clear hg_ hnew_; (first | rw [← Ny242.out] at ho29 | (simp only [Int.reduceToNat] at ho29; rw [← Ny242.out] at ho29)); have n0_ := Aside0.mk (Kd.R_lower ho29 (below_size (by repeat (first | (with_reducible first | exact HB.out | apply below_alloc | apply pw_below_drewN | apply below_drew1) | exact HB.out)))); have n1_ := Aside0.mk (below_step (by repeat (first | (with_reducible first | exact HB.out | apply below_alloc | apply pw_below_drewN | apply below_drew1) | exact HB.out)) hb); clear HB; have HO244 := n0_; have HB := n1_; clear n0_ n1_; clear hb ho29; obtain ⟨Ao30, co30, eo30⟩ := Kd.R_slice HO244.out; subst eo30) | ((with_reducible refine gate_callee (f := 23) rfl ?_); refine goesL_ (some 14) rfl rfl Try.func23 (by kernel_rfl) rfl #[.slice Ao30 y242.length co30] rfl (by (try simp only [List.map_toArray, List.map_cons, List.map_nil]); first | done | rfl | (simp only [List.length_drop, List.length_take]; rfl)) ?_; (with_reducible refine (laws_short.calls kj2 _ _ y242 true _ ?side1 ?side2 A11.out).mono ?_); (case side1 => repeat (first | exact (Kd.R_reads' HO244.out).2.2 | (with_reducible refine Kd.C_alloc ?_ _) | (with_reducible refine Kd.C_drewN ?_ _) | (with_reducible refine Kd.C_drew ?_))); (case side2 => exact (Kd.R_reads' HO244.out).2.1); rintro e w' ⟨rfl, ⟨nd, rfl⟩⟩; refine ⟨_, rfl, ?_⟩) | (go_at_call 33; (with_reducible refine (impl_QuotedArg.calls kj2 a0 t246 _ A13.out).mono ?_); rintro e w31 ⟨rfl, hb⟩; have n0_ := Aside0.mk (Kd.R_below (by (with_reducible repeat (first | apply Kd.R_alloc | apply Kd.R_drewN | apply Kd.R_drew)); exact HO244.out) hb); have n1_ := Aside0.mk (below_step (by repeat (first | (with_reducible first | exact HB.out | apply below_alloc | apply pw_below_drewN | apply below_drew1) | exact HB.out)) hb); clear HO244; clear HB; have HO244 := n0_; have HB := n1_; clear n0_ n1_; (try clear hb); (try clear hb2); (try clear hk); (try clear hi)) | (go_at_call 35; (with_reducible refine (spec_QuotedArg.calls kj2 a0 t247 _ A14.out).mono ?_); rintro e w' ⟨rfl, ⟨nd, rfl⟩⟩))
              go_ret
              exact ⟨by first | rfl | (simp [errW_none, errW_some] <;> rfl) | (simp [*, errW_none, errW_some] <;> rfl), by repeat (first | (with_reducible first | exact HB.out | apply below_alloc | apply pw_below_drewN | apply below_drew1) | exact HB.out)⟩
          · replace c12 := Bool.eq_false_iff.mpr c12
            subst c12
            have H1 : (some true) = some r := by rw [if_neg (show ¬ (false = true) by decide)] at H; exact H
            clear H
            have H := H1
            clear H1
            obtain rfl := Option.some.inj H
            go_wp2_with (first | ((with_reducible refine gate_dst (N := 13) rfl ?_); refine Kd.R_lit Kd.string _ 9 ?hg (N := 13) ?hd (xs := ([a0] : List ByteArray)) (inner := [.string a0]) (ok := fun _ => True) (okp := fun _ => True) ?hr ?hp (fun _ hk => hk) trivial (Below.refl _ _) (Nat.le_refl _) (by simp) ?_; (case hd => rfl); (case hg => rfl); (case hr => first | (go_simp; done) | (go_simp; rfl)); (case hp => exact (Reps.one (show Kd.M Kd.string _ _ _ a0 [.string a0] from rfl) (Reps.none _ _))); intro v243 w32 ho33 hb hg_ hnew_; clear hg_ hnew_; (first | rw [← Ny242.out] at ho33 | (simp only [Int.reduceToNat] at ho33; rw [← Ny242.out] at ho33)); have n0_ := Aside0.mk (Kd.R_lower ho33 (below_size (by repeat (first | (with_reducible first | exact HB.out | apply below_alloc | apply pw_below_drewN | apply below_drew1) | exact HB.out)))); have n1_ := Aside0.mk (below_step (by repeat (first | (with_reducible first | exact HB.out | apply below_alloc | apply pw_below_drewN | apply below_drew1) | exact HB.out)) hb); clear HB; have HO244 := n0_; have HB := n1_; clear n0_ n1_; clear hb ho33; obtain ⟨Ao34, co34, eo34⟩ := Kd.R_slice HO244.out; subst eo34) | ((with_reducible refine gate_callee (f := 23) rfl ?_); refine goesL_ (some 14) rfl rfl Try.func23 (by kernel_rfl) rfl #[.slice Ao34 y242.length co34] rfl (by (try simp only [List.map_toArray, List.map_cons, List.map_nil]); first | done | rfl | (simp only [List.length_drop, List.length_take]; rfl)) ?_; (with_reducible refine (laws_short.calls kj2 _ _ y242 false _ ?side1 ?side2 A11.out).mono ?_); (case side1 => repeat (first | exact (Kd.R_reads' HO244.out).2.2 | (with_reducible refine Kd.C_alloc ?_ _) | (with_reducible refine Kd.C_drewN ?_ _) | (with_reducible refine Kd.C_drew ?_))); (case side2 => exact (Kd.R_reads' HO244.out).2.1); rintro e w' ⟨rfl, ⟨nd, rfl⟩⟩; refine ⟨_, rfl, ?_⟩))
            go_ret
            exact ⟨by first | rfl | (simp [errW_none, errW_some] <;> rfl) | (simp [*, errW_none, errW_some] <;> rfl), by repeat (first | (with_reducible first | exact HB.out | apply below_alloc | apply pw_below_drewN | apply below_drew1) | exact HB.out)⟩

/-- THE ONE PURE STATEMENT of laws_FnEscapedSays: yours. -/
def laws_FnEscapedSays.Pure : Prop := ∀ (a0 : ByteArray), a0.size ≤ 140737488351232 → ∃ k, laws_FnEscapedSays.f k a0 = some true
theorem laws_FnEscapedSays.walk (P : laws_FnEscapedSays.Pure) (a0 : ByteArray) (w : World) (w0 : a0.size ≤ 140737488351232) :
    Calls Try.prog 11 #[.string a0] w fun e w' => e = .returned (.bool true) ∧ Below w.heap.size w w' := by
  obtain ⟨k, h⟩ := P a0 w0
  refine (laws_FnEscapedSays.calls k a0 true w h).mono ?_
  rintro e w' ⟨rfl, hd⟩
  exact ⟨rfl, hd⟩

end Go.Proofs.Ytjmcndbkmknemaa.Q
