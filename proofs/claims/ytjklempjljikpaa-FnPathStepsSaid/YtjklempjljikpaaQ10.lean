import Derived.Test.YtjklempjljikpaaQ0
import Derived.Test.YtjklempjljikpaaQ8
-- Written by a program of this session out of the translation, with the kit's printer. Not trusted: Lean checks it.
namespace Go.Proofs.Ytjklempjljikpaa.Q
open Go.RowKit Go.Proofs.YtjklempjljikpaaW.PrintWords Go.Proofs.YtjklempjljikpaaW.PrintLast Go.Proofs.YtjklempjljikpaaW.PrintMore
attribute [local go_sem] max2_int min2_int max_two min_two max_three min_three max_four min_four   -- for this text's walks alone
set_option linter.unusedVariables false
set_option linter.unusedSimpArgs false

/-! ### laws_FnPathClean: function 4 -/
def laws_FnPathClean.j0 : Nat → ByteArray → Bool → Option (Bool)
  | 0, _, _ => none
  | k + 1, x3, x29 => if x29 = true then (some false) else ((laws_holds.f k x3 37).bind fun t184 => (if t184 = true then (some true) else ((impl_CleanPath.f x3).bind fun t185 => (some (t185.toList == x3.toList)))))
def laws_FnPathClean.f (k : Nat) (a0 : ByteArray) : Option (Bool) := if (a0.size : Int) > 2147483647 then (some true) else ((laws_cleans.f).bind fun t174 => (if t174 = true then ((laws_short.f k (([a0] : List ByteArray))).bind fun t178 => (if t178 = true then ((impl_CleanPath.f a0).bind fun t179 => ((laws_begins.f t179 (⟨#[47]⟩ : ByteArray)).bind fun t180 => (if t180 = true then ((laws_stands.f k t179 (⟨#[47, 47]⟩ : ByteArray)).bind fun t181 => (if t181 = true then (laws_FnPathClean.j0 k t179 true) else ((laws_stands.f k t179 (⟨#[47, 46, 47]⟩ : ByteArray)).bind fun t182 => (if t182 = true then (laws_FnPathClean.j0 k t179 true) else ((laws_stands.f k t179 (⟨#[47, 46, 46, 47]⟩ : ByteArray)).bind fun t183 => (laws_FnPathClean.j0 k t179 t183)))))) else (laws_FnPathClean.j0 k t179 true)))) else (some true))) else (some false)))
theorem laws_FnPathClean.mono_l : ∀ k, (∀ y0 y1, LeO (laws_FnPathClean.j0 k y0 y1) (laws_FnPathClean.j0 (k + 1) y0 y1))
  | 0 => fun _ _ r h => by simp [laws_FnPathClean.j0] at h
  | k + 1 => by
    have ih0 := laws_FnPathClean.mono_l k
    · intro y0 y1
      unfold laws_FnPathClean.j0
      repeat' first
      | (with_reducible exact ih0 _ _)
      | (with_reducible exact laws_holds.mono _ _ _)
      | (with_reducible exact laws_short.mono _ _)
      | (with_reducible exact laws_stands.mono _ _ _)
      | (with_reducible exact LeO.refl _)
      | (with_reducible exact LeO.none _)
      | (with_reducible refine LeO.ite ?_ ?_)
      | (with_reducible refine LeO.bind ?_ (fun _ => ?_))
      | exact ih0 _ _
      | exact laws_holds.mono _ _ _
      | exact laws_short.mono _ _
      | exact laws_stands.mono _ _ _
      | exact LeO.none _
      | refine LeO.ite ?_ ?_
      | refine LeO.bind ?_ (fun _ => ?_)
theorem laws_FnPathClean.mono : ∀ a0 k, LeO (laws_FnPathClean.f k a0) (laws_FnPathClean.f (k + 1) a0) := by
  intro a0 k
  have ih0 := laws_FnPathClean.mono_l k
  unfold laws_FnPathClean.f
  repeat' first
      | (with_reducible exact ih0 _ _)
      | (with_reducible exact laws_holds.mono _ _ _)
      | (with_reducible exact laws_short.mono _ _)
      | (with_reducible exact laws_stands.mono _ _ _)
      | (with_reducible exact LeO.refl _)
      | (with_reducible exact LeO.none _)
      | (with_reducible refine LeO.ite ?_ ?_)
      | (with_reducible refine LeO.bind ?_ (fun _ => ?_))
      | exact ih0 _ _
      | exact laws_holds.mono _ _ _
      | exact laws_short.mono _ _
      | exact laws_stands.mono _ _ _
      | exact LeO.none _
      | refine LeO.ite ?_ ?_
      | refine LeO.bind ?_ (fun _ => ?_)
set_option maxHeartbeats 8000000 in
set_option maxRecDepth 100000 in
theorem laws_FnPathClean.calls (k : Nat) (a0 : ByteArray) (r : Bool) (w : World) (h : laws_FnPathClean.f k a0 = some r) :
    Calls Try.prog 4 #[.string a0] w fun e w' => e = .returned (.bool r) ∧ Below w.heap.size w w' := by
  have HB := Aside0.mk (Below.refl w.heap.size w)
  have H : (if (a0.size : Int) > 2147483647 then (some true) else ((laws_cleans.f).bind fun t174 => (if t174 = true then ((laws_short.f k (([a0] : List ByteArray))).bind fun t178 => (if t178 = true then ((impl_CleanPath.f a0).bind fun t179 => ((laws_begins.f t179 (⟨#[47]⟩ : ByteArray)).bind fun t180 => (if t180 = true then ((laws_stands.f k t179 (⟨#[47, 47]⟩ : ByteArray)).bind fun t181 => (if t181 = true then (laws_FnPathClean.j0 k t179 true) else ((laws_stands.f k t179 (⟨#[47, 46, 47]⟩ : ByteArray)).bind fun t182 => (if t182 = true then (laws_FnPathClean.j0 k t179 true) else ((laws_stands.f k t179 (⟨#[47, 46, 46, 47]⟩ : ByteArray)).bind fun t183 => (laws_FnPathClean.j0 k t179 t183)))))) else (laws_FnPathClean.j0 k t179 true)))) else (some true))) else (some false)))) = some r := h
  clear h
  by_cases c2 : (a0.size : Int) > 2147483647
  · rw [if_pos c2] at H
    have c2b0 : decide (2147483647 < (a0.size : Int)) = true := decide_eq_true c2
    have c2b1 : decide (2147483647 < a0.size) = true := decide_eq_true (by omega)
    clear c2
    obtain rfl := Option.some.inj H
    go_enter Try.func4, Try.ntmps4
    go_wp2
    go_ret
    exact ⟨by first | rfl | (simp [errW_none, errW_some] <;> rfl) | (simp [*, errW_none, errW_some] <;> rfl), by repeat (first | (with_reducible first | exact HB.out | apply below_alloc | apply pw_below_drewN | apply below_drew1) | exact HB.out)⟩
  · rw [if_neg c2] at H
    have c2b0 : decide (2147483647 < (a0.size : Int)) = false := decide_eq_false c2
    have c2b1 : decide (2147483647 < a0.size) = false := decide_eq_false (by omega)
    clear c2
    replace H := Option.bind_eq_some_iff.mp H
    obtain ⟨t174, A30, H⟩ := H
    replace H : (if t174 = true then ((laws_short.f k (([a0] : List ByteArray))).bind fun t178 => (if t178 = true then ((impl_CleanPath.f a0).bind fun t179 => ((laws_begins.f t179 (⟨#[47]⟩ : ByteArray)).bind fun t180 => (if t180 = true then ((laws_stands.f k t179 (⟨#[47, 47]⟩ : ByteArray)).bind fun t181 => (if t181 = true then (laws_FnPathClean.j0 k t179 true) else ((laws_stands.f k t179 (⟨#[47, 46, 47]⟩ : ByteArray)).bind fun t182 => (if t182 = true then (laws_FnPathClean.j0 k t179 true) else ((laws_stands.f k t179 (⟨#[47, 46, 46, 47]⟩ : ByteArray)).bind fun t183 => (laws_FnPathClean.j0 k t179 t183)))))) else (laws_FnPathClean.j0 k t179 true)))) else (some true))) else (some false)) = some r := H
    have A3 := Aside0.mk A30
    clear A30
    by_cases c4 : t174 = true
    · subst c4
      have H1 : ((laws_short.f k (([a0] : List ByteArray))).bind fun t178 => (if t178 = true then ((impl_CleanPath.f a0).bind fun t179 => ((laws_begins.f t179 (⟨#[47]⟩ : ByteArray)).bind fun t180 => (if t180 = true then ((laws_stands.f k t179 (⟨#[47, 47]⟩ : ByteArray)).bind fun t181 => (if t181 = true then (laws_FnPathClean.j0 k t179 true) else ((laws_stands.f k t179 (⟨#[47, 46, 47]⟩ : ByteArray)).bind fun t182 => (if t182 = true then (laws_FnPathClean.j0 k t179 true) else ((laws_stands.f k t179 (⟨#[47, 46, 46, 47]⟩ : ByteArray)).bind fun t183 => (laws_FnPathClean.j0 k t179 t183)))))) else (laws_FnPathClean.j0 k t179 true)))) else (some true))) = some r := by rw [if_pos rfl] at H; exact H
      clear H
      have H := H1
      clear H1
      obtain ⟨y175, hy175⟩ : ∃ y_ : List ByteArray, y_ = (([a0] : List ByteArray)) := ⟨_, rfl⟩
      replace H : ((laws_short.f k y175).bind fun t178 => (if t178 = true then ((impl_CleanPath.f a0).bind fun t179 => ((laws_begins.f t179 (⟨#[47]⟩ : ByteArray)).bind fun t180 => (if t180 = true then ((laws_stands.f k t179 (⟨#[47, 47]⟩ : ByteArray)).bind fun t181 => (if t181 = true then (laws_FnPathClean.j0 k t179 true) else ((laws_stands.f k t179 (⟨#[47, 46, 47]⟩ : ByteArray)).bind fun t182 => (if t182 = true then (laws_FnPathClean.j0 k t179 true) else ((laws_stands.f k t179 (⟨#[47, 46, 46, 47]⟩ : ByteArray)).bind fun t183 => (laws_FnPathClean.j0 k t179 t183)))))) else (laws_FnPathClean.j0 k t179 true)))) else (some true))) = some r := by first | (rw [hy175]; with_reducible exact H) | (have H2_ := (Option.bind_some _ _).symm.trans H; rw [hy175]; with_reducible exact H2_) | (have H2_ := (Option.bind_some _ _).symm.trans H; with_reducible exact H2_) | with_reducible exact H | (rw [hy175]; exact H) | exact H
      have Ny175 := Aside0.mk hy175
      clear hy175
      replace H := Option.bind_eq_some_iff.mp H
      obtain ⟨t178, A50, H⟩ := H
      replace H : (if t178 = true then ((impl_CleanPath.f a0).bind fun t179 => ((laws_begins.f t179 (⟨#[47]⟩ : ByteArray)).bind fun t180 => (if t180 = true then ((laws_stands.f k t179 (⟨#[47, 47]⟩ : ByteArray)).bind fun t181 => (if t181 = true then (laws_FnPathClean.j0 k t179 true) else ((laws_stands.f k t179 (⟨#[47, 46, 47]⟩ : ByteArray)).bind fun t182 => (if t182 = true then (laws_FnPathClean.j0 k t179 true) else ((laws_stands.f k t179 (⟨#[47, 46, 46, 47]⟩ : ByteArray)).bind fun t183 => (laws_FnPathClean.j0 k t179 t183)))))) else (laws_FnPathClean.j0 k t179 true)))) else (some true)) = some r := H
      have A5 := Aside0.mk A50
      clear A50
      by_cases c6 : t178 = true
      · subst c6
        have H1 : ((impl_CleanPath.f a0).bind fun t179 => ((laws_begins.f t179 (⟨#[47]⟩ : ByteArray)).bind fun t180 => (if t180 = true then ((laws_stands.f k t179 (⟨#[47, 47]⟩ : ByteArray)).bind fun t181 => (if t181 = true then (laws_FnPathClean.j0 k t179 true) else ((laws_stands.f k t179 (⟨#[47, 46, 47]⟩ : ByteArray)).bind fun t182 => (if t182 = true then (laws_FnPathClean.j0 k t179 true) else ((laws_stands.f k t179 (⟨#[47, 46, 46, 47]⟩ : ByteArray)).bind fun t183 => (laws_FnPathClean.j0 k t179 t183)))))) else (laws_FnPathClean.j0 k t179 true)))) = some r := by rw [if_pos rfl] at H; exact H
        clear H
        have H := H1
        clear H1
        replace H := Option.bind_eq_some_iff.mp H
        obtain ⟨t179, A70, H⟩ := H
        replace H : ((laws_begins.f t179 (⟨#[47]⟩ : ByteArray)).bind fun t180 => (if t180 = true then ((laws_stands.f k t179 (⟨#[47, 47]⟩ : ByteArray)).bind fun t181 => (if t181 = true then (laws_FnPathClean.j0 k t179 true) else ((laws_stands.f k t179 (⟨#[47, 46, 47]⟩ : ByteArray)).bind fun t182 => (if t182 = true then (laws_FnPathClean.j0 k t179 true) else ((laws_stands.f k t179 (⟨#[47, 46, 46, 47]⟩ : ByteArray)).bind fun t183 => (laws_FnPathClean.j0 k t179 t183)))))) else (laws_FnPathClean.j0 k t179 true))) = some r := H
        have A7 := Aside0.mk A70
        clear A70
        have HC8 := Aside0.mk H
        clear H
        go_enter Try.func4, Try.ntmps4
        go_upto_region 8 with (first | ((with_reducible refine gate_callee (f := 13) rfl ?_); refine goesL_ (some 7) rfl rfl Try.func13 (by kernel_rfl) rfl #[] rfl (by (try simp only [List.map_toArray, List.map_cons, List.map_nil]); first | done | rfl | (simp only [List.length_drop, List.length_take]; rfl)) ?_; (with_reducible refine (laws_cleans.calls  true _ A3.out).mono ?_); rintro e w9 ⟨rfl, hb⟩; refine ⟨_, rfl, ?_⟩; have n0_ := Aside0.mk (below_step (by repeat (first | (with_reducible first | exact HB.out | apply below_alloc | apply pw_below_drewN | apply below_drew1) | exact HB.out)) hb); clear HB; have HB := n0_; clear n0_; (try clear hb); (try clear hb2); (try clear hk); (try clear hi)) | ((with_reducible refine gate_dst (N := 10) rfl ?_); refine Kd.R_lit Kd.string _ 9 ?hg (N := 10) ?hd (xs := ([a0] : List ByteArray)) (inner := [.string a0]) (ok := fun _ => True) (okp := fun _ => True) ?hr ?hp (fun _ hk => hk) trivial (Below.refl _ _) (Nat.le_refl _) (by simp) ?_; (case hd => rfl); (case hg => rfl); (case hr => first | (go_simp; done) | (go_simp; rfl)); (case hp => exact (Reps.one (show Kd.M Kd.string _ _ _ a0 [.string a0] from rfl) (Reps.none _ _))); intro v176 w10 ho11 hb hg_ hnew_; clear hg_ hnew_; (first | rw [← Ny175.out] at ho11 | (simp only [Int.reduceToNat] at ho11; rw [← Ny175.out] at ho11)); have n0_ := Aside0.mk (Kd.R_lower ho11 (below_size (by repeat (first | (with_reducible first | exact HB.out | apply below_alloc | apply pw_below_drewN | apply below_drew1) | exact HB.out)))); have n1_ := Aside0.mk (below_step (by repeat (first | (with_reducible first | exact HB.out | apply below_alloc | apply pw_below_drewN | apply below_drew1) | exact HB.out)) hb); clear HB; have HO177 := n0_; have HB := n1_; clear n0_ n1_; clear hb ho11; obtain ⟨Ao12, co12, eo12⟩ := Kd.R_slice HO177.out; subst eo12) | ((with_reducible refine gate_callee (f := 14) rfl ?_); refine goesL_ (some 11) rfl rfl Try.func14 (by kernel_rfl) rfl #[.slice Ao12 y175.length co12] rfl (by (try simp only [List.map_toArray, List.map_cons, List.map_nil]); first | done | rfl | (simp only [List.length_drop, List.length_take]; rfl)) ?_; (with_reducible refine (laws_short.calls k _ _ y175 true _ ?side1 ?side2 A5.out).mono ?_); (case side1 => repeat (first | exact (Kd.R_reads' HO177.out).2.2 | (with_reducible refine Kd.C_alloc ?_ _) | (with_reducible refine Kd.C_drewN ?_ _) | (with_reducible refine Kd.C_drew ?_))); (case side2 => exact (Kd.R_reads' HO177.out).2.1); rintro e w' ⟨rfl, ⟨nd, rfl⟩⟩; refine ⟨_, rfl, ?_⟩) | ((with_reducible refine gate_callee (f := 16) rfl ?_); refine goesL_ (some 14) rfl rfl Try.func16 (by kernel_rfl) rfl #[.string a0] rfl (by (try simp only [List.map_toArray, List.map_cons, List.map_nil]); first | done | rfl | (simp only [List.length_drop, List.length_take]; rfl)) ?_; (with_reducible refine (impl_CleanPath.calls a0 t179 _ A7.out).mono ?_); rintro e w13 ⟨rfl, hb⟩; refine ⟨_, rfl, ?_⟩; have n0_ := Aside0.mk (Kd.R_below (by (with_reducible repeat (first | apply Kd.R_alloc | apply Kd.R_drewN | apply Kd.R_drew)); exact HO177.out) hb); have n1_ := Aside0.mk (below_step (by repeat (first | (with_reducible first | exact HB.out | apply below_alloc | apply pw_below_drewN | apply below_drew1) | exact HB.out)) hb); clear HO177; clear HB; have HO177 := n0_; have HB := n1_; clear n0_ n1_; (try clear hb); (try clear hb2); (try clear hk); (try clear hi)))
        (try simp only [Act.put, List.setIfInBounds_toArray, List.set_cons_zero, List.set_cons_succ])
        go_cut [29] (fun v29 wc => ∃ (kq : Nat) (x29_7 : Bool), v29 = .bool x29_7 ∧ Aside0 (laws_FnPathClean.j0 kq t179 x29_7 = some r) ∧ Aside0 (kq ≤ k) ∧ Aside0 (Below w.heap.size w wc))
        case first =>
          have H := HC8.out
          clear HC8
          replace H := Option.bind_eq_some_iff.mp H
          obtain ⟨t180, A140, H⟩ := H
          replace H : (if t180 = true then ((laws_stands.f k t179 (⟨#[47, 47]⟩ : ByteArray)).bind fun t181 => (if t181 = true then (laws_FnPathClean.j0 k t179 true) else ((laws_stands.f k t179 (⟨#[47, 46, 47]⟩ : ByteArray)).bind fun t182 => (if t182 = true then (laws_FnPathClean.j0 k t179 true) else ((laws_stands.f k t179 (⟨#[47, 46, 46, 47]⟩ : ByteArray)).bind fun t183 => (laws_FnPathClean.j0 k t179 t183)))))) else (laws_FnPathClean.j0 k t179 true)) = some r := H
          have A14 := Aside0.mk A140
          clear A140
          by_cases c15 : t180 = true
          · subst c15
            have H1 : ((laws_stands.f k t179 (⟨#[47, 47]⟩ : ByteArray)).bind fun t181 => (if t181 = true then (laws_FnPathClean.j0 k t179 true) else ((laws_stands.f k t179 (⟨#[47, 46, 47]⟩ : ByteArray)).bind fun t182 => (if t182 = true then (laws_FnPathClean.j0 k t179 true) else ((laws_stands.f k t179 (⟨#[47, 46, 46, 47]⟩ : ByteArray)).bind fun t183 => (laws_FnPathClean.j0 k t179 t183)))))) = some r := by rw [if_pos rfl] at H; exact H
            clear H
            have H := H1
            clear H1
            replace H := Option.bind_eq_some_iff.mp H
            obtain ⟨t181, A160, H⟩ := H
            replace H : (if t181 = true then (laws_FnPathClean.j0 k t179 true) else ((laws_stands.f k t179 (⟨#[47, 46, 47]⟩ : ByteArray)).bind fun t182 => (if t182 = true then (laws_FnPathClean.j0 k t179 true) else ((laws_stands.f k t179 (⟨#[47, 46, 46, 47]⟩ : ByteArray)).bind fun t183 => (laws_FnPathClean.j0 k t179 t183))))) = some r := H
            have A16 := Aside0.mk A160
            clear A160
            by_cases c17 : t181 = true
            · subst c17
              have H1 : (laws_FnPathClean.j0 k t179 true) = some r := by rw [if_pos rfl] at H; exact H
              clear H
              have H := H1
              clear H1
              have H' := Aside0.mk H
              clear H
              go_wp2_with (first | ((with_reducible refine gate_callee (f := 17) rfl ?_); refine goesL_ (some 16) rfl rfl Try.func17 (by kernel_rfl) rfl #[.string t179, .string (⟨#[47]⟩ : ByteArray)] rfl (by (try simp only [List.map_toArray, List.map_cons, List.map_nil]); first | done | rfl | (simp only [List.length_drop, List.length_take]; rfl)) ?_; (with_reducible refine (laws_begins.calls t179 (⟨#[47]⟩ : ByteArray) true _ A14.out).mono ?_); rintro e w' ⟨rfl, ⟨nd, rfl⟩⟩; refine ⟨_, rfl, ?_⟩) | (go_at_call 18; (with_reducible refine (laws_stands.calls k t179 (⟨#[47, 47]⟩ : ByteArray) true _ A16.out).mono ?_); rintro e w' ⟨rfl, ⟨nd, rfl⟩⟩))
              go_meet
              case rel => exact ⟨_, (true), (by first | rfl | (simp; done) | (simp [*]; done) | (simp [Go.Proofs.YtjklempjljikpaaX.isEmpty_ne]; done)), H', ⟨by first | omega | exact Nat.le_refl _⟩, ⟨by repeat (first | (with_reducible first | exact HB.out | apply below_alloc | apply pw_below_drewN | apply below_drew1) | exact HB.out)⟩⟩
            · replace c17 := Bool.eq_false_iff.mpr c17
              subst c17
              have H1 : ((laws_stands.f k t179 (⟨#[47, 46, 47]⟩ : ByteArray)).bind fun t182 => (if t182 = true then (laws_FnPathClean.j0 k t179 true) else ((laws_stands.f k t179 (⟨#[47, 46, 46, 47]⟩ : ByteArray)).bind fun t183 => (laws_FnPathClean.j0 k t179 t183)))) = some r := by rw [if_neg (show ¬ (false = true) by decide)] at H; exact H
              clear H
              have H := H1
              clear H1
              replace H := Option.bind_eq_some_iff.mp H
              obtain ⟨t182, A180, H⟩ := H
              replace H : (if t182 = true then (laws_FnPathClean.j0 k t179 true) else ((laws_stands.f k t179 (⟨#[47, 46, 46, 47]⟩ : ByteArray)).bind fun t183 => (laws_FnPathClean.j0 k t179 t183))) = some r := H
              have A18 := Aside0.mk A180
              clear A180
              by_cases c19 : t182 = true
              · subst c19
                have H1 : (laws_FnPathClean.j0 k t179 true) = some r := by rw [if_pos rfl] at H; exact H
                clear H
                have H := H1
                clear H1
                have H' := Aside0.mk H
                clear H
                go_wp2_with (first | ((with_reducible refine gate_callee (f := 17) rfl ?_); refine goesL_ (some 16) rfl rfl Try.func17 (by kernel_rfl) rfl #[.string t179, .string (⟨#[47]⟩ : ByteArray)] rfl (by (try simp only [List.map_toArray, List.map_cons, List.map_nil]); first | done | rfl | (simp only [List.length_drop, List.length_take]; rfl)) ?_; (with_reducible refine (laws_begins.calls t179 (⟨#[47]⟩ : ByteArray) true _ A14.out).mono ?_); rintro e w' ⟨rfl, ⟨nd, rfl⟩⟩; refine ⟨_, rfl, ?_⟩) | (go_at_call 18; (with_reducible refine (laws_stands.calls k t179 (⟨#[47, 47]⟩ : ByteArray) false _ A16.out).mono ?_); rintro e w' ⟨rfl, ⟨nd, rfl⟩⟩) | (go_at_call 18; (with_reducible refine (laws_stands.calls k t179 (⟨#[47, 46, 47]⟩ : ByteArray) true _ A18.out).mono ?_); rintro e w' ⟨rfl, ⟨nd, rfl⟩⟩))
                go_meet
                case rel => exact ⟨_, (true), (by first | rfl | (simp; done) | (simp [*]; done) | (simp [Go.Proofs.YtjklempjljikpaaX.isEmpty_ne]; done)), H', ⟨by first | omega | exact Nat.le_refl _⟩, ⟨by repeat (first | (with_reducible first | exact HB.out | apply below_alloc | apply pw_below_drewN | apply below_drew1) | exact HB.out)⟩⟩
              · replace c19 := Bool.eq_false_iff.mpr c19
                subst c19
                have H1 : ((laws_stands.f k t179 (⟨#[47, 46, 46, 47]⟩ : ByteArray)).bind fun t183 => (laws_FnPathClean.j0 k t179 t183)) = some r := by rw [if_neg (show ¬ (false = true) by decide)] at H; exact H
                clear H
                have H := H1
                clear H1
                replace H := Option.bind_eq_some_iff.mp H
                obtain ⟨t183, A200, H⟩ := H
                replace H : (laws_FnPathClean.j0 k t179 t183) = some r := H
                have A20 := Aside0.mk A200
                clear A200
                have H' := Aside0.mk H
                clear H
                go_wp2_with (first | ((with_reducible refine gate_callee (f := 17) rfl ?_); refine goesL_ (some 16) rfl rfl Try.func17 (by kernel_rfl) rfl #[.string t179, .string (⟨#[47]⟩ : ByteArray)] rfl (by (try simp only [List.map_toArray, List.map_cons, List.map_nil]); first | done | rfl | (simp only [List.length_drop, List.length_take]; rfl)) ?_; (with_reducible refine (laws_begins.calls t179 (⟨#[47]⟩ : ByteArray) true _ A14.out).mono ?_); rintro e w' ⟨rfl, ⟨nd, rfl⟩⟩; refine ⟨_, rfl, ?_⟩) | (go_at_call 18; (with_reducible refine (laws_stands.calls k t179 (⟨#[47, 47]⟩ : ByteArray) false _ A16.out).mono ?_); rintro e w' ⟨rfl, ⟨nd, rfl⟩⟩) | (go_at_call 18; (with_reducible refine (laws_stands.calls k t179 (⟨#[47, 46, 47]⟩ : ByteArray) false _ A18.out).mono ?_); rintro e w' ⟨rfl, ⟨nd, rfl⟩⟩) | (go_at_call 18; (with_reducible refine (laws_stands.calls k t179 (⟨#[47, 46, 46, 47]⟩ : ByteArray) t183 _ A20.out).mono ?_); rintro e w' ⟨rfl, ⟨nd, rfl⟩⟩))
                go_meet
                case rel => exact ⟨_, (t183), (by first | rfl | (simp; done) | (simp [*]; done) | (simp [Go.Proofs.YtjklempjljikpaaX.isEmpty_ne]; done)), H', ⟨by first | omega | exact Nat.le_refl _⟩, ⟨by repeat (first | (with_reducible first | exact HB.out | apply below_alloc | apply pw_below_drewN | apply below_drew1) | exact HB.out)⟩⟩
          · replace c15 := Bool.eq_false_iff.mpr c15
            subst c15
            have H1 : (laws_FnPathClean.j0 k t179 true) = some r := by rw [if_neg (show ¬ (false = true) by decide)] at H; exact H
            clear H
            have H := H1
            clear H1
            have H' := Aside0.mk H
            clear H
            go_wp2_with (first | ((with_reducible refine gate_callee (f := 17) rfl ?_); refine goesL_ (some 16) rfl rfl Try.func17 (by kernel_rfl) rfl #[.string t179, .string (⟨#[47]⟩ : ByteArray)] rfl (by (try simp only [List.map_toArray, List.map_cons, List.map_nil]); first | done | rfl | (simp only [List.length_drop, List.length_take]; rfl)) ?_; (with_reducible refine (laws_begins.calls t179 (⟨#[47]⟩ : ByteArray) false _ A14.out).mono ?_); rintro e w' ⟨rfl, ⟨nd, rfl⟩⟩; refine ⟨_, rfl, ?_⟩))
            go_meet
            case rel => exact ⟨_, (true), (by first | rfl | (simp; done) | (simp [*]; done) | (simp [Go.Proofs.YtjklempjljikpaaX.isEmpty_ne]; done)), H', ⟨by first | omega | exact Nat.le_refl _⟩, ⟨by repeat (first | (with_reducible first | exact HB.out | apply below_alloc | apply pw_below_drewN | apply below_drew1) | exact HB.out)⟩⟩
        case rest =>
          clear HC8
          try clear c1
          try clear c2
          try clear c2b0
          try clear c2b1
          try clear p2
          try clear c4
          try clear c6
          try clear c13
          try clear c14
          try clear c15
          try clear c16
          try clear c17
          try clear c19
          obtain ⟨kq, x29_7, rfl, HA, HJ7, HB⟩ := hcut
          cases kq with
          | zero => exact absurd HA.out (by simp [laws_FnPathClean.j0])
          | succ kj7 =>
            have H := HA.out
            clear HA
            simp only [laws_FnPathClean.j0] at H
            by_cases c21 : x29_7 = true
            · subst c21
              have H1 : (some false) = some r := by rw [if_pos rfl] at H; exact H
              clear H
              have H := H1
              clear H1
              obtain rfl := Option.some.inj H
              go_wp2
              go_ret
              exact ⟨by first | rfl | (simp [errW_none, errW_some] <;> rfl) | (simp [*, errW_none, errW_some] <;> rfl), by repeat (first | (with_reducible first | exact HB.out | apply below_alloc | apply pw_below_drewN | apply below_drew1) | exact HB.out)⟩
            · replace c21 := Bool.eq_false_iff.mpr c21
              subst c21
              have H1 : ((laws_holds.f kj7 t179 37).bind fun t184 => (if t184 = true then (some true) else ((impl_CleanPath.f t179).bind fun t185 => (some (t185.toList == t179.toList))))) = some r := by rw [if_neg (show ¬ (false = true) by decide)] at H; exact H
              clear H
              have H := H1
              clear H1
              replace H := Option.bind_eq_some_iff.mp H
              obtain ⟨t184, A220, H⟩ := H
              replace H : (if t184 = true then (some true) else ((impl_CleanPath.f t179).bind fun t185 => (some (t185.toList == t179.toList)))) = some r := H
              have A22 := Aside0.mk A220
              clear A220
              by_cases c23 : t184 = true
              · subst c23
                have H1 : (some true) = some r := by rw [if_pos rfl] at H; exact H
                clear H
                have H := H1
                clear H1
                obtain rfl := Option.some.inj H
                go_wp2_with (first | ((with_reducible refine gate_callee (f := 19) rfl ?_); refine goesL_ (some 31) rfl rfl Try.func19 (by kernel_rfl) rfl #[.string t179, .int .u8 37] rfl (by (try simp only [List.map_toArray, List.map_cons, List.map_nil]); first | done | rfl | (simp only [List.length_drop, List.length_take]; rfl)) ?_; (with_reducible refine (laws_holds.calls kj7 t179 37 true _ A22.out).mono ?_); rintro e w' ⟨rfl, ⟨nd, rfl⟩⟩; refine ⟨_, rfl, ?_⟩))
                go_ret
                exact ⟨by first | rfl | (simp [errW_none, errW_some] <;> rfl) | (simp [*, errW_none, errW_some] <;> rfl), by repeat (first | (with_reducible first | exact HB.out | apply below_alloc | apply pw_below_drewN | apply below_drew1) | exact HB.out)⟩
              · replace c23 := Bool.eq_false_iff.mpr c23
                subst c23
                have H1 : ((impl_CleanPath.f t179).bind fun t185 => (some (t185.toList == t179.toList))) = some r := by rw [if_neg (show ¬ (false = true) by decide)] at H; exact H
                clear H
                have H := H1
                clear H1
                replace H := Option.bind_eq_some_iff.mp H
                obtain ⟨t185, A240, H⟩ := H
                replace H : (some (t185.toList == t179.toList)) = some r := H
                have A24 := Aside0.mk A240
                clear A240
                obtain rfl := Option.some.inj H
                go_wp2_with (first | ((with_reducible refine gate_callee (f := 19) rfl ?_); refine goesL_ (some 31) rfl rfl Try.func19 (by kernel_rfl) rfl #[.string t179, .int .u8 37] rfl (by (try simp only [List.map_toArray, List.map_cons, List.map_nil]); first | done | rfl | (simp only [List.length_drop, List.length_take]; rfl)) ?_; (with_reducible refine (laws_holds.calls kj7 t179 37 false _ A22.out).mono ?_); rintro e w' ⟨rfl, ⟨nd, rfl⟩⟩; refine ⟨_, rfl, ?_⟩) | (go_at_call 16; (with_reducible refine (impl_CleanPath.calls t179 t185 _ A24.out).mono ?_); rintro e w25 ⟨rfl, hb⟩; have n0_ := Aside0.mk (below_step (by repeat (first | (with_reducible first | exact HB.out | apply below_alloc | apply pw_below_drewN | apply below_drew1) | exact HB.out)) hb); clear HB; have HB := n0_; clear n0_; (try clear hb); (try clear hb2); (try clear hk); (try clear hi)))
                go_ret
                exact ⟨by first | rfl | (simp [errW_none, errW_some] <;> rfl) | (simp [*, errW_none, errW_some] <;> rfl), by repeat (first | (with_reducible first | exact HB.out | apply below_alloc | apply pw_below_drewN | apply below_drew1) | exact HB.out)⟩
      · replace c6 := Bool.eq_false_iff.mpr c6
        subst c6
        have H1 : (some true) = some r := by rw [if_neg (show ¬ (false = true) by decide)] at H; exact H
        clear H
        have H := H1
        clear H1
        obtain rfl := Option.some.inj H
        go_enter Try.func4, Try.ntmps4
        go_wp2_with (first | ((with_reducible refine gate_callee (f := 13) rfl ?_); refine goesL_ (some 7) rfl rfl Try.func13 (by kernel_rfl) rfl #[] rfl (by (try simp only [List.map_toArray, List.map_cons, List.map_nil]); first | done | rfl | (simp only [List.length_drop, List.length_take]; rfl)) ?_; (with_reducible refine (laws_cleans.calls  true _ A3.out).mono ?_); rintro e w26 ⟨rfl, hb⟩; refine ⟨_, rfl, ?_⟩; have n0_ := Aside0.mk (below_step (by repeat (first | (with_reducible first | exact HB.out | apply below_alloc | apply pw_below_drewN | apply below_drew1) | exact HB.out)) hb); clear HB; have HB := n0_; clear n0_; (try clear hb); (try clear hb2); (try clear hk); (try clear hi)) | ((with_reducible refine gate_dst (N := 10) rfl ?_); refine Kd.R_lit Kd.string _ 9 ?hg (N := 10) ?hd (xs := ([a0] : List ByteArray)) (inner := [.string a0]) (ok := fun _ => True) (okp := fun _ => True) ?hr ?hp (fun _ hk => hk) trivial (Below.refl _ _) (Nat.le_refl _) (by simp) ?_; (case hd => rfl); (case hg => rfl); (case hr => first | (go_simp; done) | (go_simp; rfl)); (case hp => exact (Reps.one (show Kd.M Kd.string _ _ _ a0 [.string a0] from rfl) (Reps.none _ _))); intro v176 w27 ho28 hb hg_ hnew_; clear hg_ hnew_; (first | rw [← Ny175.out] at ho28 | (simp only [Int.reduceToNat] at ho28; rw [← Ny175.out] at ho28)); have n0_ := Aside0.mk (Kd.R_lower ho28 (below_size (by repeat (first | (with_reducible first | exact HB.out | apply below_alloc | apply pw_below_drewN | apply below_drew1) | exact HB.out)))); have n1_ := Aside0.mk (below_step (by repeat (first | (with_reducible first | exact HB.out | apply below_alloc | apply pw_below_drewN | apply below_drew1) | exact HB.out)) hb); clear HB; have HO177 := n0_; have HB := n1_; clear n0_ n1_; clear hb ho28; obtain ⟨Ao29, co29, eo29⟩ := Kd.R_slice HO177.out; subst eo29) | ((with_reducible refine gate_callee (f := 14) rfl ?_); refine goesL_ (some 11) rfl rfl Try.func14 (by kernel_rfl) rfl #[.slice Ao29 y175.length co29] rfl (by (try simp only [List.map_toArray, List.map_cons, List.map_nil]); first | done | rfl | (simp only [List.length_drop, List.length_take]; rfl)) ?_; (with_reducible refine (laws_short.calls k _ _ y175 false _ ?side1 ?side2 A5.out).mono ?_); (case side1 => repeat (first | exact (Kd.R_reads' HO177.out).2.2 | (with_reducible refine Kd.C_alloc ?_ _) | (with_reducible refine Kd.C_drewN ?_ _) | (with_reducible refine Kd.C_drew ?_))); (case side2 => exact (Kd.R_reads' HO177.out).2.1); rintro e w' ⟨rfl, ⟨nd, rfl⟩⟩; refine ⟨_, rfl, ?_⟩))
        go_ret
        exact ⟨by first | rfl | (simp [errW_none, errW_some] <;> rfl) | (simp [*, errW_none, errW_some] <;> rfl), by repeat (first | (with_reducible first | exact HB.out | apply below_alloc | apply pw_below_drewN | apply below_drew1) | exact HB.out)⟩
    · replace c4 := Bool.eq_false_iff.mpr c4
      subst c4
      have H1 : (some false) = some r := by rw [if_neg (show ¬ (false = true) by decide)] at H; exact H
      clear H
      have H := H1
      clear H1
      obtain rfl := Option.some.inj H
      go_enter Try.func4, Try.ntmps4
      go_wp2_with (first | ((with_reducible refine gate_callee (f := 13) rfl ?_); refine goesL_ (some 7) rfl rfl Try.func13 (by kernel_rfl) rfl #[] rfl (by (try simp only [List.map_toArray, List.map_cons, List.map_nil]); first | done | rfl | (simp only [List.length_drop, List.length_take]; rfl)) ?_; (with_reducible refine (laws_cleans.calls  false _ A3.out).mono ?_); rintro e w30 ⟨rfl, hb⟩; refine ⟨_, rfl, ?_⟩; have n0_ := Aside0.mk (below_step (by repeat (first | (with_reducible first | exact HB.out | apply below_alloc | apply pw_below_drewN | apply below_drew1) | exact HB.out)) hb); clear HB; have HB := n0_; clear n0_; (try clear hb); (try clear hb2); (try clear hk); (try clear hi)))
      go_ret
      exact ⟨by first | rfl | (simp [errW_none, errW_some] <;> rfl) | (simp [*, errW_none, errW_some] <;> rfl), by repeat (first | (with_reducible first | exact HB.out | apply below_alloc | apply pw_below_drewN | apply below_drew1) | exact HB.out)⟩

/-- THE ONE PURE STATEMENT of laws_FnPathClean: yours. -/
def laws_FnPathClean.Pure : Prop := ∀ (a0 : ByteArray), a0.size ≤ 140737488351232 → ∃ k, laws_FnPathClean.f k a0 = some true
theorem laws_FnPathClean.walk (P : laws_FnPathClean.Pure) (a0 : ByteArray) (w : World) (w0 : a0.size ≤ 140737488351232) :
    Calls Try.prog 4 #[.string a0] w fun e w' => e = .returned (.bool true) ∧ Below w.heap.size w w' := by
  obtain ⟨k, h⟩ := P a0 w0
  refine (laws_FnPathClean.calls k a0 true w h).mono ?_
  rintro e w' ⟨rfl, hd⟩
  exact ⟨rfl, hd⟩

end Go.Proofs.Ytjklempjljikpaa.Q

-- Written by a program of this session out of the translation, with the kit's printer. Not trusted: Lean checks it.
namespace Go.Proofs.Ytjklempjljikpaa.Q
open Go.RowKit Go.Proofs.YtjklempjljikpaaW.PrintWords Go.Proofs.YtjklempjljikpaaW.PrintLast Go.Proofs.YtjklempjljikpaaW.PrintMore
attribute [local go_sem] max2_int min2_int max_two min_two max_three min_three max_four min_four   -- for this text's walks alone
set_option linter.unusedVariables false
set_option linter.unusedSimpArgs false

/-! ### laws_zzFits1: function 20 -/
def laws_zzFits1.l0 : Nat → List ByteArray → Int → Int → Option (Bool)
  | 0, _, _, _ => none
  | k + 1, x8, x9, x10 => if x10 < x9 then (if 0 ≤ x10 then (if x10 < (x8.length : Int) then (if ((rdOf ByteArray.empty x8 x10).size : Int) > 2147483647 then (some false) else (laws_zzFits1.l0 k x8 x9 (wrap64 (x10 + 1)))) else (none)) else (none)) else (some true)
def laws_zzFits1.f (k : Nat) (l0 : List ByteArray) : Option (Bool) := if (l0.length : Int) > 2147483647 then (some false) else (laws_zzFits1.l0 k l0 (l0.length : Int) 0)
theorem laws_zzFits1.mono_l : ∀ k, (∀ y0 y1 y2, LeO (laws_zzFits1.l0 k y0 y1 y2) (laws_zzFits1.l0 (k + 1) y0 y1 y2))
  | 0 => fun _ _ _ r h => by simp [laws_zzFits1.l0] at h
  | k + 1 => by
    have ih0 := laws_zzFits1.mono_l k
    · intro y0 y1 y2
      unfold laws_zzFits1.l0
      repeat' first
      | (with_reducible exact ih0 _ _ _)
      | (with_reducible exact LeO.refl _)
      | (with_reducible exact LeO.none _)
      | (with_reducible refine LeO.ite ?_ ?_)
      | (with_reducible refine LeO.bind ?_ (fun _ => ?_))
      | exact ih0 _ _ _
      | exact LeO.none _
      | refine LeO.ite ?_ ?_
      | refine LeO.bind ?_ (fun _ => ?_)
theorem laws_zzFits1.mono : ∀ a0 k, LeO (laws_zzFits1.f k a0) (laws_zzFits1.f (k + 1) a0) := by
  intro a0 k
  have ih0 := laws_zzFits1.mono_l k
  unfold laws_zzFits1.f
  repeat' first
      | (with_reducible exact ih0 _ _ _)
      | (with_reducible exact LeO.refl _)
      | (with_reducible exact LeO.none _)
      | (with_reducible refine LeO.ite ?_ ?_)
      | (with_reducible refine LeO.bind ?_ (fun _ => ?_))
      | exact ih0 _ _ _
      | exact LeO.none _
      | refine LeO.ite ?_ ?_
      | refine LeO.bind ?_ (fun _ => ?_)
set_option maxHeartbeats 8000000 in
set_option maxRecDepth 100000 in
theorem laws_zzFits1.calls (k : Nat) (A0 : Option Addr) (c0 : Nat) (l0 : List ByteArray) (r : Bool) (w : World) (hr0 : Kd.C Kd.string w A0 l0.length l0) (hc0 : l0.length ≤ c0) (h : laws_zzFits1.f k l0 = some r) :
    Calls Try.prog 20 #[.slice A0 l0.length c0] w fun e w' => e = .returned (.bool r) ∧ Drawn0 w w' := by
  have HR0 := Aside0.mk hr0
  have HC0 := Aside0.mk hc0
  clear hr0 hc0
  have H : (if (l0.length : Int) > 2147483647 then (some false) else (laws_zzFits1.l0 k l0 (l0.length : Int) 0)) = some r := h
  clear h
  by_cases c2 : (l0.length : Int) > 2147483647
  · rw [if_pos c2] at H
    have c2b0 : decide (2147483647 < (l0.length : Int)) = true := decide_eq_true c2
    have c2b1 : decide (2147483647 < l0.length) = true := decide_eq_true (by omega)
    clear c2
    obtain rfl := Option.some.inj H
    go_enter Try.func20, Try.ntmps20
    go_wp2
    go_ret
    exact ⟨by first | rfl | (simp; done) | (simp [*]; done) | (simp [Go.Proofs.YtjklempjljikpaaX.isEmpty_ne]; done), by repeat (first | exact Drawn0.refl _ | apply Drawn0.step)⟩
  · rw [if_neg c2] at H
    have c2b0 : decide (2147483647 < (l0.length : Int)) = false := decide_eq_false c2
    have c2b1 : decide (2147483647 < l0.length) = false := decide_eq_false (by omega)
    clear c2
    have H' := Aside0.mk H
    clear H
    go_enter Try.func20, Try.ntmps20
    go_wp2
    go_loopg [10] k (fun kq v10 w' => ∃ (x10_1 : Int), v10 = .int .i64 x10_1 ∧ Aside0 (laws_zzFits1.l0 kq l0 (l0.length : Int) x10_1 = some r) ∧ Aside0 (kq ≤ k) ∧ Drawn0 w w')
    case atStart => exact ⟨(0), (by first | rfl | (simp; done) | (simp [*]; done) | (simp [Go.Proofs.YtjklempjljikpaaX.isEmpty_ne]; done)), H', ⟨Nat.le_refl _⟩, by repeat (first | exact Drawn0.refl _ | apply Drawn0.step)⟩
    case round =>
      clear H'
      try clear c2
      try clear c2b0
      try clear c2b1
      try clear p2
      obtain ⟨x10_1, rfl, HA, HK1, ⟨m1, rfl⟩⟩ := hrel
      cases gk with
      | zero => exact absurd HA.out (by simp [laws_zzFits1.l0])
      | succ k1 =>
        have H := HA.out
        clear HA
        simp only [laws_zzFits1.l0] at H
        by_cases c3 : x10_1 < (l0.length : Int)
        · rw [if_pos c3] at H
          have c3b0 : decide (x10_1 < (l0.length : Int)) = true := decide_eq_true c3
          clear c3
          by_cases c4 : 0 ≤ x10_1
          · rw [if_pos c4] at H
            have c4b0 : decide (0 ≤ x10_1) = true := decide_eq_true c4
            clear c4
            by_cases c5 : x10_1 < (l0.length : Int)
            · rw [if_pos c5] at H
              have c5b0 : decide (x10_1 < (l0.length : Int)) = true := decide_eq_true c5
              clear c5
              by_cases c6 : ((rdOf ByteArray.empty l0 x10_1).size : Int) > 2147483647
              · rw [if_pos c6] at H
                have c6b0 : decide (2147483647 < ((rdOf ByteArray.empty l0 x10_1).size : Int)) = true := decide_eq_true c6
                have c6b1 : decide (2147483647 < (rdOf ByteArray.empty l0 x10_1).size) = true := decide_eq_true (by omega)
                clear c6
                obtain rfl := Option.some.inj H
                have p186 : 0 ≤ (x10_1 : Int) := of_decide_eq_true (by first | (with_reducible assumption) | assumption)
                have q186 : x10_1 < (l0.length : Int) := of_decide_eq_true (by first | (with_reducible assumption) | assumption)
                obtain ⟨ad186, e186, hx186_0⟩ := Kd.at_string HR0.out x10_1 p186 q186
                cases e186
                replace p186 := eq_true p186
                replace q186 := eq_true q186
                go_wp2
                go_ret
                exact ⟨by first | rfl | (simp; done) | (simp [*]; done) | (simp [Go.Proofs.YtjklempjljikpaaX.isEmpty_ne]; done), by repeat (first | exact Drawn0.refl _ | apply Drawn0.step)⟩
              · rw [if_neg c6] at H
                have c6b0 : decide (2147483647 < ((rdOf ByteArray.empty l0 x10_1).size : Int)) = false := decide_eq_false c6
                have c6b1 : decide (2147483647 < (rdOf ByteArray.empty l0 x10_1).size) = false := decide_eq_false (by omega)
                clear c6
                have H' := Aside0.mk H
                clear H
                have p186 : 0 ≤ (x10_1 : Int) := of_decide_eq_true (by first | (with_reducible assumption) | assumption)
                have q186 : x10_1 < (l0.length : Int) := of_decide_eq_true (by first | (with_reducible assumption) | assumption)
                obtain ⟨ad186, e186, hx186_0⟩ := Kd.at_string HR0.out x10_1 p186 q186
                cases e186
                replace p186 := eq_true p186
                replace q186 := eq_true q186
                go_wp2
                go_roundg k1
                case measure => have := HK1.out; omega
                case rel => exact ⟨(wrap64 (x10_1 + 1)), (by first | rfl | (simp; done) | (simp [*]; done) | (simp [Go.Proofs.YtjklempjljikpaaX.isEmpty_ne]; done)), H', ⟨by have := HK1.out; omega⟩, by repeat (first | exact Drawn0.refl _ | apply Drawn0.step)⟩
            · rw [if_neg c5] at H
              exact absurd H (by simp)
          · rw [if_neg c4] at H
            exact absurd H (by simp)
        · rw [if_neg c3] at H
          have c3b0 : decide (x10_1 < (l0.length : Int)) = false := decide_eq_false c3
          clear c3
          obtain rfl := Option.some.inj H
          go_wp2
          go_ret
          exact ⟨by first | rfl | (simp; done) | (simp [*]; done) | (simp [Go.Proofs.YtjklempjljikpaaX.isEmpty_ne]; done), by repeat (first | exact Drawn0.refl _ | apply Drawn0.step)⟩

end Go.Proofs.Ytjklempjljikpaa.Q
