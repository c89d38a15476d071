-- Written by a program of this session out of the translation, with the kit's printer. Not trusted: Lean checks it.
import Derived.Test.YtjmcndbkmknemaaQ0
import Derived.Test.YtjmcndbkmknemaaQ8
import Derived.Test.YtjmcndbkmknemaaQ9
import Derived.Test.YtjmcndbkmknemaaQ10
namespace Go.Proofs.Ytjmcndbkmknemaa.Q
open Go.RowKit Go.Proofs.YtjmcndbkmknemaaW.PrintWords Go.Proofs.YtjmcndbkmknemaaW.PrintLast Go.Proofs.YtjmcndbkmknemaaW.PrintMore
attribute [local go_sem] max2_int min2_int max_two min_two max_three min_three max_four min_four   -- for this text's walks alone
set_option linter.unusedVariables false
set_option linter.unusedSimpArgs false

/-! ### laws_FnParamTrimmed: function 6 -/
def laws_FnParamTrimmed.j0 : Nat → ByteArray → Bool → Option (Bool)
  | 0, _, _ => none
  | k + 1, x0, x16 => if x16 = true then (some true) else (if 1 + x0.size ≤ 9223372036854775807 then ((impl_Trimmed.f k ((⟨#[58]⟩ : ByteArray) ++ x0)).bind fun t161 => (if t161.toList = x0.toList then (if 1 + x0.size + 1 ≤ 9223372036854775807 then ((impl_Trimmed.f k (((⟨#[58]⟩ : ByteArray) ++ x0) ++ (⟨#[63]⟩ : ByteArray))).bind fun t162 => (some (t162.toList == x0.toList))) else (none)) else (some false))) else (none))
def laws_FnParamTrimmed.f (k : Nat) (a0 : ByteArray) : Option (Bool) := if (a0.size : Int) > 2147483647 then (some true) else ((impl_Trimmed.f k (⟨#[58, 97, 63]⟩ : ByteArray)).bind fun t155 => (if t155.toList = ([97] : List UInt8) then ((laws_word.f k a0).bind fun t156 => (if t156 = true then ((laws_short.f k (([a0] : List ByteArray))).bind fun t160 => (laws_FnParamTrimmed.j0 k a0 (!t160))) else (laws_FnParamTrimmed.j0 k a0 true))) else (some false)))
theorem laws_FnParamTrimmed.mono_l : ∀ k, (∀ y0 y1, LeO (laws_FnParamTrimmed.j0 k y0 y1) (laws_FnParamTrimmed.j0 (k + 1) y0 y1))
  | 0 => fun _ _ r h => by simp [laws_FnParamTrimmed.j0] at h
  | k + 1 => by
    have ih0 := laws_FnParamTrimmed.mono_l k
    · intro y0 y1
      unfold laws_FnParamTrimmed.j0
      repeat' first
      | (with_reducible exact ih0 _ _)
      | (with_reducible exact impl_Trimmed.mono _ _)
      | (with_reducible exact laws_short.mono _ _)
      | (with_reducible exact laws_word.mono _ _)
      | (with_reducible exact LeO.refl _)
      | (with_reducible exact LeO.none _)
      | (with_reducible refine LeO.ite ?_ ?_)
      | (with_reducible refine LeO.bind ?_ (fun _ => ?_))
      | exact ih0 _ _
      | exact impl_Trimmed.mono _ _
      | exact laws_short.mono _ _
      | exact laws_word.mono _ _
      | exact LeO.none _
      | refine LeO.ite ?_ ?_
      | refine LeO.bind ?_ (fun _ => ?_)
theorem laws_FnParamTrimmed.mono : ∀ a0 k, LeO (laws_FnParamTrimmed.f k a0) (laws_FnParamTrimmed.f (k + 1) a0) := by
  intro a0 k
  have ih0 := laws_FnParamTrimmed.mono_l k
  unfold laws_FnParamTrimmed.f
  repeat' first
      | (with_reducible exact ih0 _ _)
      | (with_reducible exact impl_Trimmed.mono _ _)
      | (with_reducible exact laws_short.mono _ _)
      | (with_reducible exact laws_word.mono _ _)
      | (with_reducible exact LeO.refl _)
      | (with_reducible exact LeO.none _)
      | (with_reducible refine LeO.ite ?_ ?_)
      | (with_reducible refine LeO.bind ?_ (fun _ => ?_))
      | exact ih0 _ _
      | exact impl_Trimmed.mono _ _
      | exact laws_short.mono _ _
      | exact laws_word.mono _ _
      | exact LeO.none _
      | refine LeO.ite ?_ ?_
      | refine LeO.bind ?_ (fun _ => ?_)
set_option maxHeartbeats 8000000 in
set_option maxRecDepth 100000 in
theorem laws_FnParamTrimmed.calls (k : Nat) (a0 : ByteArray) (r : Bool) (w : World) (h : laws_FnParamTrimmed.f k a0 = some r) :
    Calls Try.prog 6 #[.string a0] w fun e w' => e = .returned (.bool r) ∧ Below w.heap.size w w' := by
  have HB := Aside0.mk (Below.refl w.heap.size w)
  have H : (if (a0.size : Int) > 2147483647 then (some true) else ((impl_Trimmed.f k (⟨#[58, 97, 63]⟩ : ByteArray)).bind fun t155 => (if t155.toList = ([97] : List UInt8) then ((laws_word.f k a0).bind fun t156 => (if t156 = true then ((laws_short.f k (([a0] : List ByteArray))).bind fun t160 => (laws_FnParamTrimmed.j0 k a0 (!t160))) else (laws_FnParamTrimmed.j0 k a0 true))) else (some false)))) = some r := h
  clear h
  by_cases c2 : (a0.size : Int) > 2147483647
  · rw [if_pos c2] at H
    have c2b0 : decide (2147483647 < (a0.size : Int)) = true := decide_eq_true c2
    have c2b1 : decide (2147483647 < a0.size) = true := decide_eq_true (by omega)
    clear c2
    obtain rfl := Option.some.inj H
    go_enter Try.func6, Try.ntmps6
    go_wp2
    go_ret
    exact ⟨by first | rfl | (simp [errW_none, errW_some] <;> rfl) | (simp [*, errW_none, errW_some] <;> rfl), by repeat (first | (with_reducible first | exact HB.out | apply below_alloc | apply pw_below_drewN | apply below_drew1) | exact HB.out)⟩
  · rw [if_neg c2] at H
    have c2b0 : decide (2147483647 < (a0.size : Int)) = false := decide_eq_false c2
    have c2b1 : decide (2147483647 < a0.size) = false := decide_eq_false (by omega)
    clear c2
    replace H := Option.bind_eq_some_iff.mp H
    obtain ⟨t155, A30, H⟩ := H
    replace H : (if t155.toList = ([97] : List UInt8) then ((laws_word.f k a0).bind fun t156 => (if t156 = true then ((laws_short.f k (([a0] : List ByteArray))).bind fun t160 => (laws_FnParamTrimmed.j0 k a0 (!t160))) else (laws_FnParamTrimmed.j0 k a0 true))) else (some false)) = some r := H
    have A3 := Aside0.mk A30
    clear A30
    by_cases c4 : t155.toList = ([97] : List UInt8)
    · rw [if_pos c4] at H
      have c4b0 : (t155.toList == ([97] : List UInt8)) = true := beq_iff_eq.mpr c4
      have c4b1 : (t155.toList != ([97] : List UInt8)) = false := bne_eq_false_iff_eq.mpr c4
      clear c4
      have HC5 := Aside0.mk H
      clear H
      go_enter Try.func6, Try.ntmps6
      go_upto_region 5 with (first | ((with_reducible refine gate_callee (f := 21) rfl ?_); refine goesL_ (some 6) rfl rfl Try.func21 (by kernel_rfl) rfl #[.string (⟨#[58, 97, 63]⟩ : ByteArray)] rfl (by (try simp only [List.map_toArray, List.map_cons, List.map_nil]); first | done | rfl | (simp only [List.length_drop, List.length_take]; rfl)) ?_; (with_reducible refine (impl_Trimmed.calls k (⟨#[58, 97, 63]⟩ : ByteArray) t155 _ A3.out).mono ?_); rintro e w' ⟨rfl, ⟨nd, rfl⟩⟩; refine ⟨_, rfl, ?_⟩))
      (try simp only [Act.put, List.setIfInBounds_toArray, List.set_cons_zero, List.set_cons_succ])
      go_cut [16] (fun v16 wc => ∃ (kq : Nat) (x16_4 : Bool), v16 = .bool x16_4 ∧ Aside0 (laws_FnParamTrimmed.j0 kq a0 x16_4 = some r) ∧ Aside0 (kq ≤ k) ∧ Aside0 (Below w.heap.size w wc))
      case first =>
        have H := HC5.out
        clear HC5
        replace H := Option.bind_eq_some_iff.mp H
        obtain ⟨t156, A60, H⟩ := H
        replace H : (if t156 = true then ((laws_short.f k (([a0] : List ByteArray))).bind fun t160 => (laws_FnParamTrimmed.j0 k a0 (!t160))) else (laws_FnParamTrimmed.j0 k a0 true)) = some r := H
        have A6 := Aside0.mk A60
        clear A60
        by_cases c7 : t156 = true
        · subst c7
          have H1 : ((laws_short.f k (([a0] : List ByteArray))).bind fun t160 => (laws_FnParamTrimmed.j0 k a0 (!t160))) = some r := by rw [if_pos rfl] at H; exact H
          clear H
          have H := H1
          clear H1
          obtain ⟨y157, hy157⟩ : ∃ y_ : List ByteArray, y_ = (([a0] : List ByteArray)) := ⟨_, rfl⟩
          replace H : ((laws_short.f k y157).bind fun t160 => (laws_FnParamTrimmed.j0 k a0 (!t160))) = some r := by first | (rw [hy157]; with_reducible exact H) | (have H2_ := (Option.bind_some _ _).symm.trans H; rw [hy157]; with_reducible exact H2_) | (have H2_ := (Option.bind_some _ _).symm.trans H; with_reducible exact H2_) | with_reducible exact H | (rw [hy157]; exact H) | exact H
          have Ny157 := Aside0.mk hy157
          clear hy157
          replace H := Option.bind_eq_some_iff.mp H
          obtain ⟨t160, A80, H⟩ := H
          replace H : (laws_FnParamTrimmed.j0 k a0 (!t160)) = some r := H
          have A8 := Aside0.mk A80
          clear A80
          have H' := Aside0.mk H
          clear H
          go_wp2_with (first | ((with_reducible refine gate_callee (f := 22) rfl ?_); refine goesL_ (some 9) rfl rfl Try.func22 (by kernel_rfl) rfl #[.string a0] rfl (by (try simp only [List.map_toArray, List.map_cons, List.map_nil]); first | done | rfl | (simp only [List.length_drop, List.length_take]; rfl)) ?_; (with_reducible refine (laws_word.calls k a0 true _ A6.out).mono ?_); rintro e w' ⟨rfl, ⟨nd, rfl⟩⟩; refine ⟨_, rfl, ?_⟩) | ((with_reducible refine gate_dst (N := 13) rfl ?_); (try (refine gate_guard (by rfl) ?_; dsimp only)); refine Kd.R_lit Kd.string _ 9 ?hg (N := 13) ?hd (xs := ([a0] : List ByteArray)) (inner := [.string a0]) (ok := fun _ => True) (okp := fun _ => True) ?hr ?hp (fun _ hk => hk) trivial (Below.refl _ _) (Nat.le_refl _) (by simp) ?_; (case hd => rfl); (case hg => rfl); (case hr => first | (go_simp; done) | (go_simp; rfl)); (case hp => exact (Reps.one (show Kd.M Kd.string _ _ _ a0 [.string a0] from rfl) (Reps.none _ _))); intro v158 w9 ho10 hb hg_ hnew_; clear hg_ hnew_; (first | rw [← Ny157.out] at ho10 | (simp only [Int.reduceToNat] at ho10; rw [← Ny157.out] at ho10)); have n0_ := Aside0.mk (Kd.R_lower ho10 (below_size (by repeat (first | (with_reducible first | exact HB.out | apply below_alloc | apply pw_below_drewN | apply below_drew1) | exact HB.out)))); have n1_ := Aside0.mk (below_step (by repeat (first | (with_reducible first | exact HB.out | apply below_alloc | apply pw_below_drewN | apply below_drew1) | exact HB.out)) hb); clear HB; have HO159 := n0_; have HB := n1_; clear n0_ n1_; clear hb ho10; obtain ⟨Ao11, co11, eo11⟩ := Kd.R_slice HO159.out; subst eo11) | (go_at_call 23; (with_reducible refine (laws_short.calls k _ _ y157 t160 _ ?side1 ?side2 A8.out).mono ?_); (case side1 => repeat (first | exact (Kd.R_reads' HO159.out).2.2 | (with_reducible refine Kd.C_alloc ?_ _) | (with_reducible refine Kd.C_drewN ?_ _) | (with_reducible refine Kd.C_drew ?_))); (case side2 => exact (Kd.R_reads' HO159.out).2.1); rintro e w' ⟨rfl, ⟨nd, rfl⟩⟩))
          go_meet
          case rel => exact ⟨_, (!t160), (by first | rfl | (simp; done) | (simp [*]; done) | (simp [Go.Proofs.YtjmcndbkmknemaaX.isEmpty_ne]; done)), H', ⟨by first | omega | exact Nat.le_refl _⟩, ⟨by repeat (first | (with_reducible first | exact HB.out | apply below_alloc | apply pw_below_drewN | apply below_drew1) | exact HB.out)⟩⟩
        · replace c7 := Bool.eq_false_iff.mpr c7
          subst c7
          have H1 : (laws_FnParamTrimmed.j0 k a0 true) = some r := by rw [if_neg (show ¬ (false = true) by decide)] at H; exact H
          clear H
          have H := H1
          clear H1
          have H' := Aside0.mk H
          clear H
          go_wp2_with (first | ((with_reducible refine gate_callee (f := 22) rfl ?_); refine goesL_ (some 9) rfl rfl Try.func22 (by kernel_rfl) rfl #[.string a0] rfl (by (try simp only [List.map_toArray, List.map_cons, List.map_nil]); first | done | rfl | (simp only [List.length_drop, List.length_take]; rfl)) ?_; (with_reducible refine (laws_word.calls k a0 false _ A6.out).mono ?_); rintro e w' ⟨rfl, ⟨nd, rfl⟩⟩; refine ⟨_, rfl, ?_⟩))
          go_meet
          case rel => exact ⟨_, (true), (by first | rfl | (simp; done) | (simp [*]; done) | (simp [Go.Proofs.YtjmcndbkmknemaaX.isEmpty_ne]; done)), H', ⟨by first | omega | exact Nat.le_refl _⟩, ⟨by repeat (first | (with_reducible first | exact HB.out | apply below_alloc | apply pw_below_drewN | apply below_drew1) | exact HB.out)⟩⟩
      case rest =>
        clear HC5
        try clear c2
        try clear c2b0
        try clear c2b1
        try clear p2
        try clear c4
        try clear c4b0
        try clear c4b1
        try clear c6
        try clear c7
        obtain ⟨kq, x16_4, rfl, HA, HJ4, HB⟩ := hcut
        cases kq with
        | zero => exact absurd HA.out (by simp [laws_FnParamTrimmed.j0])
        | succ kj4 =>
          have H := HA.out
          clear HA
          simp only [laws_FnParamTrimmed.j0] at H
          by_cases c12 : x16_4 = true
          · subst c12
            have H1 : (some true) = some r := by rw [if_pos rfl] at H; exact H
            clear H
            have H := H1
            clear H1
            obtain rfl := Option.some.inj H
            go_wp2
            go_ret
            exact ⟨by first | rfl | (simp [errW_none, errW_some] <;> rfl) | (simp [*, errW_none, errW_some] <;> rfl), by repeat (first | (with_reducible first | exact HB.out | apply below_alloc | apply pw_below_drewN | apply below_drew1) | exact HB.out)⟩
          · replace c12 := Bool.eq_false_iff.mpr c12
            subst c12
            have H1 : (if 1 + a0.size ≤ 9223372036854775807 then ((impl_Trimmed.f kj4 ((⟨#[58]⟩ : ByteArray) ++ a0)).bind fun t161 => (if t161.toList = a0.toList then (if 1 + a0.size + 1 ≤ 9223372036854775807 then ((impl_Trimmed.f kj4 (((⟨#[58]⟩ : ByteArray) ++ a0) ++ (⟨#[63]⟩ : ByteArray))).bind fun t162 => (some (t162.toList == a0.toList))) else (none)) else (some false))) else (none)) = some r := by rw [if_neg (show ¬ (false = true) by decide)] at H; exact H
            clear H
            have H := H1
            clear H1
            by_cases c13 : 1 + a0.size ≤ 9223372036854775807
            · rw [if_pos c13] at H
              have c13b0 := eq_true c13
              have c13b1 : decide (1 + a0.size ≤ 9223372036854775807) = true := decide_eq_true c13
              try have c13b2 : (9223372036854775807 < 1 + a0.size) = False := eq_false (Nat.not_lt.2 c13)
              replace H := Option.bind_eq_some_iff.mp H
              obtain ⟨t161, A140, H⟩ := H
              replace H : (if t161.toList = a0.toList then (if 1 + a0.size + 1 ≤ 9223372036854775807 then ((impl_Trimmed.f kj4 (((⟨#[58]⟩ : ByteArray) ++ a0) ++ (⟨#[63]⟩ : ByteArray))).bind fun t162 => (some (t162.toList == a0.toList))) else (none)) else (some false)) = some r := H
              have A14 := Aside0.mk A140
              clear A140
              by_cases c15 : t161.toList = a0.toList
              · rw [if_pos c15] at H
                have c15b0 : (t161.toList == a0.toList) = true := beq_iff_eq.mpr c15
                have c15b1 : (t161.toList != a0.toList) = false := bne_eq_false_iff_eq.mpr c15
                clear c15
                by_cases c16 : 1 + a0.size + 1 ≤ 9223372036854775807
                · rw [if_pos c16] at H
                  have c16b0 := eq_true c16
                  have c16b1 : decide (1 + a0.size + 1 ≤ 9223372036854775807) = true := decide_eq_true c16
                  try have c16b2 : (9223372036854775807 < 1 + a0.size + 1) = False := eq_false (Nat.not_lt.2 c16)
                  replace H := Option.bind_eq_some_iff.mp H
                  obtain ⟨t162, A170, H⟩ := H
                  replace H : (some (t162.toList == a0.toList)) = some r := H
                  have A17 := Aside0.mk A170
                  clear A170
                  obtain rfl := Option.some.inj H
                  go_wp2_with (first | ((with_reducible refine gate_callee (f := 21) rfl ?_); refine goesL_ (some 19) rfl rfl Try.func21 (by kernel_rfl) rfl #[.string ((⟨#[58]⟩ : ByteArray) ++ a0)] rfl (by (try simp only [List.map_toArray, List.map_cons, List.map_nil]); first | done | rfl | (simp only [List.length_drop, List.length_take]; rfl)) ?_; (with_reducible refine (impl_Trimmed.calls kj4 ((⟨#[58]⟩ : ByteArray) ++ a0) t161 _ A14.out).mono ?_); rintro e w' ⟨rfl, ⟨nd, rfl⟩⟩; refine ⟨_, rfl, ?_⟩) | (go_at_call 21; (with_reducible refine (impl_Trimmed.calls kj4 (((⟨#[58]⟩ : ByteArray) ++ a0) ++ (⟨#[63]⟩ : ByteArray)) t162 _ A17.out).mono ?_); rintro e w' ⟨rfl, ⟨nd, rfl⟩⟩))
                  any_goals (try (exfalso; have zc13b1 := of_decide_eq_true c13b1; have zc16b1 := of_decide_eq_true c16b1; omega))
                  go_ret
                  exact ⟨by first | rfl | (simp [errW_none, errW_some] <;> rfl) | (simp [*, errW_none, errW_some] <;> rfl), by repeat (first | (with_reducible first | exact HB.out | apply below_alloc | apply pw_below_drewN | apply below_drew1) | exact HB.out)⟩
                · rw [if_neg c16] at H
                  exact absurd H (by simp)
              · rw [if_neg c15] at H
                have c15b0 : (t161.toList == a0.toList) = false := beq_eq_false_iff_ne.mpr c15
                have c15b1 : (t161.toList != a0.toList) = true := bne_iff_ne.mpr c15
                obtain rfl := Option.some.inj H
                go_wp2_with (first | ((with_reducible refine gate_callee (f := 21) rfl ?_); refine goesL_ (some 19) rfl rfl Try.func21 (by kernel_rfl) rfl #[.string ((⟨#[58]⟩ : ByteArray) ++ a0)] rfl (by (try simp only [List.map_toArray, List.map_cons, List.map_nil]); first | done | rfl | (simp only [List.length_drop, List.length_take]; rfl)) ?_; (with_reducible refine (impl_Trimmed.calls kj4 ((⟨#[58]⟩ : ByteArray) ++ a0) t161 _ A14.out).mono ?_); rintro e w' ⟨rfl, ⟨nd, rfl⟩⟩; refine ⟨_, rfl, ?_⟩))
                any_goals (try (exfalso; have zc13b1 := of_decide_eq_true c13b1; omega))
                go_ret
                exact ⟨by first | rfl | (simp [errW_none, errW_some] <;> rfl) | (simp [*, errW_none, errW_some] <;> rfl), by repeat (first | (with_reducible first | exact HB.out | apply below_alloc | apply pw_below_drewN | apply below_drew1) | exact HB.out)⟩
            · rw [if_neg c13] at H
              exact absurd H (by simp)
    · rw [if_neg c4] at H
      have c4b0 : (t155.toList == ([97] : List UInt8)) = false := beq_eq_false_iff_ne.mpr c4
      have c4b1 : (t155.toList != ([97] : List UInt8)) = true := bne_iff_ne.mpr c4
      obtain rfl := Option.some.inj H
      go_enter Try.func6, Try.ntmps6
      go_wp2_with (first | ((with_reducible refine gate_callee (f := 21) rfl ?_); refine goesL_ (some 6) rfl rfl Try.func21 (by kernel_rfl) rfl #[.string (⟨#[58, 97, 63]⟩ : ByteArray)] rfl (by (try simp only [List.map_toArray, List.map_cons, List.map_nil]); first | done | rfl | (simp only [List.length_drop, List.length_take]; rfl)) ?_; (with_reducible refine (impl_Trimmed.calls k (⟨#[58, 97, 63]⟩ : ByteArray) t155 _ A3.out).mono ?_); rintro e w' ⟨rfl, ⟨nd, rfl⟩⟩; refine ⟨_, rfl, ?_⟩))
      go_ret
      exact ⟨by first | rfl | (simp [errW_none, errW_some] <;> rfl) | (simp [*, errW_none, errW_some] <;> rfl), by repeat (first | (with_reducible first | exact HB.out | apply below_alloc | apply pw_below_drewN | apply below_drew1) | exact HB.out)⟩

/-- THE ONE PURE STATEMENT of laws_FnParamTrimmed: yours. -/
def laws_FnParamTrimmed.Pure : Prop := ∀ (a0 : ByteArray), a0.size ≤ 140737488351232 → ∃ k, laws_FnParamTrimmed.f k a0 = some true
theorem laws_FnParamTrimmed.walk (P : laws_FnParamTrimmed.Pure) (a0 : ByteArray) (w : World) (w0 : a0.size ≤ 140737488351232) :
    Calls Try.prog 6 #[.string a0] w fun e w' => e = .returned (.bool true) ∧ Below w.heap.size w w' := by
  obtain ⟨k, h⟩ := P a0 w0
  refine (laws_FnParamTrimmed.calls k a0 true w h).mono ?_
  rintro e w' ⟨rfl, hd⟩
  exact ⟨rfl, hd⟩

-- NOT PRINTED: function 69 (bytealg_IndexByteString)

/-! ### stringslite_IndexByte: function 68 -/
def stringslite_IndexByte.f (a0 : ByteArray) (a1 : Int) : Option (Int) := some (Lib.indexByte a0.data.toList a1.toNat.toUInt8)
set_option maxHeartbeats 8000000 in
set_option maxRecDepth 100000 in
theorem stringslite_IndexByte.calls (a0 : ByteArray) (a1 : Int) (r : Int) (w : World) (h : stringslite_IndexByte.f a0 a1 = some r) :
    Calls Try.prog 68 #[.string a0, .int .u8 a1] w fun e w' => e = .returned (.int .i64 r) ∧ Drawn0 w w' := by
  obtain rfl := Option.some.inj h
  go_enter Try.func68, Try.ntmps68
  go_wp2
  rw [run_callFunc_extern Try.func69 (by kernel_rfl) (by kernel_rfl) (by kernel_rfl) (e := Extern.BytealgIndexByte.indexByte) (by kernel_rfl), Lib.run_indexByteString]
  simp only [Result.andThen]
  rw [Oper.upon_value]
  go_wp2
  go_ret
  exact ⟨rfl, Drawn0.refl _⟩

/-! ### strings_IndexByte: function 60 -/
def strings_IndexByte.f (a0 : ByteArray) (a1 : Int) : Option (Int) := (stringslite_IndexByte.f a0 a1).bind fun t163 => (some t163)
set_option maxHeartbeats 8000000 in
set_option maxRecDepth 100000 in
theorem strings_IndexByte.calls (a0 : ByteArray) (a1 : Int) (r : Int) (w : World) (h : strings_IndexByte.f a0 a1 = some r) :
    Calls Try.prog 60 #[.string a0, .int .u8 a1] w fun e w' => e = .returned (.int .i64 r) ∧ Drawn0 w w' := by
  have H : ((stringslite_IndexByte.f a0 a1).bind fun t163 => (some t163)) = some r := h
  clear h
  replace H := Option.bind_eq_some_iff.mp H
  obtain ⟨t163, A30, H⟩ := H
  replace H : (some t163) = some r := H
  have A3 := Aside0.mk A30
  clear A30
  obtain rfl := Option.some.inj H
  go_enter Try.func60, Try.ntmps60
  go_wp2_with (first | ((with_reducible refine gate_callee (f := 68) rfl ?_); refine goesL_ (some 7) rfl rfl Try.func68 (by kernel_rfl) rfl #[.string a0, .int .u8 a1] rfl (by (try simp only [List.map_toArray, List.map_cons, List.map_nil]); first | done | rfl | (simp only [List.length_drop, List.length_take]; rfl)) ?_; (with_reducible refine (stringslite_IndexByte.calls a0 a1 t163 _ A3.out).mono ?_); rintro e w' ⟨rfl, ⟨nd, rfl⟩⟩; refine ⟨_, rfl, ?_⟩))
  go_ret
  exact ⟨by first | rfl | (simp; done) | (simp [*]; done) | (simp [Go.Proofs.YtjmcndbkmknemaaX.isEmpty_ne]; done), by repeat (first | exact Drawn0.refl _ | apply Drawn0.step)⟩

end Go.Proofs.Ytjmcndbkmknemaa.Q
