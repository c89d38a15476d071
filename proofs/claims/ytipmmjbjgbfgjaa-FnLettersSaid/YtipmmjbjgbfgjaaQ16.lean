-- Written by a program of this session out of the translation, with the kit's printer. Not trusted: Lean checks it.
import Derived.Test.YtipmmjbjgbfgjaaQ0
import Derived.Test.YtipmmjbjgbfgjaaQ3
import Derived.Test.YtipmmjbjgbfgjaaQ7
import Derived.Test.YtipmmjbjgbfgjaaQ9
import Derived.Test.YtipmmjbjgbfgjaaQ11
import Derived.Test.YtipmmjbjgbfgjaaQ13
import Derived.Test.YtipmmjbjgbfgjaaQ15
namespace Go.Proofs.Ytipmmjbjgbfgjaa.Q
open Go.RowKit Go.Proofs.YtipmmjbjgbfgjaaW.PrintWords Go.Proofs.YtipmmjbjgbfgjaaW.PrintLast Go.Proofs.YtipmmjbjgbfgjaaW.PrintMore
attribute [local go_sem] max2_int min2_int max_two min_two max_three min_three max_four min_four   -- for this text's walks alone
set_option linter.unusedVariables false
set_option linter.unusedSimpArgs false

/-! ### laws_FnLetters: function 4 -/
mutual
def laws_FnLetters.j0 : Nat → ByteArray → ByteArray → Bool → Option (Bool)
  | 0, _, _, _ => none
  | k + 1, x0, x1, x14 => if x14 = true then (some true) else ((laws_lowers.f k).bind fun t163 => (if t163 = true then ((laws_short.f k (([x0, x1] : List ByteArray))).bind fun t167 => (if t167 = true then ((impl_Lower.f x0).bind fun t168 => ((impl_Upper.f x0).bind fun t169 => ((laws_low.f x0).bind fun t170 => (if t168.toList = t170.toList then ((impl_Upper.f t168).bind fun t171 => (if t171.toList = t169.toList then ((impl_Lower.f t169).bind fun t172 => (if t172.toList = t168.toList then ((impl_Fold.f k x0 x1).bind fun t173 => ((impl_Lower.f x1).bind fun t174 => (laws_FnLetters.j1 k x0 x1 t168 t169 (t173 != (t168.toList == t174.toList))))) else (laws_FnLetters.j1 k x0 x1 t168 t169 true))) else (laws_FnLetters.j1 k x0 x1 t168 t169 true))) else (laws_FnLetters.j1 k x0 x1 t168 t169 true))))) else (some true))) else (some false)))
def laws_FnLetters.j1 : Nat → ByteArray → ByteArray → ByteArray → ByteArray → Bool → Option (Bool)
  | 0, _, _, _, _, _ => none
  | k + 1, x0, x1, x5, x6, x51 => if x51 = true then (some false) else ((conv24.f x0).bind fun t175 => ((impl_LowerBytes.f k t175).bind fun t178 => (if (strOfNums t178).toList = x5.toList then ((conv24.f x0).bind fun t181 => ((impl_UpperBytes.f k t181).bind fun t184 => (if (strOfNums t184).toList = x6.toList then ((conv24.f x0).bind fun t187 => ((conv24.f x1).bind fun t190 => ((impl_FoldBytes.f k t187 t190).bind fun t193 => ((impl_Fold.f k x0 x1).bind fun t194 => (some (t193 == t194)))))) else (some false)))) else (some false))))
end
def laws_FnLetters.f (k : Nat) (a0 : ByteArray) (a1 : ByteArray) : Option (Bool) := if (a0.size : Int) > 2147483647 then (laws_FnLetters.j0 k a0 a1 true) else (laws_FnLetters.j0 k a0 a1 (decide ((a1.size : Int) > 2147483647)))
theorem laws_FnLetters.mono_l : ∀ k, (∀ y0 y1 y2, LeO (laws_FnLetters.j0 k y0 y1 y2) (laws_FnLetters.j0 (k + 1) y0 y1 y2)) ∧ (∀ y0 y1 y2 y3 y4, LeO (laws_FnLetters.j1 k y0 y1 y2 y3 y4) (laws_FnLetters.j1 (k + 1) y0 y1 y2 y3 y4))
  | 0 => ⟨fun _ _ _ r h => by simp [laws_FnLetters.j0] at h, fun _ _ _ _ _ r h => by simp [laws_FnLetters.j1] at h⟩
  | k + 1 => by
    obtain ⟨ih0, ih1⟩ := laws_FnLetters.mono_l k
    refine ⟨?_, ?_⟩
    · intro y0 y1 y2
      unfold laws_FnLetters.j0
      repeat' first
      | (with_reducible exact ih0 _ _ _)
      | (with_reducible exact ih1 _ _ _ _ _)
      | (with_reducible exact impl_Fold.mono _ _ _)
      | (with_reducible exact impl_FoldBytes.mono _ _ _)
      | (with_reducible exact impl_LowerBytes.mono _ _)
      | (with_reducible exact impl_UpperBytes.mono _ _)
      | (with_reducible exact laws_lowers.mono _)
      | (with_reducible exact laws_short.mono _ _)
      | (with_reducible exact LeO.refl _)
      | (with_reducible exact LeO.none _)
      | (with_reducible refine LeO.ite ?_ ?_)
      | (with_reducible refine LeO.bind ?_ (fun _ => ?_))
      | exact ih0 _ _ _
      | exact ih1 _ _ _ _ _
      | exact impl_Fold.mono _ _ _
      | exact impl_FoldBytes.mono _ _ _
      | exact impl_LowerBytes.mono _ _
      | exact impl_UpperBytes.mono _ _
      | exact laws_lowers.mono _
      | exact laws_short.mono _ _
      | exact LeO.none _
      | refine LeO.ite ?_ ?_
      | refine LeO.bind ?_ (fun _ => ?_)
    · intro y0 y1 y2 y3 y4
      unfold laws_FnLetters.j1
      repeat' first
      | (with_reducible exact ih0 _ _ _)
      | (with_reducible exact ih1 _ _ _ _ _)
      | (with_reducible exact impl_Fold.mono _ _ _)
      | (with_reducible exact impl_FoldBytes.mono _ _ _)
      | (with_reducible exact impl_LowerBytes.mono _ _)
      | (with_reducible exact impl_UpperBytes.mono _ _)
      | (with_reducible exact laws_lowers.mono _)
      | (with_reducible exact laws_short.mono _ _)
      | (with_reducible exact LeO.refl _)
      | (with_reducible exact LeO.none _)
      | (with_reducible refine LeO.ite ?_ ?_)
      | (with_reducible refine LeO.bind ?_ (fun _ => ?_))
      | exact ih0 _ _ _
      | exact ih1 _ _ _ _ _
      | exact impl_Fold.mono _ _ _
      | exact impl_FoldBytes.mono _ _ _
      | exact impl_LowerBytes.mono _ _
      | exact impl_UpperBytes.mono _ _
      | exact laws_lowers.mono _
      | exact laws_short.mono _ _
      | exact LeO.none _
      | refine LeO.ite ?_ ?_
      | refine LeO.bind ?_ (fun _ => ?_)
theorem laws_FnLetters.mono : ∀ a0 a1 k, LeO (laws_FnLetters.f k a0 a1) (laws_FnLetters.f (k + 1) a0 a1) := by
  intro a0 a1 k
  obtain ⟨ih0, ih1⟩ := laws_FnLetters.mono_l k
  unfold laws_FnLetters.f
  repeat' first
      | (with_reducible exact ih0 _ _ _)
      | (with_reducible exact ih1 _ _ _ _ _)
      | (with_reducible exact impl_Fold.mono _ _ _)
      | (with_reducible exact impl_FoldBytes.mono _ _ _)
      | (with_reducible exact impl_LowerBytes.mono _ _)
      | (with_reducible exact impl_UpperBytes.mono _ _)
      | (with_reducible exact laws_lowers.mono _)
      | (with_reducible exact laws_short.mono _ _)
      | (with_reducible exact LeO.refl _)
      | (with_reducible exact LeO.none _)
      | (with_reducible refine LeO.ite ?_ ?_)
      | (with_reducible refine LeO.bind ?_ (fun _ => ?_))
      | exact ih0 _ _ _
      | exact ih1 _ _ _ _ _
      | exact impl_Fold.mono _ _ _
      | exact impl_FoldBytes.mono _ _ _
      | exact impl_LowerBytes.mono _ _
      | exact impl_UpperBytes.mono _ _
      | exact laws_lowers.mono _
      | exact laws_short.mono _ _
      | exact LeO.none _
      | refine LeO.ite ?_ ?_
      | refine LeO.bind ?_ (fun _ => ?_)
set_option maxHeartbeats 8000000 in
set_option maxRecDepth 100000 in
theorem laws_FnLetters.calls (k : Nat) (a0 : ByteArray) (a1 : ByteArray) (r : Bool) (w : World) (h : laws_FnLetters.f k a0 a1 = some r) :
    Calls Try.prog 4 #[.string a0, .string a1] w fun e w' => e = .returned (.bool r) ∧ Below w.heap.size w w' := by
  have HB := Aside0.mk (Below.refl w.heap.size w)
  have H : (if (a0.size : Int) > 2147483647 then (laws_FnLetters.j0 k a0 a1 true) else (laws_FnLetters.j0 k a0 a1 (decide ((a1.size : Int) > 2147483647)))) = some r := h
  clear h
  have HC3 := Aside0.mk H
  clear H
  go_enter Try.func4, Try.ntmps4
  go_upto_region 1 with (fail)
  go_cut [14] (fun v14 wc => ∃ (kq : Nat) (x14_2 : Bool), v14 = .bool x14_2 ∧ Aside0 (laws_FnLetters.j0 kq a0 a1 x14_2 = some r) ∧ Aside0 (kq ≤ k) ∧ Aside0 (Below w.heap.size w wc))
  case first =>
    have H := HC3.out
    clear HC3
    by_cases c4 : (a0.size : Int) > 2147483647
    · rw [if_pos c4] at H
      have c4b0 : decide (2147483647 < (a0.size : Int)) = true := decide_eq_true c4
      have c4b1 : decide (2147483647 < a0.size) = true := decide_eq_true (by omega)
      clear c4
      (first | rw [c4b0] | (simp only [i64_w, i32_w]; rw [c4b0]) | skip)
      have H' := Aside0.mk H
      clear H
      go_wp2
      go_meet
      case rel => exact ⟨_, (true), (by first | rfl | (simp; done) | (simp [*]; done) | (simp [Go.Proofs.YtipmmjbjgbfgjaaX.isEmpty_ne]; done)), H', ⟨by first | omega | exact Nat.le_refl _⟩, ⟨by repeat (first | (with_reducible first | exact HB.out | apply below_alloc | apply pw_below_drewN | apply below_drew1) | exact HB.out)⟩⟩
    · rw [if_neg c4] at H
      have c4b0 : decide (2147483647 < (a0.size : Int)) = false := decide_eq_false c4
      have c4b1 : decide (2147483647 < a0.size) = false := decide_eq_false (by omega)
      clear c4
      (first | rw [c4b0] | (simp only [i64_w, i32_w]; rw [c4b0]) | skip)
      have H' := Aside0.mk H
      clear H
      go_wp2
      go_meet
      case rel => exact ⟨_, (decide ((a1.size : Int) > 2147483647)), (by first | rfl | (simp; done) | (simp [*]; done) | (simp [Go.Proofs.YtipmmjbjgbfgjaaX.isEmpty_ne]; done)), H', ⟨by first | omega | exact Nat.le_refl _⟩, ⟨by repeat (first | (with_reducible first | exact HB.out | apply below_alloc | apply pw_below_drewN | apply below_drew1) | exact HB.out)⟩⟩
  case rest =>
    clear HC3
    try clear p2
    try clear c4
    try clear c4b0
    try clear c4b1
    obtain ⟨kq, x14_2, rfl, HA, HJ2, HB⟩ := hcut
    cases kq with
    | zero => exact absurd HA.out (by simp [laws_FnLetters.j0])
    | succ kj2 =>
      have H := HA.out
      clear HA
      simp only [laws_FnLetters.j0] at H
      by_cases c5 : x14_2 = true
      · subst c5
        have H1 : (some true) = some r := by rw [if_pos rfl] at H; exact H
        clear H
        have H := H1
        clear H1
        obtain rfl := Option.some.inj H
        go_wp2
        go_ret
        exact ⟨by first | rfl | (simp [errW_none, errW_some] <;> rfl) | (simp [*, errW_none, errW_some] <;> rfl), by repeat (first | (with_reducible first | exact HB.out | apply below_alloc | apply pw_below_drewN | apply below_drew1) | exact HB.out)⟩
      · replace c5 := Bool.eq_false_iff.mpr c5
        subst c5
        have H1 : ((laws_lowers.f kj2).bind fun t163 => (if t163 = true then ((laws_short.f kj2 (([a0, a1] : List ByteArray))).bind fun t167 => (if t167 = true then ((impl_Lower.f a0).bind fun t168 => ((impl_Upper.f a0).bind fun t169 => ((laws_low.f a0).bind fun t170 => (if t168.toList = t170.toList then ((impl_Upper.f t168).bind fun t171 => (if t171.toList = t169.toList then ((impl_Lower.f t169).bind fun t172 => (if t172.toList = t168.toList then ((impl_Fold.f kj2 a0 a1).bind fun t173 => ((impl_Lower.f a1).bind fun t174 => (laws_FnLetters.j1 kj2 a0 a1 t168 t169 (t173 != (t168.toList == t174.toList))))) else (laws_FnLetters.j1 kj2 a0 a1 t168 t169 true))) else (laws_FnLetters.j1 kj2 a0 a1 t168 t169 true))) else (laws_FnLetters.j1 kj2 a0 a1 t168 t169 true))))) else (some true))) else (some false))) = some r := by rw [if_neg (show ¬ (false = true) by decide)] at H; exact H
        clear H
        have H := H1
        clear H1
        replace H := Option.bind_eq_some_iff.mp H
        obtain ⟨t163, A60, H⟩ := H
        replace H : (if t163 = true then ((laws_short.f kj2 (([a0, a1] : List ByteArray))).bind fun t167 => (if t167 = true then ((impl_Lower.f a0).bind fun t168 => ((impl_Upper.f a0).bind fun t169 => ((laws_low.f a0).bind fun t170 => (if t168.toList = t170.toList then ((impl_Upper.f t168).bind fun t171 => (if t171.toList = t169.toList then ((impl_Lower.f t169).bind fun t172 => (if t172.toList = t168.toList then ((impl_Fold.f kj2 a0 a1).bind fun t173 => ((impl_Lower.f a1).bind fun t174 => (laws_FnLetters.j1 kj2 a0 a1 t168 t169 (t173 != (t168.toList == t174.toList))))) else (laws_FnLetters.j1 kj2 a0 a1 t168 t169 true))) else (laws_FnLetters.j1 kj2 a0 a1 t168 t169 true))) else (laws_FnLetters.j1 kj2 a0 a1 t168 t169 true))))) else (some true))) else (some false)) = some r := H
        have A6 := Aside0.mk A60
        clear A60
        by_cases c7 : t163 = true
        · subst c7
          have H1 : ((laws_short.f kj2 (([a0, a1] : List ByteArray))).bind fun t167 => (if t167 = true then ((impl_Lower.f a0).bind fun t168 => ((impl_Upper.f a0).bind fun t169 => ((laws_low.f a0).bind fun t170 => (if t168.toList = t170.toList then ((impl_Upper.f t168).bind fun t171 => (if t171.toList = t169.toList then ((impl_Lower.f t169).bind fun t172 => (if t172.toList = t168.toList then ((impl_Fold.f kj2 a0 a1).bind fun t173 => ((impl_Lower.f a1).bind fun t174 => (laws_FnLetters.j1 kj2 a0 a1 t168 t169 (t173 != (t168.toList == t174.toList))))) else (laws_FnLetters.j1 kj2 a0 a1 t168 t169 true))) else (laws_FnLetters.j1 kj2 a0 a1 t168 t169 true))) else (laws_FnLetters.j1 kj2 a0 a1 t168 t169 true))))) else (some true))) = some r := by rw [if_pos rfl] at H; exact H
          clear H
          have H := H1
          clear H1
          obtain ⟨y164, hy164⟩ : ∃ y_ : List ByteArray, y_ = (([a0, a1] : List ByteArray)) := ⟨_, rfl⟩
          replace H : ((laws_short.f kj2 y164).bind fun t167 => (if t167 = true then ((impl_Lower.f a0).bind fun t168 => ((impl_Upper.f a0).bind fun t169 => ((laws_low.f a0).bind fun t170 => (if t168.toList = t170.toList then ((impl_Upper.f t168).bind fun t171 => (if t171.toList = t169.toList then ((impl_Lower.f t169).bind fun t172 => (if t172.toList = t168.toList then ((impl_Fold.f kj2 a0 a1).bind fun t173 => ((impl_Lower.f a1).bind fun t174 => (laws_FnLetters.j1 kj2 a0 a1 t168 t169 (t173 != (t168.toList == t174.toList))))) else (laws_FnLetters.j1 kj2 a0 a1 t168 t169 true))) else (laws_FnLetters.j1 kj2 a0 a1 t168 t169 true))) else (laws_FnLetters.j1 kj2 a0 a1 t168 t169 true))))) else (some true))) = some r := by first | (rw [hy164]; with_reducible exact H) | (have H2_ := (Option.bind_some _ _).symm.trans H; rw [hy164]; with_reducible exact H2_) | (have H2_ := (Option.bind_some _ _).symm.trans H; with_reducible exact H2_) | with_reducible exact H | (rw [hy164]; exact H) | exact H
          have Ny164 := Aside0.mk hy164
          clear hy164
          replace H := Option.bind_eq_some_iff.mp H
          obtain ⟨t167, A80, H⟩ := H
          replace H : (if t167 = true then ((impl_Lower.f a0).bind fun t168 => ((impl_Upper.f a0).bind fun t169 => ((laws_low.f a0).bind fun t170 => (if t168.toList = t170.toList then ((impl_Upper.f t168).bind fun t171 => (if t171.toList = t169.toList then ((impl_Lower.f t169).bind fun t172 => (if t172.toList = t168.toList then ((impl_Fold.f kj2 a0 a1).bind fun t173 => ((impl_Lower.f a1).bind fun t174 => (laws_FnLetters.j1 kj2 a0 a1 t168 t169 (t173 != (t168.toList == t174.toList))))) else (laws_FnLetters.j1 kj2 a0 a1 t168 t169 true))) else (laws_FnLetters.j1 kj2 a0 a1 t168 t169 true))) else (laws_FnLetters.j1 kj2 a0 a1 t168 t169 true))))) else (some true)) = some r := H
          have A8 := Aside0.mk A80
          clear A80
          by_cases c9 : t167 = true
          · subst c9
            have H1 : ((impl_Lower.f a0).bind fun t168 => ((impl_Upper.f a0).bind fun t169 => ((laws_low.f a0).bind fun t170 => (if t168.toList = t170.toList then ((impl_Upper.f t168).bind fun t171 => (if t171.toList = t169.toList then ((impl_Lower.f t169).bind fun t172 => (if t172.toList = t168.toList then ((impl_Fold.f kj2 a0 a1).bind fun t173 => ((impl_Lower.f a1).bind fun t174 => (laws_FnLetters.j1 kj2 a0 a1 t168 t169 (t173 != (t168.toList == t174.toList))))) else (laws_FnLetters.j1 kj2 a0 a1 t168 t169 true))) else (laws_FnLetters.j1 kj2 a0 a1 t168 t169 true))) else (laws_FnLetters.j1 kj2 a0 a1 t168 t169 true))))) = some r := by rw [if_pos rfl] at H; exact H
            clear H
            have H := H1
            clear H1
            replace H := Option.bind_eq_some_iff.mp H
            obtain ⟨t168, A100, H⟩ := H
            replace H : ((impl_Upper.f a0).bind fun t169 => ((laws_low.f a0).bind fun t170 => (if t168.toList = t170.toList then ((impl_Upper.f t168).bind fun t171 => (if t171.toList = t169.toList then ((impl_Lower.f t169).bind fun t172 => (if t172.toList = t168.toList then ((impl_Fold.f kj2 a0 a1).bind fun t173 => ((impl_Lower.f a1).bind fun t174 => (laws_FnLetters.j1 kj2 a0 a1 t168 t169 (t173 != (t168.toList == t174.toList))))) else (laws_FnLetters.j1 kj2 a0 a1 t168 t169 true))) else (laws_FnLetters.j1 kj2 a0 a1 t168 t169 true))) else (laws_FnLetters.j1 kj2 a0 a1 t168 t169 true)))) = some r := H
            have A10 := Aside0.mk A100
            clear A100
            replace H := Option.bind_eq_some_iff.mp H
            obtain ⟨t169, A110, H⟩ := H
            replace H : ((laws_low.f a0).bind fun t170 => (if t168.toList = t170.toList then ((impl_Upper.f t168).bind fun t171 => (if t171.toList = t169.toList then ((impl_Lower.f t169).bind fun t172 => (if t172.toList = t168.toList then ((impl_Fold.f kj2 a0 a1).bind fun t173 => ((impl_Lower.f a1).bind fun t174 => (laws_FnLetters.j1 kj2 a0 a1 t168 t169 (t173 != (t168.toList == t174.toList))))) else (laws_FnLetters.j1 kj2 a0 a1 t168 t169 true))) else (laws_FnLetters.j1 kj2 a0 a1 t168 t169 true))) else (laws_FnLetters.j1 kj2 a0 a1 t168 t169 true))) = some r := H
            have A11 := Aside0.mk A110
            clear A110
            have HC12 := Aside0.mk H
            clear H
            go_upto_region 8 with (first | ((with_reducible refine gate_callee (f := 17) rfl ?_); refine goesL_ (some 15) rfl rfl Try.func17 (by kernel_rfl) rfl #[] rfl (by (try simp only [List.map_toArray, List.map_cons, List.map_nil]); first | done | rfl | (simp only [List.length_drop, List.length_take]; rfl)) ?_; (with_reducible refine (laws_lowers.calls kj2  true _ A6.out).mono ?_); rintro e w13 ⟨rfl, hb⟩; refine ⟨_, rfl, ?_⟩; have n0_ := Aside0.mk (below_step (by repeat (first | (with_reducible first | exact HB.out | apply below_alloc | apply pw_below_drewN | apply below_drew1) | exact HB.out)) hb); clear HB; have HB := n0_; clear n0_; (try clear hb); (try clear hb2); (try clear hk); (try clear hi)) | ((with_reducible refine gate_dst (N := 19) rfl ?_); (try (refine gate_guard (by rfl) ?_; dsimp only)); refine Kd.R_lit Kd.string _ 9 ?hg (N := 19) ?hd (xs := ([a0, a1] : List ByteArray)) (inner := [.string a0, .string a1]) (ok := fun _ => True) (okp := fun _ => True) ?hr ?hp (fun _ hk => hk) trivial (Below.refl _ _) (Nat.le_refl _) (by simp) ?_; (case hd => rfl); (case hg => rfl); (case hr => first | (go_simp; done) | (go_simp; rfl)); (case hp => exact (Reps.one (show Kd.M Kd.string _ _ _ a0 [.string a0] from rfl) (Reps.one (show Kd.M Kd.string _ _ _ a1 [.string a1] from rfl) (Reps.none _ _)))); intro v165 w14 ho15 hb hg_ hnew_; clear hg_ hnew_; (first | rw [← Ny164.out] at ho15 | (simp only [Int.reduceToNat] at ho15; rw [← Ny164.out] at ho15)); have n0_ := Aside0.mk (Kd.R_lower ho15 (below_size (by repeat (first | (with_reducible first | exact HB.out | apply below_alloc | apply pw_below_drewN | apply below_drew1) | exact HB.out)))); have n1_ := Aside0.mk (below_step (by repeat (first | (with_reducible first | exact HB.out | apply below_alloc | apply pw_below_drewN | apply below_drew1) | exact HB.out)) hb); clear HB; have HO166 := n0_; have HB := n1_; clear n0_ n1_; clear hb ho15; obtain ⟨Ao16, co16, eo16⟩ := Kd.R_slice HO166.out; subst eo16) | ((with_reducible refine gate_callee (f := 13) rfl ?_); refine goesL_ (some 20) rfl rfl Try.func13 (by kernel_rfl) rfl #[.slice Ao16 y164.length co16] rfl (by (try simp only [List.map_toArray, List.map_cons, List.map_nil]); first | done | rfl | (simp only [List.length_drop, List.length_take]; rfl)) ?_; (with_reducible refine (laws_short.calls kj2 _ _ y164 true _ ?side1 ?side2 A8.out).mono ?_); (case side1 => repeat (first | exact (Kd.R_reads' HO166.out).2.2 | (with_reducible refine Kd.C_alloc ?_ _) | (with_reducible refine Kd.C_drewN ?_ _) | (with_reducible refine Kd.C_drew ?_))); (case side2 => exact (Kd.R_reads' HO166.out).2.1); rintro e w' ⟨rfl, ⟨nd, rfl⟩⟩; refine ⟨_, rfl, ?_⟩) | ((with_reducible refine gate_callee (f := 18) rfl ?_); refine goesL_ (some 23) rfl rfl Try.func18 (by kernel_rfl) rfl #[.string a0] rfl (by (try simp only [List.map_toArray, List.map_cons, List.map_nil]); first | done | rfl | (simp only [List.length_drop, List.length_take]; rfl)) ?_; (with_reducible refine (impl_Lower.calls a0 t168 _ A10.out).mono ?_); rintro e w17 ⟨rfl, hb⟩; refine ⟨_, rfl, ?_⟩; have n0_ := Aside0.mk (Kd.R_below (by (with_reducible repeat (first | apply Kd.R_alloc | apply Kd.R_drewN | apply Kd.R_drew)); exact HO166.out) hb); have n1_ := Aside0.mk (below_step (by repeat (first | (with_reducible first | exact HB.out | apply below_alloc | apply pw_below_drewN | apply below_drew1) | exact HB.out)) hb); clear HO166; clear HB; have HO166 := n0_; have HB := n1_; clear n0_ n1_; (try clear hb); (try clear hb2); (try clear hk); (try clear hi)) | ((with_reducible refine gate_callee (f := 19) rfl ?_); refine goesL_ (some 25) rfl rfl Try.func19 (by kernel_rfl) rfl #[.string a0] rfl (by (try simp only [List.map_toArray, List.map_cons, List.map_nil]); first | done | rfl | (simp only [List.length_drop, List.length_take]; rfl)) ?_; (with_reducible refine (impl_Upper.calls a0 t169 _ A11.out).mono ?_); rintro e w18 ⟨rfl, hb⟩; refine ⟨_, rfl, ?_⟩; have n0_ := Aside0.mk (Kd.R_below (by (with_reducible repeat (first | apply Kd.R_alloc | apply Kd.R_drewN | apply Kd.R_drew)); exact HO166.out) hb); have n1_ := Aside0.mk (below_step (by repeat (first | (with_reducible first | exact HB.out | apply below_alloc | apply pw_below_drewN | apply below_drew1) | exact HB.out)) hb); clear HO166; clear HB; have HO166 := n0_; have HB := n1_; clear n0_ n1_; (try clear hb); (try clear hb2); (try clear hk); (try clear hi)))
            (try simp only [Act.put, List.setIfInBounds_toArray, List.set_cons_zero, List.set_cons_succ])
            go_cut [51] (fun v51 wc => ∃ (kq : Nat) (x51_11 : Bool), v51 = .bool x51_11 ∧ Aside0 (laws_FnLetters.j1 kq a0 a1 t168 t169 x51_11 = some r) ∧ Aside0 (kq ≤ kj2) ∧ Aside0 (Below w.heap.size w wc))
            case first =>
              have H := HC12.out
              clear HC12
              replace H := Option.bind_eq_some_iff.mp H
              obtain ⟨t170, A190, H⟩ := H
              replace H : (if t168.toList = t170.toList then ((impl_Upper.f t168).bind fun t171 => (if t171.toList = t169.toList then ((impl_Lower.f t169).bind fun t172 => (if t172.toList = t168.toList then ((impl_Fold.f kj2 a0 a1).bind fun t173 => ((impl_Lower.f a1).bind fun t174 => (laws_FnLetters.j1 kj2 a0 a1 t168 t169 (t173 != (t168.toList == t174.toList))))) else (laws_FnLetters.j1 kj2 a0 a1 t168 t169 true))) else (laws_FnLetters.j1 kj2 a0 a1 t168 t169 true))) else (laws_FnLetters.j1 kj2 a0 a1 t168 t169 true)) = some r := H
              have A19 := Aside0.mk A190
              clear A190
              by_cases c20 : t168.toList = t170.toList
              · rw [if_pos c20] at H
                have c20b0 : (t168.toList == t170.toList) = true := beq_iff_eq.mpr c20
                have c20b1 : (t168.toList != t170.toList) = false := bne_eq_false_iff_eq.mpr c20
                clear c20
                (first | rw [c20b0] | (simp only [i64_w, i32_w]; rw [c20b0]) | skip)
                replace H := Option.bind_eq_some_iff.mp H
                obtain ⟨t171, A210, H⟩ := H
                replace H : (if t171.toList = t169.toList then ((impl_Lower.f t169).bind fun t172 => (if t172.toList = t168.toList then ((impl_Fold.f kj2 a0 a1).bind fun t173 => ((impl_Lower.f a1).bind fun t174 => (laws_FnLetters.j1 kj2 a0 a1 t168 t169 (t173 != (t168.toList == t174.toList))))) else (laws_FnLetters.j1 kj2 a0 a1 t168 t169 true))) else (laws_FnLetters.j1 kj2 a0 a1 t168 t169 true)) = some r := H
                have A21 := Aside0.mk A210
                clear A210
                by_cases c22 : t171.toList = t169.toList
                · rw [if_pos c22] at H
                  have c22b0 : (t171.toList == t169.toList) = true := beq_iff_eq.mpr c22
                  have c22b1 : (t171.toList != t169.toList) = false := bne_eq_false_iff_eq.mpr c22
                  clear c22
                  replace H := Option.bind_eq_some_iff.mp H
                  obtain ⟨t172, A230, H⟩ := H
                  replace H : (if t172.toList = t168.toList then ((impl_Fold.f kj2 a0 a1).bind fun t173 => ((impl_Lower.f a1).bind fun t174 => (laws_FnLetters.j1 kj2 a0 a1 t168 t169 (t173 != (t168.toList == t174.toList))))) else (laws_FnLetters.j1 kj2 a0 a1 t168 t169 true)) = some r := H
                  have A23 := Aside0.mk A230
                  clear A230
                  by_cases c24 : t172.toList = t168.toList
                  · rw [if_pos c24] at H
                    have c24b0 : (t172.toList == t168.toList) = true := beq_iff_eq.mpr c24
                    have c24b1 : (t172.toList != t168.toList) = false := bne_eq_false_iff_eq.mpr c24
                    clear c24
                    replace H := Option.bind_eq_some_iff.mp H
                    obtain ⟨t173, A250, H⟩ := H
                    replace H : ((impl_Lower.f a1).bind fun t174 => (laws_FnLetters.j1 kj2 a0 a1 t168 t169 (t173 != (t168.toList == t174.toList)))) = some r := H
                    have A25 := Aside0.mk A250
                    clear A250
                    replace H := Option.bind_eq_some_iff.mp H
                    obtain ⟨t174, A260, H⟩ := H
                    replace H : (laws_FnLetters.j1 kj2 a0 a1 t168 t169 (t173 != (t168.toList == t174.toList))) = some r := H
                    have A26 := Aside0.mk A260
                    clear A260
                    have H' := Aside0.mk H
                    clear H
                    go_wp2_with (first | ((with_reducible refine gate_callee (f := 20) rfl ?_); refine goesL_ (some 28) rfl rfl Try.func20 (by kernel_rfl) rfl #[.string a0] rfl (by (try simp only [List.map_toArray, List.map_cons, List.map_nil]); first | done | rfl | (simp only [List.length_drop, List.length_take]; rfl)) ?_; (with_reducible refine (laws_low.calls a0 t170 _ A19.out).mono ?_); rintro e w27 ⟨rfl, hb⟩; refine ⟨_, rfl, ?_⟩; have n0_ := Aside0.mk (Kd.R_below (by (with_reducible repeat (first | apply Kd.R_alloc | apply Kd.R_drewN | apply Kd.R_drew)); exact HO166.out) hb); have n1_ := Aside0.mk (below_step (by repeat (first | (with_reducible first | exact HB.out | apply below_alloc | apply pw_below_drewN | apply below_drew1) | exact HB.out)) hb); clear HO166; clear HB; have HO166 := n0_; have HB := n1_; clear n0_ n1_; (try clear hb); (try clear hb2); (try clear hk); (try clear hi)) | (go_at_call 19; (with_reducible refine (impl_Upper.calls t168 t171 _ A21.out).mono ?_); rintro e w28 ⟨rfl, hb⟩; have n0_ := Aside0.mk (Kd.R_below (by (with_reducible repeat (first | apply Kd.R_alloc | apply Kd.R_drewN | apply Kd.R_drew)); exact HO166.out) hb); have n1_ := Aside0.mk (below_step (by repeat (first | (with_reducible first | exact HB.out | apply below_alloc | apply pw_below_drewN | apply below_drew1) | exact HB.out)) hb); clear HO166; clear HB; have HO166 := n0_; have HB := n1_; clear n0_ n1_; (try clear hb); (try clear hb2); (try clear hk); (try clear hi)) | (go_at_call 18; (with_reducible refine (impl_Lower.calls t169 t172 _ A23.out).mono ?_); rintro e w29 ⟨rfl, hb⟩; have n0_ := Aside0.mk (Kd.R_below (by (with_reducible repeat (first | apply Kd.R_alloc | apply Kd.R_drewN | apply Kd.R_drew)); exact HO166.out) hb); have n1_ := Aside0.mk (below_step (by repeat (first | (with_reducible first | exact HB.out | apply below_alloc | apply pw_below_drewN | apply below_drew1) | exact HB.out)) hb); clear HO166; clear HB; have HO166 := n0_; have HB := n1_; clear n0_ n1_; (try clear hb); (try clear hb2); (try clear hk); (try clear hi)) | (go_at_call 21; (with_reducible refine (impl_Fold.calls kj2 a0 a1 t173 _ A25.out).mono ?_); rintro e w' ⟨rfl, ⟨nd, rfl⟩⟩) | (go_at_call 18; (with_reducible refine (impl_Lower.calls a1 t174 _ A26.out).mono ?_); rintro e w30 ⟨rfl, hb⟩; have n0_ := Aside0.mk (Kd.R_below (by (with_reducible repeat (first | apply Kd.R_alloc | apply Kd.R_drewN | apply Kd.R_drew)); exact HO166.out) hb); have n1_ := Aside0.mk (below_step (by repeat (first | (with_reducible first | exact HB.out | apply below_alloc | apply pw_below_drewN | apply below_drew1) | exact HB.out)) hb); clear HO166; clear HB; have HO166 := n0_; have HB := n1_; clear n0_ n1_; (try clear hb); (try clear hb2); (try clear hk); (try clear hi)))
                    go_meet
                    case rel => exact ⟨_, ((t173 != (t168.toList == t174.toList))), (by first | rfl | (simp; done) | (simp [*]; done) | (simp [Go.Proofs.YtipmmjbjgbfgjaaX.isEmpty_ne]; done)), H', ⟨by have := HJ2.out; first | omega | exact Nat.le_refl _⟩, ⟨by repeat (first | (with_reducible first | exact HB.out | apply below_alloc | apply pw_below_drewN | apply below_drew1) | exact HB.out)⟩⟩
                  · rw [if_neg c24] at H
                    have c24b0 : (t172.toList == t168.toList) = false := beq_eq_false_iff_ne.mpr c24
                    have c24b1 : (t172.toList != t168.toList) = true := bne_iff_ne.mpr c24
                    have H' := Aside0.mk H
                    clear H
                    go_wp2_with (first | ((with_reducible refine gate_callee (f := 20) rfl ?_); refine goesL_ (some 28) rfl rfl Try.func20 (by kernel_rfl) rfl #[.string a0] rfl (by (try simp only [List.map_toArray, List.map_cons, List.map_nil]); first | done | rfl | (simp only [List.length_drop, List.length_take]; rfl)) ?_; (with_reducible refine (laws_low.calls a0 t170 _ A19.out).mono ?_); rintro e w31 ⟨rfl, hb⟩; refine ⟨_, rfl, ?_⟩; have n0_ := Aside0.mk (Kd.R_below (by (with_reducible repeat (first | apply Kd.R_alloc | apply Kd.R_drewN | apply Kd.R_drew)); exact HO166.out) hb); have n1_ := Aside0.mk (below_step (by repeat (first | (with_reducible first | exact HB.out | apply below_alloc | apply pw_below_drewN | apply below_drew1) | exact HB.out)) hb); clear HO166; clear HB; have HO166 := n0_; have HB := n1_; clear n0_ n1_; (try clear hb); (try clear hb2); (try clear hk); (try clear hi)) | (go_at_call 19; (with_reducible refine (impl_Upper.calls t168 t171 _ A21.out).mono ?_); rintro e w32 ⟨rfl, hb⟩; have n0_ := Aside0.mk (Kd.R_below (by (with_reducible repeat (first | apply Kd.R_alloc | apply Kd.R_drewN | apply Kd.R_drew)); exact HO166.out) hb); have n1_ := Aside0.mk (below_step (by repeat (first | (with_reducible first | exact HB.out | apply below_alloc | apply pw_below_drewN | apply below_drew1) | exact HB.out)) hb); clear HO166; clear HB; have HO166 := n0_; have HB := n1_; clear n0_ n1_; (try clear hb); (try clear hb2); (try clear hk); (try clear hi)) | (go_at_call 18; (with_reducible refine (impl_Lower.calls t169 t172 _ A23.out).mono ?_); rintro e w33 ⟨rfl, hb⟩; have n0_ := Aside0.mk (Kd.R_below (by (with_reducible repeat (first | apply Kd.R_alloc | apply Kd.R_drewN | apply Kd.R_drew)); exact HO166.out) hb); have n1_ := Aside0.mk (below_step (by repeat (first | (with_reducible first | exact HB.out | apply below_alloc | apply pw_below_drewN | apply below_drew1) | exact HB.out)) hb); clear HO166; clear HB; have HO166 := n0_; have HB := n1_; clear n0_ n1_; (try clear hb); (try clear hb2); (try clear hk); (try clear hi)))
                    go_meet
                    case rel => exact ⟨_, (true), (by first | rfl | (simp; done) | (simp [*]; done) | (simp [Go.Proofs.YtipmmjbjgbfgjaaX.isEmpty_ne]; done)), H', ⟨by have := HJ2.out; first | omega | exact Nat.le_refl _⟩, ⟨by repeat (first | (with_reducible first | exact HB.out | apply below_alloc | apply pw_below_drewN | apply below_drew1) | exact HB.out)⟩⟩
                · rw [if_neg c22] at H
                  have c22b0 : (t171.toList == t169.toList) = false := beq_eq_false_iff_ne.mpr c22
                  have c22b1 : (t171.toList != t169.toList) = true := bne_iff_ne.mpr c22
                  have H' := Aside0.mk H
                  clear H
                  go_wp2_with (first | ((with_reducible refine gate_callee (f := 20) rfl ?_); refine goesL_ (some 28) rfl rfl Try.func20 (by kernel_rfl) rfl #[.string a0] rfl (by (try simp only [List.map_toArray, List.map_cons, List.map_nil]); first | done | rfl | (simp only [List.length_drop, List.length_take]; rfl)) ?_; (with_reducible refine (laws_low.calls a0 t170 _ A19.out).mono ?_); rintro e w34 ⟨rfl, hb⟩; refine ⟨_, rfl, ?_⟩; have n0_ := Aside0.mk (Kd.R_below (by (with_reducible repeat (first | apply Kd.R_alloc | apply Kd.R_drewN | apply Kd.R_drew)); exact HO166.out) hb); have n1_ := Aside0.mk (below_step (by repeat (first | (with_reducible first | exact HB.out | apply below_alloc | apply pw_below_drewN | apply below_drew1) | exact HB.out)) hb); clear HO166; clear HB; have HO166 := n0_; have HB := n1_; clear n0_ n1_; (try clear hb); (try clear hb2); (try clear hk); (try clear hi)) | (go_at_call 19; (with_reducible refine (impl_Upper.calls t168 t171 _ A21.out).mono ?_); rintro e w35 ⟨rfl, hb⟩; have n0_ := Aside0.mk (Kd.R_below (by (with_reducible repeat (first | apply Kd.R_alloc | apply Kd.R_drewN | apply Kd.R_drew)); exact HO166.out) hb); have n1_ := Aside0.mk (below_step (by repeat (first | (with_reducible first | exact HB.out | apply below_alloc | apply pw_below_drewN | apply below_drew1) | exact HB.out)) hb); clear HO166; clear HB; have HO166 := n0_; have HB := n1_; clear n0_ n1_; (try clear hb); (try clear hb2); (try clear hk); (try clear hi)))
                  go_meet
                  case rel => exact ⟨_, (true), (by first | rfl | (simp; done) | (simp [*]; done) | (simp [Go.Proofs.YtipmmjbjgbfgjaaX.isEmpty_ne]; done)), H', ⟨by have := HJ2.out; first | omega | exact Nat.le_refl _⟩, ⟨by repeat (first | (with_reducible first | exact HB.out | apply below_alloc | apply pw_below_drewN | apply below_drew1) | exact HB.out)⟩⟩
              · rw [if_neg c20] at H
                have c20b0 : (t168.toList == t170.toList) = false := beq_eq_false_iff_ne.mpr c20
                have c20b1 : (t168.toList != t170.toList) = true := bne_iff_ne.mpr c20
                (first | rw [c20b0] | (simp only [i64_w, i32_w]; rw [c20b0]) | skip)
                have H' := Aside0.mk H
                clear H
                go_wp2_with (first | ((with_reducible refine gate_callee (f := 20) rfl ?_); refine goesL_ (some 28) rfl rfl Try.func20 (by kernel_rfl) rfl #[.string a0] rfl (by (try simp only [List.map_toArray, List.map_cons, List.map_nil]); first | done | rfl | (simp only [List.length_drop, List.length_take]; rfl)) ?_; (with_reducible refine (laws_low.calls a0 t170 _ A19.out).mono ?_); rintro e w36 ⟨rfl, hb⟩; refine ⟨_, rfl, ?_⟩; have n0_ := Aside0.mk (Kd.R_below (by (with_reducible repeat (first | apply Kd.R_alloc | apply Kd.R_drewN | apply Kd.R_drew)); exact HO166.out) hb); have n1_ := Aside0.mk (below_step (by repeat (first | (with_reducible first | exact HB.out | apply below_alloc | apply pw_below_drewN | apply below_drew1) | exact HB.out)) hb); clear HO166; clear HB; have HO166 := n0_; have HB := n1_; clear n0_ n1_; (try clear hb); (try clear hb2); (try clear hk); (try clear hi)))
                go_meet
                case rel => exact ⟨_, (true), (by first | rfl | (simp; done) | (simp [*]; done) | (simp [Go.Proofs.YtipmmjbjgbfgjaaX.isEmpty_ne]; done)), H', ⟨by have := HJ2.out; first | omega | exact Nat.le_refl _⟩, ⟨by repeat (first | (with_reducible first | exact HB.out | apply below_alloc | apply pw_below_drewN | apply below_drew1) | exact HB.out)⟩⟩
            case rest =>
              clear HC12
              try clear c1
              try clear c2
              try clear p2
              try clear c4
              try clear c4b0
              try clear c4b1
              try clear c5
              try clear c7
              try clear c9
              try clear c13
              try clear c17
              try clear c18
              try clear c19
              try clear c20
              try clear c20b0
              try clear c20b1
              try clear c22
              try clear c22b0
              try clear c22b1
              try clear c24
              try clear c24b0
              try clear c24b1
              try clear p2
              obtain ⟨kq, x51_11, rfl, HA, HJ11, HB⟩ := hcut
              cases kq with
              | zero => exact absurd HA.out (by simp [laws_FnLetters.j1])
              | succ kj11 =>
                have H := HA.out
                clear HA
                simp only [laws_FnLetters.j1] at H
                by_cases c37 : x51_11 = true
                · subst c37
                  have H1 : (some false) = some r := by rw [if_pos rfl] at H; exact H
                  clear H
                  have H := H1
                  clear H1
                  obtain rfl := Option.some.inj H
                  go_wp2
                  go_ret
                  exact ⟨by first | rfl | (simp [errW_none, errW_some] <;> rfl) | (simp [*, errW_none, errW_some] <;> rfl), by repeat (first | (with_reducible first | exact HB.out | apply below_alloc | apply pw_below_drewN | apply below_drew1) | exact HB.out)⟩
                · replace c37 := Bool.eq_false_iff.mpr c37
                  subst c37
                  have H1 : ((conv24.f a0).bind fun t175 => ((impl_LowerBytes.f kj11 t175).bind fun t178 => (if (strOfNums t178).toList = t168.toList then ((conv24.f a0).bind fun t181 => ((impl_UpperBytes.f kj11 t181).bind fun t184 => (if (strOfNums t184).toList = t169.toList then ((conv24.f a0).bind fun t187 => ((conv24.f a1).bind fun t190 => ((impl_FoldBytes.f kj11 t187 t190).bind fun t193 => ((impl_Fold.f kj11 a0 a1).bind fun t194 => (some (t193 == t194)))))) else (some false)))) else (some false)))) = some r := by rw [if_neg (show ¬ (false = true) by decide)] at H; exact H
                  clear H
                  have H := H1
                  clear H1
                  replace H := Option.bind_eq_some_iff.mp H
                  obtain ⟨t175, A380, H⟩ := H
                  replace H : ((impl_LowerBytes.f kj11 t175).bind fun t178 => (if (strOfNums t178).toList = t168.toList then ((conv24.f a0).bind fun t181 => ((impl_UpperBytes.f kj11 t181).bind fun t184 => (if (strOfNums t184).toList = t169.toList then ((conv24.f a0).bind fun t187 => ((conv24.f a1).bind fun t190 => ((impl_FoldBytes.f kj11 t187 t190).bind fun t193 => ((impl_Fold.f kj11 a0 a1).bind fun t194 => (some (t193 == t194)))))) else (some false)))) else (some false))) = some r := H
                  have A38 := Aside0.mk A380
                  clear A380
                  replace H := Option.bind_eq_some_iff.mp H
                  obtain ⟨t178, A390, H⟩ := H
                  replace H : (if (strOfNums t178).toList = t168.toList then ((conv24.f a0).bind fun t181 => ((impl_UpperBytes.f kj11 t181).bind fun t184 => (if (strOfNums t184).toList = t169.toList then ((conv24.f a0).bind fun t187 => ((conv24.f a1).bind fun t190 => ((impl_FoldBytes.f kj11 t187 t190).bind fun t193 => ((impl_Fold.f kj11 a0 a1).bind fun t194 => (some (t193 == t194)))))) else (some false)))) else (some false)) = some r := H
                  have A39 := Aside0.mk A390
                  clear A390
                  by_cases c40 : (strOfNums t178).toList = t168.toList
                  · rw [if_pos c40] at H
                    have c40b0 : ((strOfNums t178).toList == t168.toList) = true := beq_iff_eq.mpr c40
                    have c40b1 : ((strOfNums t178).toList != t168.toList) = false := bne_eq_false_iff_eq.mpr c40
                    clear c40
                    replace H := Option.bind_eq_some_iff.mp H
                    obtain ⟨t181, A410, H⟩ := H
                    replace H : ((impl_UpperBytes.f kj11 t181).bind fun t184 => (if (strOfNums t184).toList = t169.toList then ((conv24.f a0).bind fun t187 => ((conv24.f a1).bind fun t190 => ((impl_FoldBytes.f kj11 t187 t190).bind fun t193 => ((impl_Fold.f kj11 a0 a1).bind fun t194 => (some (t193 == t194)))))) else (some false))) = some r := H
                    have A41 := Aside0.mk A410
                    clear A410
                    replace H := Option.bind_eq_some_iff.mp H
                    obtain ⟨t184, A420, H⟩ := H
                    replace H : (if (strOfNums t184).toList = t169.toList then ((conv24.f a0).bind fun t187 => ((conv24.f a1).bind fun t190 => ((impl_FoldBytes.f kj11 t187 t190).bind fun t193 => ((impl_Fold.f kj11 a0 a1).bind fun t194 => (some (t193 == t194)))))) else (some false)) = some r := H
                    have A42 := Aside0.mk A420
                    clear A420
                    by_cases c43 : (strOfNums t184).toList = t169.toList
                    · rw [if_pos c43] at H
                      have c43b0 : ((strOfNums t184).toList == t169.toList) = true := beq_iff_eq.mpr c43
                      have c43b1 : ((strOfNums t184).toList != t169.toList) = false := bne_eq_false_iff_eq.mpr c43
                      clear c43
                      replace H := Option.bind_eq_some_iff.mp H
                      obtain ⟨t187, A440, H⟩ := H
                      replace H : ((conv24.f a1).bind fun t190 => ((impl_FoldBytes.f kj11 t187 t190).bind fun t193 => ((impl_Fold.f kj11 a0 a1).bind fun t194 => (some (t193 == t194))))) = some r := H
                      have A44 := Aside0.mk A440
                      clear A440
                      replace H := Option.bind_eq_some_iff.mp H
                      obtain ⟨t190, A450, H⟩ := H
                      replace H : ((impl_FoldBytes.f kj11 t187 t190).bind fun t193 => ((impl_Fold.f kj11 a0 a1).bind fun t194 => (some (t193 == t194)))) = some r := H
                      have A45 := Aside0.mk A450
                      clear A450
                      replace H := Option.bind_eq_some_iff.mp H
                      obtain ⟨t193, A460, H⟩ := H
                      replace H : ((impl_Fold.f kj11 a0 a1).bind fun t194 => (some (t193 == t194))) = some r := H
                      have A46 := Aside0.mk A460
                      clear A460
                      replace H := Option.bind_eq_some_iff.mp H
                      obtain ⟨t194, A470, H⟩ := H
                      replace H : (some (t193 == t194)) = some r := H
                      have A47 := Aside0.mk A470
                      clear A470
                      obtain rfl := Option.some.inj H
                      go_wp2_with (first | (refine Go.Proofs.YtipmmjbjgbfgjaaX.convL_ (some 53) rfl rfl 9 24 _ rfl a0 rfl ?_; (with_reducible refine (conv24.calls a0 t175 _ A38.out).mono ?_); rintro e w48 ⟨v176, rfl, ho0, hb⟩; refine ⟨_, rfl, ?_⟩; have n0_ := Aside0.mk (Kd.V_lower (Kd.V_mono (ok' := fun k_ => True) ho0 (fun k_ hk_ => trivial)) (below_size (by repeat (first | (with_reducible first | exact HB.out | apply below_alloc | apply pw_below_drewN | apply below_drew1) | exact HB.out)))); have n1_ := Aside0.mk (below_step (by repeat (first | (with_reducible first | exact HB.out | apply below_alloc | apply pw_below_drewN | apply below_drew1) | exact HB.out)) hb); clear HB; have HO177 := n0_; have HB := n1_; clear n0_ n1_; (try clear hb); (try clear hb2); (try clear hk); (try clear hi); (try clear ho0); obtain ⟨Ao49, co49, eo49⟩ := Kd.V_slice HO177.out; subst eo49) | ((with_reducible refine gate_callee (f := 22) rfl ?_); refine goesL_ (some 54) rfl rfl Try.func22 (by kernel_rfl) rfl #[.slice Ao49 t175.length co49] rfl (by (try simp only [List.map_toArray, List.map_cons, List.map_nil]); first | done | rfl | (simp only [List.length_drop, List.length_take]; rfl)) ?_; (with_reducible refine (impl_LowerBytes.calls kj11 _ _ t175 t178 _ ?side1 ?side2 A39.out).mono ?_); (case side1 => repeat (first | exact (Kd.V_reads' HO177.out).2.2 | (with_reducible refine Kd.C_alloc ?_ _) | (with_reducible refine Kd.C_drewN ?_ _) | (with_reducible refine Kd.C_drew ?_))); (case side2 => exact (Kd.V_reads' HO177.out).2.1); rintro e w50 ⟨v179, rfl, ho0, hb⟩; refine ⟨_, rfl, ?_⟩; have n0_ := Aside0.mk (Kd.V_elder' (by (with_reducible repeat (first | apply Kd.V_alloc | apply Kd.V_drewN | apply Kd.V_drew)); exact HO177.out) (Kd.R_base ho0) hb); have n1_ := Aside0.mk (Kd.R_lower ho0 (below_size (by repeat (first | (with_reducible first | exact HB.out | apply below_alloc | apply pw_below_drewN | apply below_drew1) | exact HB.out)))); have n2_ := Aside0.mk (below_step (by repeat (first | (with_reducible first | exact HB.out | apply below_alloc | apply pw_below_drewN | apply below_drew1) | exact HB.out)) hb); clear HO177; clear HB; have HO177 := n0_; have HO180 := n1_; have HB := n2_; clear n0_ n1_ n2_; (try clear hb); (try clear hb2); (try clear hk); (try clear hi); (try clear ho0); have hcv51 := own_string (P := Try.prog) Try.underlying24 Try.underlying5 Try.underlying9 (Kd.own_of_R HO180.out)) | ((with_reducible refine gate_dst (N := 60) rfl ?_); (try (refine gate_guard (by rfl) ?_; dsimp only)); (refine gate_guard (by kernel_rfl) ?_); refine Go.Proofs.YtipmmjbjgbfgjaaX.convL_ (some 60) rfl rfl 9 24 _ rfl a0 rfl ?_; (with_reducible refine (conv24.calls a0 t181 _ A41.out).mono ?_); rintro e w52 ⟨v182, rfl, ho0, hb⟩; refine ⟨_, rfl, ?_⟩; have n0_ := Aside0.mk (Kd.V_below (by (with_reducible repeat (first | apply Kd.V_alloc | apply Kd.V_drewN | apply Kd.V_drew)); exact HO177.out) hb); have n1_ := Aside0.mk (Kd.R_below (by (with_reducible repeat (first | apply Kd.R_alloc | apply Kd.R_drewN | apply Kd.R_drew)); exact HO180.out) hb); have n2_ := Aside0.mk (Kd.V_lower (Kd.V_mono (ok' := fun k_ => some k_ ≠ (v179 : Value).ownBlock) ho0 (fun k_ hk_ => (Kd.fresh' (Kd.R_lt (by (with_reducible repeat (first | apply Kd.R_alloc | apply Kd.R_drewN | apply Kd.R_drew)); exact HO180.out)) k_ hk_))) (below_size (by repeat (first | (with_reducible first | exact HB.out | apply below_alloc | apply pw_below_drewN | apply below_drew1) | exact HB.out)))); have n3_ := Aside0.mk (below_step (by repeat (first | (with_reducible first | exact HB.out | apply below_alloc | apply pw_below_drewN | apply below_drew1) | exact HB.out)) hb); clear HO177; clear HO180; clear HB; have HO177 := n0_; have HO180 := n1_; have HO183 := n2_; have HB := n3_; clear n0_ n1_ n2_ n3_; (try clear hb); (try clear hb2); (try clear hk); (try clear hi); (try clear ho0); obtain ⟨Ao53, co53, eo53⟩ := Kd.V_slice HO183.out; subst eo53) | (go_at_call 23; (with_reducible refine (impl_UpperBytes.calls kj11 _ _ t181 t184 _ ?side1 ?side2 A42.out).mono ?_); (case side1 => repeat (first | exact (Kd.V_reads' HO183.out).2.2 | (with_reducible refine Kd.C_alloc ?_ _) | (with_reducible refine Kd.C_drewN ?_ _) | (with_reducible refine Kd.C_drew ?_))); (case side2 => exact (Kd.V_reads' HO183.out).2.1); rintro e w54 ⟨v185, rfl, ho0, hb⟩; have n0_ := Aside0.mk (Kd.V_elder' (by (with_reducible repeat (first | apply Kd.V_alloc | apply Kd.V_drewN | apply Kd.V_drew)); exact HO177.out) (Kd.R_base ho0) hb); have n1_ := Aside0.mk (Kd.R_elder' (by (with_reducible repeat (first | apply Kd.R_alloc | apply Kd.R_drewN | apply Kd.R_drew)); exact HO180.out) (Kd.R_base ho0) hb); have n2_ := Aside0.mk (Kd.V_elder' (by (with_reducible repeat (first | apply Kd.V_alloc | apply Kd.V_drewN | apply Kd.V_drew)); exact HO183.out) (Kd.R_base ho0) hb); have n3_ := Aside0.mk (Kd.R_lower (Kd.R_new' ho0 (Kd.R_lt (by (with_reducible repeat (first | apply Kd.R_alloc | apply Kd.R_drewN | apply Kd.R_drew)); exact HO180.out))) (below_size (by repeat (first | (with_reducible first | exact HB.out | apply below_alloc | apply pw_below_drewN | apply below_drew1) | exact HB.out)))); have n4_ := Aside0.mk (below_step (by repeat (first | (with_reducible first | exact HB.out | apply below_alloc | apply pw_below_drewN | apply below_drew1) | exact HB.out)) hb); clear HO177; clear HO180; clear HO183; clear HB; have HO177 := n0_; have HO180 := n1_; have HO183 := n2_; have HO186 := n3_; have HB := n4_; clear n0_ n1_ n2_ n3_ n4_; (try clear hb); (try clear hb2); (try clear hk); (try clear hi); (try clear ho0); have hcv55 := own_string (P := Try.prog) Try.underlying24 Try.underlying5 Try.underlying9 (Kd.own_of_R HO186.out)) | ((with_reducible refine gate_dst (N := 68) rfl ?_); (try (refine gate_guard (by rfl) ?_; dsimp only)); (refine gate_guard (by kernel_rfl) ?_); refine Go.Proofs.YtipmmjbjgbfgjaaX.convL_ (some 68) rfl rfl 9 24 _ rfl a0 rfl ?_; (with_reducible refine (conv24.calls a0 t187 _ A44.out).mono ?_); rintro e w56 ⟨v188, rfl, ho0, hb⟩; refine ⟨_, rfl, ?_⟩; have n0_ := Aside0.mk (Kd.V_below (by (with_reducible repeat (first | apply Kd.V_alloc | apply Kd.V_drewN | apply Kd.V_drew)); exact HO177.out) hb); have n1_ := Aside0.mk (Kd.R_below (by (with_reducible repeat (first | apply Kd.R_alloc | apply Kd.R_drewN | apply Kd.R_drew)); exact HO180.out) hb); have n2_ := Aside0.mk (Kd.V_below (by (with_reducible repeat (first | apply Kd.V_alloc | apply Kd.V_drewN | apply Kd.V_drew)); exact HO183.out) hb); have n3_ := Aside0.mk (Kd.R_below (by (with_reducible repeat (first | apply Kd.R_alloc | apply Kd.R_drewN | apply Kd.R_drew)); exact HO186.out) hb); have n4_ := Aside0.mk (Kd.V_lower (Kd.V_mono (ok' := fun k_ => some k_ ≠ (v179 : Value).ownBlock ∧ some k_ ≠ (v185 : Value).ownBlock) ho0 (fun k_ hk_ => ⟨(Kd.fresh' (Kd.R_lt (by (with_reducible repeat (first | apply Kd.R_alloc | apply Kd.R_drewN | apply Kd.R_drew)); exact HO180.out)) k_ hk_), (Kd.fresh' (Kd.R_lt (by (with_reducible repeat (first | apply Kd.R_alloc | apply Kd.R_drewN | apply Kd.R_drew)); exact HO186.out)) k_ hk_)⟩)) (below_size (by repeat (first | (with_reducible first | exact HB.out | apply below_alloc | apply pw_below_drewN | apply below_drew1) | exact HB.out)))); have n5_ := Aside0.mk (below_step (by repeat (first | (with_reducible first | exact HB.out | apply below_alloc | apply pw_below_drewN | apply below_drew1) | exact HB.out)) hb); clear HO177; clear HO180; clear HO183; clear HO186; clear HB; have HO177 := n0_; have HO180 := n1_; have HO183 := n2_; have HO186 := n3_; have HO189 := n4_; have HB := n5_; clear n0_ n1_ n2_ n3_ n4_ n5_; (try clear hb); (try clear hb2); (try clear hk); (try clear hi); (try clear ho0)) | ((with_reducible refine gate_dst (N := 70) rfl ?_); (try (refine gate_guard (by rfl) ?_; dsimp only)); (refine gate_guard (by kernel_rfl) ?_); refine Go.Proofs.YtipmmjbjgbfgjaaX.convL_ (some 70) rfl rfl 9 24 _ rfl a1 rfl ?_; (with_reducible refine (conv24.calls a1 t190 _ A45.out).mono ?_); rintro e w57 ⟨v191, rfl, ho0, hb⟩; refine ⟨_, rfl, ?_⟩; have n0_ := Aside0.mk (Kd.V_below (by (with_reducible repeat (first | apply Kd.V_alloc | apply Kd.V_drewN | apply Kd.V_drew)); exact HO177.out) hb); have n1_ := Aside0.mk (Kd.R_below (by (with_reducible repeat (first | apply Kd.R_alloc | apply Kd.R_drewN | apply Kd.R_drew)); exact HO180.out) hb); have n2_ := Aside0.mk (Kd.V_below (by (with_reducible repeat (first | apply Kd.V_alloc | apply Kd.V_drewN | apply Kd.V_drew)); exact HO183.out) hb); have n3_ := Aside0.mk (Kd.R_below (by (with_reducible repeat (first | apply Kd.R_alloc | apply Kd.R_drewN | apply Kd.R_drew)); exact HO186.out) hb); have n4_ := Aside0.mk (Kd.V_below (by (with_reducible repeat (first | apply Kd.V_alloc | apply Kd.V_drewN | apply Kd.V_drew)); exact HO189.out) hb); have n5_ := Aside0.mk (Kd.V_lower (Kd.V_mono (ok' := fun k_ => some k_ ≠ (v179 : Value).ownBlock ∧ some k_ ≠ (v185 : Value).ownBlock) ho0 (fun k_ hk_ => ⟨(Kd.fresh' (Kd.R_lt (by (with_reducible repeat (first | apply Kd.R_alloc | apply Kd.R_drewN | apply Kd.R_drew)); exact HO180.out)) k_ hk_), (Kd.fresh' (Kd.R_lt (by (with_reducible repeat (first | apply Kd.R_alloc | apply Kd.R_drewN | apply Kd.R_drew)); exact HO186.out)) k_ hk_)⟩)) (below_size (by repeat (first | (with_reducible first | exact HB.out | apply below_alloc | apply pw_below_drewN | apply below_drew1) | exact HB.out)))); have n6_ := Aside0.mk (below_step (by repeat (first | (with_reducible first | exact HB.out | apply below_alloc | apply pw_below_drewN | apply below_drew1) | exact HB.out)) hb); clear HO177; clear HO180; clear HO183; clear HO186; clear HO189; clear HB; have HO177 := n0_; have HO180 := n1_; have HO183 := n2_; have HO186 := n3_; have HO189 := n4_; have HO192 := n5_; have HB := n6_; clear n0_ n1_ n2_ n3_ n4_ n5_ n6_; (try clear hb); (try clear hb2); (try clear hk); (try clear hi); (try clear ho0); obtain ⟨Ao58, co58, eo58⟩ := Kd.V_slice HO189.out; subst eo58; obtain ⟨Ao59, co59, eo59⟩ := Kd.V_slice HO192.out; subst eo59) | (go_at_call 24; (with_reducible refine (impl_FoldBytes.calls kj11 _ _ t187 _ _ t190 t193 _ ?side1 ?side2 ?side3 ?side4 A46.out).mono ?_); (case side1 => repeat (first | exact (Kd.V_reads' HO189.out).2.2 | (with_reducible refine Kd.C_alloc ?_ _) | (with_reducible refine Kd.C_drewN ?_ _) | (with_reducible refine Kd.C_drew ?_))); (case side2 => exact (Kd.V_reads' HO189.out).2.1); (case side3 => repeat (first | exact (Kd.V_reads' HO192.out).2.2 | (with_reducible refine Kd.C_alloc ?_ _) | (with_reducible refine Kd.C_drewN ?_ _) | (with_reducible refine Kd.C_drew ?_))); (case side4 => exact (Kd.V_reads' HO192.out).2.1); rintro e w' ⟨rfl, ⟨nd, rfl⟩⟩) | (go_at_call 21; (with_reducible refine (impl_Fold.calls kj11 a0 a1 t194 _ A47.out).mono ?_); rintro e w' ⟨rfl, ⟨nd, rfl⟩⟩))
                      go_ret
                      exact ⟨by first | rfl | (simp [errW_none, errW_some] <;> rfl) | (simp [*, errW_none, errW_some] <;> rfl), by repeat (first | (with_reducible first | exact HB.out | apply below_alloc | apply pw_below_drewN | apply below_drew1) | exact HB.out)⟩
                    · rw [if_neg c43] at H
                      have c43b0 : ((strOfNums t184).toList == t169.toList) = false := beq_eq_false_iff_ne.mpr c43
                      have c43b1 : ((strOfNums t184).toList != t169.toList) = true := bne_iff_ne.mpr c43
                      obtain rfl := Option.some.inj H
                      go_wp2_with (first | (refine Go.Proofs.YtipmmjbjgbfgjaaX.convL_ (some 53) rfl rfl 9 24 _ rfl a0 rfl ?_; (with_reducible refine (conv24.calls a0 t175 _ A38.out).mono ?_); rintro e w60 ⟨v176, rfl, ho0, hb⟩; refine ⟨_, rfl, ?_⟩; have n0_ := Aside0.mk (Kd.V_lower (Kd.V_mono (ok' := fun k_ => True) ho0 (fun k_ hk_ => trivial)) (below_size (by repeat (first | (with_reducible first | exact HB.out | apply below_alloc | apply pw_below_drewN | apply below_drew1) | exact HB.out)))); have n1_ := Aside0.mk (below_step (by repeat (first | (with_reducible first | exact HB.out | apply below_alloc | apply pw_below_drewN | apply below_drew1) | exact HB.out)) hb); clear HB; have HO177 := n0_; have HB := n1_; clear n0_ n1_; (try clear hb); (try clear hb2); (try clear hk); (try clear hi); (try clear ho0); obtain ⟨Ao61, co61, eo61⟩ := Kd.V_slice HO177.out; subst eo61) | ((with_reducible refine gate_callee (f := 22) rfl ?_); refine goesL_ (some 54) rfl rfl Try.func22 (by kernel_rfl) rfl #[.slice Ao61 t175.length co61] rfl (by (try simp only [List.map_toArray, List.map_cons, List.map_nil]); first | done | rfl | (simp only [List.length_drop, List.length_take]; rfl)) ?_; (with_reducible refine (impl_LowerBytes.calls kj11 _ _ t175 t178 _ ?side1 ?side2 A39.out).mono ?_); (case side1 => repeat (first | exact (Kd.V_reads' HO177.out).2.2 | (with_reducible refine Kd.C_alloc ?_ _) | (with_reducible refine Kd.C_drewN ?_ _) | (with_reducible refine Kd.C_drew ?_))); (case side2 => exact (Kd.V_reads' HO177.out).2.1); rintro e w62 ⟨v179, rfl, ho0, hb⟩; refine ⟨_, rfl, ?_⟩; have n0_ := Aside0.mk (Kd.V_elder' (by (with_reducible repeat (first | apply Kd.V_alloc | apply Kd.V_drewN | apply Kd.V_drew)); exact HO177.out) (Kd.R_base ho0) hb); have n1_ := Aside0.mk (Kd.R_lower ho0 (below_size (by repeat (first | (with_reducible first | exact HB.out | apply below_alloc | apply pw_below_drewN | apply below_drew1) | exact HB.out)))); have n2_ := Aside0.mk (below_step (by repeat (first | (with_reducible first | exact HB.out | apply below_alloc | apply pw_below_drewN | apply below_drew1) | exact HB.out)) hb); clear HO177; clear HB; have HO177 := n0_; have HO180 := n1_; have HB := n2_; clear n0_ n1_ n2_; (try clear hb); (try clear hb2); (try clear hk); (try clear hi); (try clear ho0); have hcv63 := own_string (P := Try.prog) Try.underlying24 Try.underlying5 Try.underlying9 (Kd.own_of_R HO180.out)) | ((with_reducible refine gate_dst (N := 60) rfl ?_); (try (refine gate_guard (by rfl) ?_; dsimp only)); (refine gate_guard (by kernel_rfl) ?_); refine Go.Proofs.YtipmmjbjgbfgjaaX.convL_ (some 60) rfl rfl 9 24 _ rfl a0 rfl ?_; (with_reducible refine (conv24.calls a0 t181 _ A41.out).mono ?_); rintro e w64 ⟨v182, rfl, ho0, hb⟩; refine ⟨_, rfl, ?_⟩; have n0_ := Aside0.mk (Kd.V_below (by (with_reducible repeat (first | apply Kd.V_alloc | apply Kd.V_drewN | apply Kd.V_drew)); exact HO177.out) hb); have n1_ := Aside0.mk (Kd.R_below (by (with_reducible repeat (first | apply Kd.R_alloc | apply Kd.R_drewN | apply Kd.R_drew)); exact HO180.out) hb); have n2_ := Aside0.mk (Kd.V_lower (Kd.V_mono (ok' := fun k_ => some k_ ≠ (v179 : Value).ownBlock) ho0 (fun k_ hk_ => (Kd.fresh' (Kd.R_lt (by (with_reducible repeat (first | apply Kd.R_alloc | apply Kd.R_drewN | apply Kd.R_drew)); exact HO180.out)) k_ hk_))) (below_size (by repeat (first | (with_reducible first | exact HB.out | apply below_alloc | apply pw_below_drewN | apply below_drew1) | exact HB.out)))); have n3_ := Aside0.mk (below_step (by repeat (first | (with_reducible first | exact HB.out | apply below_alloc | apply pw_below_drewN | apply below_drew1) | exact HB.out)) hb); clear HO177; clear HO180; clear HB; have HO177 := n0_; have HO180 := n1_; have HO183 := n2_; have HB := n3_; clear n0_ n1_ n2_ n3_; (try clear hb); (try clear hb2); (try clear hk); (try clear hi); (try clear ho0); obtain ⟨Ao65, co65, eo65⟩ := Kd.V_slice HO183.out; subst eo65) | (go_at_call 23; (with_reducible refine (impl_UpperBytes.calls kj11 _ _ t181 t184 _ ?side1 ?side2 A42.out).mono ?_); (case side1 => repeat (first | exact (Kd.V_reads' HO183.out).2.2 | (with_reducible refine Kd.C_alloc ?_ _) | (with_reducible refine Kd.C_drewN ?_ _) | (with_reducible refine Kd.C_drew ?_))); (case side2 => exact (Kd.V_reads' HO183.out).2.1); rintro e w66 ⟨v185, rfl, ho0, hb⟩; have n0_ := Aside0.mk (Kd.V_elder' (by (with_reducible repeat (first | apply Kd.V_alloc | apply Kd.V_drewN | apply Kd.V_drew)); exact HO177.out) (Kd.R_base ho0) hb); have n1_ := Aside0.mk (Kd.R_elder' (by (with_reducible repeat (first | apply Kd.R_alloc | apply Kd.R_drewN | apply Kd.R_drew)); exact HO180.out) (Kd.R_base ho0) hb); have n2_ := Aside0.mk (Kd.V_elder' (by (with_reducible repeat (first | apply Kd.V_alloc | apply Kd.V_drewN | apply Kd.V_drew)); exact HO183.out) (Kd.R_base ho0) hb); have n3_ := Aside0.mk (Kd.R_lower (Kd.R_new' ho0 (Kd.R_lt (by (with_reducible repeat (first | apply Kd.R_alloc | apply Kd.R_drewN | apply Kd.R_drew)); exact HO180.out))) (below_size (by repeat (first | (with_reducible first | exact HB.out | apply below_alloc | apply pw_below_drewN | apply below_drew1) | exact HB.out)))); have n4_ := Aside0.mk (below_step (by repeat (first | (with_reducible first | exact HB.out | apply below_alloc | apply pw_below_drewN | apply below_drew1) | exact HB.out)) hb); clear HO177; clear HO180; clear HO183; clear HB; have HO177 := n0_; have HO180 := n1_; have HO183 := n2_; have HO186 := n3_; have HB := n4_; clear n0_ n1_ n2_ n3_ n4_; (try clear hb); (try clear hb2); (try clear hk); (try clear hi); (try clear ho0); have hcv67 := own_string (P := Try.prog) Try.underlying24 Try.underlying5 Try.underlying9 (Kd.own_of_R HO186.out)))
                      go_ret
                      exact ⟨by first | rfl | (simp [errW_none, errW_some] <;> rfl) | (simp [*, errW_none, errW_some] <;> rfl), by repeat (first | (with_reducible first | exact HB.out | apply below_alloc | apply pw_below_drewN | apply below_drew1) | exact HB.out)⟩
                  · rw [if_neg c40] at H
                    have c40b0 : ((strOfNums t178).toList == t168.toList) = false := beq_eq_false_iff_ne.mpr c40
                    have c40b1 : ((strOfNums t178).toList != t168.toList) = true := bne_iff_ne.mpr c40
                    obtain rfl := Option.some.inj H
                    go_wp2_with (first | (refine Go.Proofs.YtipmmjbjgbfgjaaX.convL_ (some 53) rfl rfl 9 24 _ rfl a0 rfl ?_; (with_reducible refine (conv24.calls a0 t175 _ A38.out).mono ?_); rintro e w68 ⟨v176, rfl, ho0, hb⟩; refine ⟨_, rfl, ?_⟩; have n0_ := Aside0.mk (Kd.V_lower (Kd.V_mono (ok' := fun k_ => True) ho0 (fun k_ hk_ => trivial)) (below_size (by repeat (first | (with_reducible first | exact HB.out | apply below_alloc | apply pw_below_drewN | apply below_drew1) | exact HB.out)))); have n1_ := Aside0.mk (below_step (by repeat (first | (with_reducible first | exact HB.out | apply below_alloc | apply pw_below_drewN | apply below_drew1) | exact HB.out)) hb); clear HB; have HO177 := n0_; have HB := n1_; clear n0_ n1_; (try clear hb); (try clear hb2); (try clear hk); (try clear hi); (try clear ho0); obtain ⟨Ao69, co69, eo69⟩ := Kd.V_slice HO177.out; subst eo69) | ((with_reducible refine gate_callee (f := 22) rfl ?_); refine goesL_ (some 54) rfl rfl Try.func22 (by kernel_rfl) rfl #[.slice Ao69 t175.length co69] rfl (by (try simp only [List.map_toArray, List.map_cons, List.map_nil]); first | done | rfl | (simp only [List.length_drop, List.length_take]; rfl)) ?_; (with_reducible refine (impl_LowerBytes.calls kj11 _ _ t175 t178 _ ?side1 ?side2 A39.out).mono ?_); (case side1 => repeat (first | exact (Kd.V_reads' HO177.out).2.2 | (with_reducible refine Kd.C_alloc ?_ _) | (with_reducible refine Kd.C_drewN ?_ _) | (with_reducible refine Kd.C_drew ?_))); (case side2 => exact (Kd.V_reads' HO177.out).2.1); rintro e w70 ⟨v179, rfl, ho0, hb⟩; refine ⟨_, rfl, ?_⟩; have n0_ := Aside0.mk (Kd.V_elder' (by (with_reducible repeat (first | apply Kd.V_alloc | apply Kd.V_drewN | apply Kd.V_drew)); exact HO177.out) (Kd.R_base ho0) hb); have n1_ := Aside0.mk (Kd.R_lower ho0 (below_size (by repeat (first | (with_reducible first | exact HB.out | apply below_alloc | apply pw_below_drewN | apply below_drew1) | exact HB.out)))); have n2_ := Aside0.mk (below_step (by repeat (first | (with_reducible first | exact HB.out | apply below_alloc | apply pw_below_drewN | apply below_drew1) | exact HB.out)) hb); clear HO177; clear HB; have HO177 := n0_; have HO180 := n1_; have HB := n2_; clear n0_ n1_ n2_; (try clear hb); (try clear hb2); (try clear hk); (try clear hi); (try clear ho0); have hcv71 := own_string (P := Try.prog) Try.underlying24 Try.underlying5 Try.underlying9 (Kd.own_of_R HO180.out)))
                    go_ret
                    exact ⟨by first | rfl | (simp [errW_none, errW_some] <;> rfl) | (simp [*, errW_none, errW_some] <;> rfl), by repeat (first | (with_reducible first | exact HB.out | apply below_alloc | apply pw_below_drewN | apply below_drew1) | exact HB.out)⟩
          · replace c9 := Bool.eq_false_iff.mpr c9
            subst c9
            have H1 : (some true) = some r := by rw [if_neg (show ¬ (false = true) by decide)] at H; exact H
            clear H
            have H := H1
            clear H1
            obtain rfl := Option.some.inj H
            go_wp2_with (first | ((with_reducible refine gate_callee (f := 17) rfl ?_); refine goesL_ (some 15) rfl rfl Try.func17 (by kernel_rfl) rfl #[] rfl (by (try simp only [List.map_toArray, List.map_cons, List.map_nil]); first | done | rfl | (simp only [List.length_drop, List.length_take]; rfl)) ?_; (with_reducible refine (laws_lowers.calls kj2  true _ A6.out).mono ?_); rintro e w72 ⟨rfl, hb⟩; refine ⟨_, rfl, ?_⟩; have n0_ := Aside0.mk (below_step (by repeat (first | (with_reducible first | exact HB.out | apply below_alloc | apply pw_below_drewN | apply below_drew1) | exact HB.out)) hb); clear HB; have HB := n0_; clear n0_; (try clear hb); (try clear hb2); (try clear hk); (try clear hi)) | ((with_reducible refine gate_dst (N := 19) rfl ?_); (try (refine gate_guard (by rfl) ?_; dsimp only)); refine Kd.R_lit Kd.string _ 9 ?hg (N := 19) ?hd (xs := ([a0, a1] : List ByteArray)) (inner := [.string a0, .string a1]) (ok := fun _ => True) (okp := fun _ => True) ?hr ?hp (fun _ hk => hk) trivial (Below.refl _ _) (Nat.le_refl _) (by simp) ?_; (case hd => rfl); (case hg => rfl); (case hr => first | (go_simp; done) | (go_simp; rfl)); (case hp => exact (Reps.one (show Kd.M Kd.string _ _ _ a0 [.string a0] from rfl) (Reps.one (show Kd.M Kd.string _ _ _ a1 [.string a1] from rfl) (Reps.none _ _)))); intro v165 w73 ho74 hb hg_ hnew_; clear hg_ hnew_; (first | rw [← Ny164.out] at ho74 | (simp only [Int.reduceToNat] at ho74; rw [← Ny164.out] at ho74)); have n0_ := Aside0.mk (Kd.R_lower ho74 (below_size (by repeat (first | (with_reducible first | exact HB.out | apply below_alloc | apply pw_below_drewN | apply below_drew1) | exact HB.out)))); have n1_ := Aside0.mk (below_step (by repeat (first | (with_reducible first | exact HB.out | apply below_alloc | apply pw_below_drewN | apply below_drew1) | exact HB.out)) hb); clear HB; have HO166 := n0_; have HB := n1_; clear n0_ n1_; clear hb ho74; obtain ⟨Ao75, co75, eo75⟩ := Kd.R_slice HO166.out; subst eo75) | ((with_reducible refine gate_callee (f := 13) rfl ?_); refine goesL_ (some 20) rfl rfl Try.func13 (by kernel_rfl) rfl #[.slice Ao75 y164.length co75] rfl (by (try simp only [List.map_toArray, List.map_cons, List.map_nil]); first | done | rfl | (simp only [List.length_drop, List.length_take]; rfl)) ?_; (with_reducible refine (laws_short.calls kj2 _ _ y164 false _ ?side1 ?side2 A8.out).mono ?_); (case side1 => repeat (first | exact (Kd.R_reads' HO166.out).2.2 | (with_reducible refine Kd.C_alloc ?_ _) | (with_reducible refine Kd.C_drewN ?_ _) | (with_reducible refine Kd.C_drew ?_))); (case side2 => exact (Kd.R_reads' HO166.out).2.1); rintro e w' ⟨rfl, ⟨nd, rfl⟩⟩; refine ⟨_, rfl, ?_⟩))
            go_ret
            exact ⟨by first | rfl | (simp [errW_none, errW_some] <;> rfl) | (simp [*, errW_none, errW_some] <;> rfl), by repeat (first | (with_reducible first | exact HB.out | apply below_alloc | apply pw_below_drewN | apply below_drew1) | exact HB.out)⟩
        · replace c7 := Bool.eq_false_iff.mpr c7
          subst c7
          have H1 : (some false) = some r := by rw [if_neg (show ¬ (false = true) by decide)] at H; exact H
          clear H
          have H := H1
          clear H1
          obtain rfl := Option.some.inj H
          go_wp2_with (first | ((with_reducible refine gate_callee (f := 17) rfl ?_); refine goesL_ (some 15) rfl rfl Try.func17 (by kernel_rfl) rfl #[] rfl (by (try simp only [List.map_toArray, List.map_cons, List.map_nil]); first | done | rfl | (simp only [List.length_drop, List.length_take]; rfl)) ?_; (with_reducible refine (laws_lowers.calls kj2  false _ A6.out).mono ?_); rintro e w76 ⟨rfl, hb⟩; refine ⟨_, rfl, ?_⟩; have n0_ := Aside0.mk (below_step (by repeat (first | (with_reducible first | exact HB.out | apply below_alloc | apply pw_below_drewN | apply below_drew1) | exact HB.out)) hb); clear HB; have HB := n0_; clear n0_; (try clear hb); (try clear hb2); (try clear hk); (try clear hi)))
          go_ret
          exact ⟨by first | rfl | (simp [errW_none, errW_some] <;> rfl) | (simp [*, errW_none, errW_some] <;> rfl), by repeat (first | (with_reducible first | exact HB.out | apply below_alloc | apply pw_below_drewN | apply below_drew1) | exact HB.out)⟩

/-- THE ONE PURE STATEMENT of laws_FnLetters: yours. -/
def laws_FnLetters.Pure : Prop := ∀ (a0 : ByteArray) (a1 : ByteArray), a0.size ≤ 140737488351232 → a1.size ≤ 140737488351232 → ∃ k, laws_FnLetters.f k a0 a1 = some true
theorem laws_FnLetters.walk (P : laws_FnLetters.Pure) (a0 : ByteArray) (a1 : ByteArray) (w : World) (w0 : a0.size ≤ 140737488351232) (w1 : a1.size ≤ 140737488351232) :
    Calls Try.prog 4 #[.string a0, .string a1] w fun e w' => e = .returned (.bool true) ∧ Below w.heap.size w w' := by
  obtain ⟨k, h⟩ := P a0 a1 w0 w1
  refine (laws_FnLetters.calls k a0 a1 true w h).mono ?_
  rintro e w' ⟨rfl, hd⟩
  exact ⟨rfl, hd⟩

end Go.Proofs.Ytipmmjbjgbfgjaa.Q
