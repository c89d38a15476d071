-- Written by a program of this session out of the translation, with the kit's printer. Not trusted: Lean checks it.
import Derived.Test.YtipmmjbjgbfgjaaDoorQ0
import Derived.Test.YtipmmjbjgbfgjaaDoorQ2
import Derived.Test.YtipmmjbjgbfgjaaDoorQ4
import Derived.Test.YtipmmjbjgbfgjaaDoorQ5
import Derived.Test.YtipmmjbjgbfgjaaDoorQ6
import Derived.Test.YtipmmjbjgbfgjaaDoorQ8
import Derived.Test.YtipmmjbjgbfgjaaDoorQ9
import Derived.Test.YtipmmjbjgbfgjaaDoorQ11
import Derived.Test.YtipmmjbjgbfgjaaDoorQ14
namespace Go.Proofs.YtipmmjbjgbfgjaaDoor.Q
open Go.RowKit Go.Proofs.YtipmmjbjgbfgjaaDoorW.PrintWords Go.Proofs.YtipmmjbjgbfgjaaDoorW.PrintLast Go.Proofs.YtipmmjbjgbfgjaaDoorW.PrintMore
attribute [local go_sem] max2_int min2_int max_two min_two max_three min_three max_four min_four   -- for this text's walks alone
set_option linter.unusedVariables false
set_option linter.unusedSimpArgs false

/-! ### laws_FnUintSays: function 4 -/
mutual
def laws_FnUintSays.j0 : Nat → ByteArray → Int → Int → Bool → Option (Bool)
  | 0, _, _, _, _ => none
  | k + 1, x0, x1, x2, x37 => if x37 = true then (some false) else ((laws_short.f k (([x0] : List ByteArray))).bind fun t137 => (if t137 = true then ((spec_UintOf.f k x0).bind fun bt138 => ((impl_UintOf.f x0).bind fun bt140 => ((laws_told.f bt140.2 bt138.2).bind fun t142 => (if t142 = true then (if bt138.2 = 1 then (laws_FnUintSays.j1 k x0 x1 x2 (bt138.1 != bt140.1)) else (laws_FnUintSays.j1 k x0 x1 x2 false)) else (laws_FnUintSays.j1 k x0 x1 x2 true))))) else (some true)))
def laws_FnUintSays.j1 : Nat → ByteArray → Int → Int → Bool → Option (Bool)
  | 0, _, _, _, _ => none
  | k + 1, x0, x1, x2, x64 => if x64 = true then (some false) else ((spec_UintAhead.f k x0).bind fun bt143 => ((impl_UintAhead.f x0).bind fun bt146 => ((laws_told.f bt146.2.2 bt143.2.2).bind fun t149 => (if t149 = true then (if bt143.2.2 = 1 then (if bt143.1 = bt146.1 then (laws_FnUintSays.j2 k x1 x2 (bt143.2.1 != bt146.2.1)) else (laws_FnUintSays.j2 k x1 x2 true)) else (laws_FnUintSays.j2 k x1 x2 false)) else (laws_FnUintSays.j2 k x1 x2 true)))))
def laws_FnUintSays.j2 : Nat → Int → Int → Bool → Option (Bool)
  | 0, _, _, _ => none
  | k + 1, x1, x2, x94 => if x94 = true then (some false) else ((spec_UintText.f k x1).bind fun bt150 => ((impl_UintText.f x1).bind fun bt152 => ((spec_HexText.f k x2).bind fun bt154 => ((impl_HexText.f k x2).bind fun bt156 => (if bt150.1.toList = bt152.1.toList then (if (bt150.2 == bt152.2) = true then (if bt154.1.toList = bt156.1.toList then (some (bt154.2 == bt156.2)) else (some false)) else (some false)) else (some false))))))
end
def laws_FnUintSays.f (k : Nat) (a0 : ByteArray) (a1 : Int) (a2 : Int) : Option (Bool) := if (a0.size : Int) > 2147483647 then (some true) else ((impl_UintOf.f (⟨#[49, 50]⟩ : ByteArray)).bind fun bt132 => (if bt132.2 = true then (laws_FnUintSays.j0 k a0 a1 a2 (bt132.1 != 12)) else (laws_FnUintSays.j0 k a0 a1 a2 true)))
theorem laws_FnUintSays.mono_l : ∀ k, (∀ y0 y1 y2 y3, LeO (laws_FnUintSays.j0 k y0 y1 y2 y3) (laws_FnUintSays.j0 (k + 1) y0 y1 y2 y3)) ∧ (∀ y0 y1 y2 y3, LeO (laws_FnUintSays.j1 k y0 y1 y2 y3) (laws_FnUintSays.j1 (k + 1) y0 y1 y2 y3)) ∧ (∀ y0 y1 y2, LeO (laws_FnUintSays.j2 k y0 y1 y2) (laws_FnUintSays.j2 (k + 1) y0 y1 y2))
  | 0 => ⟨fun _ _ _ _ r h => by simp [laws_FnUintSays.j0] at h, fun _ _ _ _ r h => by simp [laws_FnUintSays.j1] at h, fun _ _ _ r h => by simp [laws_FnUintSays.j2] at h⟩
  | k + 1 => by
    obtain ⟨ih0, ih1, ih2⟩ := laws_FnUintSays.mono_l k
    refine ⟨?_, ?_, ?_⟩
    · intro y0 y1 y2 y3
      unfold laws_FnUintSays.j0
      repeat' first
      | (with_reducible exact ih0 _ _ _ _)
      | (with_reducible exact ih1 _ _ _ _)
      | (with_reducible exact ih2 _ _ _)
      | (with_reducible exact impl_HexText.mono _ _)
      | (with_reducible exact laws_short.mono _ _)
      | (with_reducible exact spec_HexText.mono _ _)
      | (with_reducible exact spec_UintAhead.mono _ _)
      | (with_reducible exact spec_UintOf.mono _ _)
      | (with_reducible exact spec_UintText.mono _ _)
      | (with_reducible exact LeO.refl _)
      | (with_reducible exact LeO.none _)
      | (with_reducible refine LeO.ite ?_ ?_)
      | (with_reducible refine LeO.bind ?_ (fun _ => ?_))
      | exact ih0 _ _ _ _
      | exact ih1 _ _ _ _
      | exact ih2 _ _ _
      | exact impl_HexText.mono _ _
      | exact laws_short.mono _ _
      | exact spec_HexText.mono _ _
      | exact spec_UintAhead.mono _ _
      | exact spec_UintOf.mono _ _
      | exact spec_UintText.mono _ _
      | exact LeO.none _
      | refine LeO.ite ?_ ?_
      | refine LeO.bind ?_ (fun _ => ?_)
    · intro y0 y1 y2 y3
      unfold laws_FnUintSays.j1
      repeat' first
      | (with_reducible exact ih0 _ _ _ _)
      | (with_reducible exact ih1 _ _ _ _)
      | (with_reducible exact ih2 _ _ _)
      | (with_reducible exact impl_HexText.mono _ _)
      | (with_reducible exact laws_short.mono _ _)
      | (with_reducible exact spec_HexText.mono _ _)
      | (with_reducible exact spec_UintAhead.mono _ _)
      | (with_reducible exact spec_UintOf.mono _ _)
      | (with_reducible exact spec_UintText.mono _ _)
      | (with_reducible exact LeO.refl _)
      | (with_reducible exact LeO.none _)
      | (with_reducible refine LeO.ite ?_ ?_)
      | (with_reducible refine LeO.bind ?_ (fun _ => ?_))
      | exact ih0 _ _ _ _
      | exact ih1 _ _ _ _
      | exact ih2 _ _ _
      | exact impl_HexText.mono _ _
      | exact laws_short.mono _ _
      | exact spec_HexText.mono _ _
      | exact spec_UintAhead.mono _ _
      | exact spec_UintOf.mono _ _
      | exact spec_UintText.mono _ _
      | exact LeO.none _
      | refine LeO.ite ?_ ?_
      | refine LeO.bind ?_ (fun _ => ?_)
    · intro y0 y1 y2
      unfold laws_FnUintSays.j2
      repeat' first
      | (with_reducible exact ih0 _ _ _ _)
      | (with_reducible exact ih1 _ _ _ _)
      | (with_reducible exact ih2 _ _ _)
      | (with_reducible exact impl_HexText.mono _ _)
      | (with_reducible exact laws_short.mono _ _)
      | (with_reducible exact spec_HexText.mono _ _)
      | (with_reducible exact spec_UintAhead.mono _ _)
      | (with_reducible exact spec_UintOf.mono _ _)
      | (with_reducible exact spec_UintText.mono _ _)
      | (with_reducible exact LeO.refl _)
      | (with_reducible exact LeO.none _)
      | (with_reducible refine LeO.ite ?_ ?_)
      | (with_reducible refine LeO.bind ?_ (fun _ => ?_))
      | exact ih0 _ _ _ _
      | exact ih1 _ _ _ _
      | exact ih2 _ _ _
      | exact impl_HexText.mono _ _
      | exact laws_short.mono _ _
      | exact spec_HexText.mono _ _
      | exact spec_UintAhead.mono _ _
      | exact spec_UintOf.mono _ _
      | exact spec_UintText.mono _ _
      | exact LeO.none _
      | refine LeO.ite ?_ ?_
      | refine LeO.bind ?_ (fun _ => ?_)
theorem laws_FnUintSays.mono : ∀ a0 a1 a2 k, LeO (laws_FnUintSays.f k a0 a1 a2) (laws_FnUintSays.f (k + 1) a0 a1 a2) := by
  intro a0 a1 a2 k
  obtain ⟨ih0, ih1, ih2⟩ := laws_FnUintSays.mono_l k
  unfold laws_FnUintSays.f
  repeat' first
      | (with_reducible exact ih0 _ _ _ _)
      | (with_reducible exact ih1 _ _ _ _)
      | (with_reducible exact ih2 _ _ _)
      | (with_reducible exact impl_HexText.mono _ _)
      | (with_reducible exact laws_short.mono _ _)
      | (with_reducible exact spec_HexText.mono _ _)
      | (with_reducible exact spec_UintAhead.mono _ _)
      | (with_reducible exact spec_UintOf.mono _ _)
      | (with_reducible exact spec_UintText.mono _ _)
      | (with_reducible exact LeO.refl _)
      | (with_reducible exact LeO.none _)
      | (with_reducible refine LeO.ite ?_ ?_)
      | (with_reducible refine LeO.bind ?_ (fun _ => ?_))
      | exact ih0 _ _ _ _
      | exact ih1 _ _ _ _
      | exact ih2 _ _ _
      | exact impl_HexText.mono _ _
      | exact laws_short.mono _ _
      | exact spec_HexText.mono _ _
      | exact spec_UintAhead.mono _ _
      | exact spec_UintOf.mono _ _
      | exact spec_UintText.mono _ _
      | exact LeO.none _
      | refine LeO.ite ?_ ?_
      | refine LeO.bind ?_ (fun _ => ?_)
set_option maxHeartbeats 8000000 in
set_option maxRecDepth 100000 in
theorem laws_FnUintSays.calls (k : Nat) (a0 : ByteArray) (a1 : Int) (a2 : Int) (r : Bool) (w : World) (hL_ : LaidD w) (h : laws_FnUintSays.f k a0 a1 a2 = some r) :
    Calls Tryd.prog 4 #[.string a0, .int .i64 a1, .int .u64 a2] w fun e w' => e = .returned (.bool r) ∧ Below w.heap.size w w' := by
  have HB := Aside0.mk (Below.refl w.heap.size w)
  have HLD_ := Aside0.mk hL_
  clear hL_
  have H : (if (a0.size : Int) > 2147483647 then (some true) else ((impl_UintOf.f (⟨#[49, 50]⟩ : ByteArray)).bind fun bt132 => (if bt132.2 = true then (laws_FnUintSays.j0 k a0 a1 a2 (bt132.1 != 12)) else (laws_FnUintSays.j0 k a0 a1 a2 true)))) = some r := h
  clear h
  by_cases c4 : (a0.size : Int) > 2147483647
  · rw [if_pos c4] at H
    have c4b0 : decide (2147483647 < (a0.size : Int)) = true := decide_eq_true c4
    have c4b1 : decide (2147483647 < a0.size) = true := decide_eq_true (by omega)
    clear c4
    obtain rfl := Option.some.inj H
    go_enter Tryd.func4, Tryd.ntmps4
    go_wp2
    go_ret
    exact ⟨by first | rfl | (simp [errW_none, errW_some] <;> rfl) | (simp [*, errW_none, errW_some] <;> rfl), by repeat (first | (with_reducible first | exact HB.out | apply below_alloc | apply pw_below_drewN | apply below_drew1) | exact HB.out)⟩
  · rw [if_neg c4] at H
    have c4b0 : decide (2147483647 < (a0.size : Int)) = false := decide_eq_false c4
    have c4b1 : decide (2147483647 < a0.size) = false := decide_eq_false (by omega)
    clear c4
    replace H := Option.bind_eq_some_iff.mp H
    obtain ⟨⟨t132, t133⟩, A50, H⟩ := H
    replace H : (if t133 = true then (laws_FnUintSays.j0 k a0 a1 a2 (t132 != 12)) else (laws_FnUintSays.j0 k a0 a1 a2 true)) = some r := H
    have A5 := Aside0.mk A50
    clear A50
    have HC6 := Aside0.mk H
    clear H
    go_enter Tryd.func4, Tryd.ntmps4
    go_upto_region 4 with (first | ((with_reducible refine gate_callee (f := 5) rfl ?_); refine goesL_ (some 29) rfl rfl Tryd.func5 (by kernel_rfl) rfl #[.string (⟨#[49, 50]⟩ : ByteArray)] rfl (by (try simp only [List.map_toArray, List.map_cons, List.map_nil]); first | done | rfl | (simp only [List.length_drop, List.length_take]; rfl)) ?_; (with_reducible refine (impl_UintOf.calls (⟨#[49, 50]⟩ : ByteArray) t132 t133 _ A5.out (HLD_.out.below (by repeat (first | (with_reducible first | exact HB.out | apply below_alloc | apply pw_below_drewN | apply below_drew1) | exact HB.out)) (Nat.le_refl _))).mono ?_); rintro e w7 ⟨rfl, hb⟩; refine ⟨_, rfl, ?_⟩; have n0_ := Aside0.mk (below_step (by repeat (first | (with_reducible first | exact HB.out | apply below_alloc | apply pw_below_drewN | apply below_drew1) | exact HB.out)) hb); clear HB; have HB := n0_; clear n0_; (try clear hb); (try clear hb2); (try clear hk); (try clear hi)))
    (try simp only [Act.put, List.setIfInBounds_toArray, List.set_cons_zero, List.set_cons_succ])
    go_cut [37] (fun v37 wc => ∃ (kq : Nat) (x37_5 : Bool), v37 = .bool x37_5 ∧ Aside0 (laws_FnUintSays.j0 kq a0 a1 a2 x37_5 = some r) ∧ Aside0 (kq ≤ k) ∧ Aside0 (Below w.heap.size w wc))
    case first =>
      have H := HC6.out
      clear HC6
      by_cases c8 : t133 = true
      · subst c8
        have H1 : (laws_FnUintSays.j0 k a0 a1 a2 (t132 != 12)) = some r := by rw [if_pos rfl] at H; exact H
        clear H
        have H := H1
        clear H1
        have H' := Aside0.mk H
        clear H
        go_wp2
        go_meet
        case rel => exact ⟨_, ((t132 != 12)), (by first | rfl | (simp; done) | (simp [*]; done) | (simp [Go.Proofs.YtipmmjbjgbfgjaaDoorX.isEmpty_ne]; done)), H', ⟨by first | omega | exact Nat.le_refl _⟩, ⟨by repeat (first | (with_reducible first | exact HB.out | apply below_alloc | apply pw_below_drewN | apply below_drew1) | exact HB.out)⟩⟩
      · replace c8 := Bool.eq_false_iff.mpr c8
        subst c8
        have H1 : (laws_FnUintSays.j0 k a0 a1 a2 true) = some r := by rw [if_neg (show ¬ (false = true) by decide)] at H; exact H
        clear H
        have H := H1
        clear H1
        have H' := Aside0.mk H
        clear H
        go_wp2
        go_meet
        case rel => exact ⟨_, (true), (by first | rfl | (simp; done) | (simp [*]; done) | (simp [Go.Proofs.YtipmmjbjgbfgjaaDoorX.isEmpty_ne]; done)), H', ⟨by first | omega | exact Nat.le_refl _⟩, ⟨by repeat (first | (with_reducible first | exact HB.out | apply below_alloc | apply pw_below_drewN | apply below_drew1) | exact HB.out)⟩⟩
    case rest =>
      clear HC6
      try clear p2
      try clear c4
      try clear c4b0
      try clear c4b1
      try clear c5
      try clear c8
      obtain ⟨kq, x37_5, rfl, HA, HJ5, HB⟩ := hcut
      cases kq with
      | zero => exact absurd HA.out (by simp [laws_FnUintSays.j0])
      | succ kj5 =>
        have H := HA.out
        clear HA
        simp only [laws_FnUintSays.j0] at H
        by_cases c9 : x37_5 = true
        · subst c9
          have H1 : (some false) = some r := by rw [if_pos rfl] at H; exact H
          clear H
          have H := H1
          clear H1
          obtain rfl := Option.some.inj H
          go_wp2
          go_ret
          exact ⟨by first | rfl | (simp [errW_none, errW_some] <;> rfl) | (simp [*, errW_none, errW_some] <;> rfl), by repeat (first | (with_reducible first | exact HB.out | apply below_alloc | apply pw_below_drewN | apply below_drew1) | exact HB.out)⟩
        · replace c9 := Bool.eq_false_iff.mpr c9
          subst c9
          have H1 : ((laws_short.f kj5 (([a0] : List ByteArray))).bind fun t137 => (if t137 = true then ((spec_UintOf.f kj5 a0).bind fun bt138 => ((impl_UintOf.f a0).bind fun bt140 => ((laws_told.f bt140.2 bt138.2).bind fun t142 => (if t142 = true then (if bt138.2 = 1 then (laws_FnUintSays.j1 kj5 a0 a1 a2 (bt138.1 != bt140.1)) else (laws_FnUintSays.j1 kj5 a0 a1 a2 false)) else (laws_FnUintSays.j1 kj5 a0 a1 a2 true))))) else (some true))) = some r := by rw [if_neg (show ¬ (false = true) by decide)] at H; exact H
          clear H
          have H := H1
          clear H1
          obtain ⟨y134, hy134⟩ : ∃ y_ : List ByteArray, y_ = (([a0] : List ByteArray)) := ⟨_, rfl⟩
          replace H : ((laws_short.f kj5 y134).bind fun t137 => (if t137 = true then ((spec_UintOf.f kj5 a0).bind fun bt138 => ((impl_UintOf.f a0).bind fun bt140 => ((laws_told.f bt140.2 bt138.2).bind fun t142 => (if t142 = true then (if bt138.2 = 1 then (laws_FnUintSays.j1 kj5 a0 a1 a2 (bt138.1 != bt140.1)) else (laws_FnUintSays.j1 kj5 a0 a1 a2 false)) else (laws_FnUintSays.j1 kj5 a0 a1 a2 true))))) else (some true))) = some r := by first | (rw [hy134]; with_reducible exact H) | (have H2_ := (Option.bind_some _ _).symm.trans H; rw [hy134]; with_reducible exact H2_) | (have H2_ := (Option.bind_some _ _).symm.trans H; with_reducible exact H2_) | with_reducible exact H | (rw [hy134]; exact H) | exact H
          have Ny134 := Aside0.mk hy134
          clear hy134
          replace H := Option.bind_eq_some_iff.mp H
          obtain ⟨t137, A100, H⟩ := H
          replace H : (if t137 = true then ((spec_UintOf.f kj5 a0).bind fun bt138 => ((impl_UintOf.f a0).bind fun bt140 => ((laws_told.f bt140.2 bt138.2).bind fun t142 => (if t142 = true then (if bt138.2 = 1 then (laws_FnUintSays.j1 kj5 a0 a1 a2 (bt138.1 != bt140.1)) else (laws_FnUintSays.j1 kj5 a0 a1 a2 false)) else (laws_FnUintSays.j1 kj5 a0 a1 a2 true))))) else (some true)) = some r := H
          have A10 := Aside0.mk A100
          clear A100
          by_cases c11 : t137 = true
          · subst c11
            have H1 : ((spec_UintOf.f kj5 a0).bind fun bt138 => ((impl_UintOf.f a0).bind fun bt140 => ((laws_told.f bt140.2 bt138.2).bind fun t142 => (if t142 = true then (if bt138.2 = 1 then (laws_FnUintSays.j1 kj5 a0 a1 a2 (bt138.1 != bt140.1)) else (laws_FnUintSays.j1 kj5 a0 a1 a2 false)) else (laws_FnUintSays.j1 kj5 a0 a1 a2 true))))) = some r := by rw [if_pos rfl] at H; exact H
            clear H
            have H := H1
            clear H1
            replace H := Option.bind_eq_some_iff.mp H
            obtain ⟨⟨t138, t139⟩, A120, H⟩ := H
            replace H : ((impl_UintOf.f a0).bind fun bt140 => ((laws_told.f bt140.2 t139).bind fun t142 => (if t142 = true then (if t139 = 1 then (laws_FnUintSays.j1 kj5 a0 a1 a2 (t138 != bt140.1)) else (laws_FnUintSays.j1 kj5 a0 a1 a2 false)) else (laws_FnUintSays.j1 kj5 a0 a1 a2 true)))) = some r := H
            have A12 := Aside0.mk A120
            clear A120
            replace H := Option.bind_eq_some_iff.mp H
            obtain ⟨⟨t140, t141⟩, A130, H⟩ := H
            replace H : ((laws_told.f t141 t139).bind fun t142 => (if t142 = true then (if t139 = 1 then (laws_FnUintSays.j1 kj5 a0 a1 a2 (t138 != t140)) else (laws_FnUintSays.j1 kj5 a0 a1 a2 false)) else (laws_FnUintSays.j1 kj5 a0 a1 a2 true))) = some r := H
            have A13 := Aside0.mk A130
            clear A130
            have HC14 := Aside0.mk H
            clear H
            go_upto_region 10 with (first | ((with_reducible refine gate_dst (N := 39) rfl ?_); refine Kd.R_lit Kd.string _ 9 ?hg (N := 39) ?hd (xs := ([a0] : List ByteArray)) (inner := [.string a0]) (ok := fun _ => True) (okp := fun _ => True) ?hr ?hp (fun _ hk => hk) trivial (Below.refl _ _) (Nat.le_refl _) (by simp) ?_; (case hd => rfl); (case hg => rfl); (case hr => first | (go_simp; done) | (go_simp; rfl)); (case hp => exact (Reps.one (show Kd.M Kd.string _ _ _ a0 [.string a0] from rfl) (Reps.none _ _))); intro v135 w15 ho16 hb hg_ hnew_; clear hg_ hnew_; (first | rw [← Ny134.out] at ho16 | (simp only [Int.reduceToNat] at ho16; rw [← Ny134.out] at ho16)); have n0_ := Aside0.mk (Kd.R_lower ho16 (below_size (by repeat (first | (with_reducible first | exact HB.out | apply below_alloc | apply pw_below_drewN | apply below_drew1) | exact HB.out)))); have n1_ := Aside0.mk (below_step (by repeat (first | (with_reducible first | exact HB.out | apply below_alloc | apply pw_below_drewN | apply below_drew1) | exact HB.out)) hb); clear HB; have HO136 := n0_; have HB := n1_; clear n0_ n1_; clear hb ho16; obtain ⟨Ao17, co17, eo17⟩ := Kd.R_slice HO136.out; subst eo17) | ((with_reducible refine gate_callee (f := 7) rfl ?_); refine goesL_ (some 40) rfl rfl Tryd.func7 (by kernel_rfl) rfl #[.slice Ao17 y134.length co17] rfl (by (try simp only [List.map_toArray, List.map_cons, List.map_nil]); first | done | rfl | (simp only [List.length_drop, List.length_take]; rfl)) ?_; (with_reducible refine (laws_short.calls kj5 _ _ y134 true _ ?side1 ?side2 A10.out).mono ?_); (case side1 => repeat (first | exact (Kd.R_reads' HO136.out).2.2 | (with_reducible refine Kd.C_alloc ?_ _) | (with_reducible refine Kd.C_drewN ?_ _) | (with_reducible refine Kd.C_drew ?_))); (case side2 => exact (Kd.R_reads' HO136.out).2.1); rintro e w' ⟨rfl, ⟨nd, rfl⟩⟩; refine ⟨_, rfl, ?_⟩) | ((with_reducible refine gate_callee (f := 9) rfl ?_); refine goesL_ (some 44) rfl rfl Tryd.func9 (by kernel_rfl) rfl #[.string a0] rfl (by (try simp only [List.map_toArray, List.map_cons, List.map_nil]); first | done | rfl | (simp only [List.length_drop, List.length_take]; rfl)) ?_; (with_reducible refine (spec_UintOf.calls kj5 a0 t138 t139 _ A12.out).mono ?_); rintro e w' ⟨rfl, ⟨nd, rfl⟩⟩; refine ⟨_, rfl, ?_⟩) | ((with_reducible refine gate_callee (f := 5) rfl ?_); refine goesL_ (some 49) rfl rfl Tryd.func5 (by kernel_rfl) rfl #[.string a0] rfl (by (try simp only [List.map_toArray, List.map_cons, List.map_nil]); first | done | rfl | (simp only [List.length_drop, List.length_take]; rfl)) ?_; (with_reducible refine (impl_UintOf.calls a0 t140 t141 _ A13.out (HLD_.out.below (by repeat (first | (with_reducible first | exact HB.out | apply below_alloc | apply pw_below_drewN | apply below_drew1) | exact HB.out)) (Nat.le_refl _))).mono ?_); rintro e w18 ⟨rfl, hb⟩; refine ⟨_, rfl, ?_⟩; have n0_ := Aside0.mk (Kd.R_below (by (with_reducible repeat (first | apply Kd.R_alloc | apply Kd.R_drewN | apply Kd.R_drew)); exact HO136.out) hb); have n1_ := Aside0.mk (below_step (by repeat (first | (with_reducible first | exact HB.out | apply below_alloc | apply pw_below_drewN | apply below_drew1) | exact HB.out)) hb); clear HO136; clear HB; have HO136 := n0_; have HB := n1_; clear n0_ n1_; (try clear hb); (try clear hb2); (try clear hk); (try clear hi)))
            (try simp only [Act.put, List.setIfInBounds_toArray, List.set_cons_zero, List.set_cons_succ])
            go_cut [64] (fun v64 wc => ∃ (kq : Nat) (x64_13 : Bool), v64 = .bool x64_13 ∧ Aside0 (laws_FnUintSays.j1 kq a0 a1 a2 x64_13 = some r) ∧ Aside0 (kq ≤ kj5) ∧ Aside0 (Below w.heap.size w wc))
            case first =>
              have H := HC14.out
              clear HC14
              replace H := Option.bind_eq_some_iff.mp H
              obtain ⟨t142, A190, H⟩ := H
              replace H : (if t142 = true then (if t139 = 1 then (laws_FnUintSays.j1 kj5 a0 a1 a2 (t138 != t140)) else (laws_FnUintSays.j1 kj5 a0 a1 a2 false)) else (laws_FnUintSays.j1 kj5 a0 a1 a2 true)) = some r := H
              have A19 := Aside0.mk A190
              clear A190
              by_cases c20 : t142 = true
              · subst c20
                have H1 : (if t139 = 1 then (laws_FnUintSays.j1 kj5 a0 a1 a2 (t138 != t140)) else (laws_FnUintSays.j1 kj5 a0 a1 a2 false)) = some r := by rw [if_pos rfl] at H; exact H
                clear H
                have H := H1
                clear H1
                by_cases c21 : t139 = 1
                · rw [if_pos c21] at H
                  have c21b0 : (t139 == 1) = true := beq_iff_eq.mpr c21
                  have c21b1 : (t139 != 1) = false := bne_eq_false_iff_eq.mpr c21
                  clear c21
                  (first | rw [c21b0] | (simp only [i64_w, i32_w]; rw [c21b0]) | (rw [Go.Proofs.YtipmmjbjgbfgjaaDoorX.isEmpty_eq]; rw [c21b0]) | skip)
                  have H' := Aside0.mk H
                  clear H
                  go_wp2_with (first | ((with_reducible refine gate_callee (f := 10) rfl ?_); refine goesL_ (some 54) rfl rfl Tryd.func10 (by kernel_rfl) rfl #[.bool t141, .int .i64 t139] rfl (by (try simp only [List.map_toArray, List.map_cons, List.map_nil]); first | done | rfl | (simp only [List.length_drop, List.length_take]; rfl)) ?_; (with_reducible refine (laws_told.calls t141 t139 true _ A19.out).mono ?_); rintro e w' ⟨rfl, ⟨nd, rfl⟩⟩; refine ⟨_, rfl, ?_⟩))
                  go_meet
                  case rel => exact ⟨_, ((t138 != t140)), (by first | rfl | (simp; done) | (simp [*]; done) | (simp [Go.Proofs.YtipmmjbjgbfgjaaDoorX.isEmpty_ne]; done)), H', ⟨by have := HJ5.out; first | omega | exact Nat.le_refl _⟩, ⟨by repeat (first | (with_reducible first | exact HB.out | apply below_alloc | apply pw_below_drewN | apply below_drew1) | exact HB.out)⟩⟩
                · rw [if_neg c21] at H
                  have c21b0 : (t139 == 1) = false := beq_eq_false_iff_ne.mpr c21
                  have c21b1 : (t139 != 1) = true := bne_iff_ne.mpr c21
                  (first | rw [c21b0] | (simp only [i64_w, i32_w]; rw [c21b0]) | (rw [Go.Proofs.YtipmmjbjgbfgjaaDoorX.isEmpty_eq]; rw [c21b0]) | skip)
                  have H' := Aside0.mk H
                  clear H
                  go_wp2_with (first | ((with_reducible refine gate_callee (f := 10) rfl ?_); refine goesL_ (some 54) rfl rfl Tryd.func10 (by kernel_rfl) rfl #[.bool t141, .int .i64 t139] rfl (by (try simp only [List.map_toArray, List.map_cons, List.map_nil]); first | done | rfl | (simp only [List.length_drop, List.length_take]; rfl)) ?_; (with_reducible refine (laws_told.calls t141 t139 true _ A19.out).mono ?_); rintro e w' ⟨rfl, ⟨nd, rfl⟩⟩; refine ⟨_, rfl, ?_⟩))
                  go_meet
                  case rel => exact ⟨_, (false), (by first | rfl | (simp; done) | (simp [*]; done) | (simp [Go.Proofs.YtipmmjbjgbfgjaaDoorX.isEmpty_ne]; done)), H', ⟨by have := HJ5.out; first | omega | exact Nat.le_refl _⟩, ⟨by repeat (first | (with_reducible first | exact HB.out | apply below_alloc | apply pw_below_drewN | apply below_drew1) | exact HB.out)⟩⟩
              · replace c20 := Bool.eq_false_iff.mpr c20
                subst c20
                have H1 : (laws_FnUintSays.j1 kj5 a0 a1 a2 true) = some r := by rw [if_neg (show ¬ (false = true) by decide)] at H; exact H
                clear H
                have H := H1
                clear H1
                have H' := Aside0.mk H
                clear H
                go_wp2_with (first | ((with_reducible refine gate_callee (f := 10) rfl ?_); refine goesL_ (some 54) rfl rfl Tryd.func10 (by kernel_rfl) rfl #[.bool t141, .int .i64 t139] rfl (by (try simp only [List.map_toArray, List.map_cons, List.map_nil]); first | done | rfl | (simp only [List.length_drop, List.length_take]; rfl)) ?_; (with_reducible refine (laws_told.calls t141 t139 false _ A19.out).mono ?_); rintro e w' ⟨rfl, ⟨nd, rfl⟩⟩; refine ⟨_, rfl, ?_⟩))
                go_meet
                case rel => exact ⟨_, (true), (by first | rfl | (simp; done) | (simp [*]; done) | (simp [Go.Proofs.YtipmmjbjgbfgjaaDoorX.isEmpty_ne]; done)), H', ⟨by have := HJ5.out; first | omega | exact Nat.le_refl _⟩, ⟨by repeat (first | (with_reducible first | exact HB.out | apply below_alloc | apply pw_below_drewN | apply below_drew1) | exact HB.out)⟩⟩
            case rest =>
              clear HC14
              try clear c1
              try clear c2
              try clear p2
              try clear c4
              try clear c4b0
              try clear c4b1
              try clear c5
              try clear c7
              try clear c8
              try clear c9
              try clear c10
              try clear c11
              try clear c20
              try clear c21
              try clear c21b0
              try clear c21b1
              try clear p2
              obtain ⟨kq, x64_13, rfl, HA, HJ13, HB⟩ := hcut
              cases kq with
              | zero => exact absurd HA.out (by simp [laws_FnUintSays.j1])
              | succ kj13 =>
                have H := HA.out
                clear HA
                simp only [laws_FnUintSays.j1] at H
                by_cases c22 : x64_13 = true
                · subst c22
                  have H1 : (some false) = some r := by rw [if_pos rfl] at H; exact H
                  clear H
                  have H := H1
                  clear H1
                  obtain rfl := Option.some.inj H
                  go_wp2
                  go_ret
                  exact ⟨by first | rfl | (simp [errW_none, errW_some] <;> rfl) | (simp [*, errW_none, errW_some] <;> rfl), by repeat (first | (with_reducible first | exact HB.out | apply below_alloc | apply pw_below_drewN | apply below_drew1) | exact HB.out)⟩
                · replace c22 := Bool.eq_false_iff.mpr c22
                  subst c22
                  have H1 : ((spec_UintAhead.f kj13 a0).bind fun bt143 => ((impl_UintAhead.f a0).bind fun bt146 => ((laws_told.f bt146.2.2 bt143.2.2).bind fun t149 => (if t149 = true then (if bt143.2.2 = 1 then (if bt143.1 = bt146.1 then (laws_FnUintSays.j2 kj13 a1 a2 (bt143.2.1 != bt146.2.1)) else (laws_FnUintSays.j2 kj13 a1 a2 true)) else (laws_FnUintSays.j2 kj13 a1 a2 false)) else (laws_FnUintSays.j2 kj13 a1 a2 true))))) = some r := by rw [if_neg (show ¬ (false = true) by decide)] at H; exact H
                  clear H
                  have H := H1
                  clear H1
                  replace H := Option.bind_eq_some_iff.mp H
                  obtain ⟨⟨t143, t144, t145⟩, A230, H⟩ := H
                  replace H : ((impl_UintAhead.f a0).bind fun bt146 => ((laws_told.f bt146.2.2 t145).bind fun t149 => (if t149 = true then (if t145 = 1 then (if t143 = bt146.1 then (laws_FnUintSays.j2 kj13 a1 a2 (t144 != bt146.2.1)) else (laws_FnUintSays.j2 kj13 a1 a2 true)) else (laws_FnUintSays.j2 kj13 a1 a2 false)) else (laws_FnUintSays.j2 kj13 a1 a2 true)))) = some r := H
                  have A23 := Aside0.mk A230
                  clear A230
                  replace H := Option.bind_eq_some_iff.mp H
                  obtain ⟨⟨t146, t147, t148⟩, A240, H⟩ := H
                  replace H : ((laws_told.f t148 t145).bind fun t149 => (if t149 = true then (if t145 = 1 then (if t143 = t146 then (laws_FnUintSays.j2 kj13 a1 a2 (t144 != t147)) else (laws_FnUintSays.j2 kj13 a1 a2 true)) else (laws_FnUintSays.j2 kj13 a1 a2 false)) else (laws_FnUintSays.j2 kj13 a1 a2 true))) = some r := H
                  have A24 := Aside0.mk A240
                  clear A240
                  have HC25 := Aside0.mk H
                  clear H
                  go_upto_region 14 with (first | ((with_reducible refine gate_callee (f := 11) rfl ?_); refine goesL_ (some 67) rfl rfl Tryd.func11 (by kernel_rfl) rfl #[.string a0] rfl (by (try simp only [List.map_toArray, List.map_cons, List.map_nil]); first | done | rfl | (simp only [List.length_drop, List.length_take]; rfl)) ?_; (with_reducible refine (spec_UintAhead.calls kj13 a0 t143 t144 t145 _ A23.out).mono ?_); rintro e w' ⟨rfl, ⟨nd, rfl⟩⟩; refine ⟨_, rfl, ?_⟩) | ((with_reducible refine gate_callee (f := 8) rfl ?_); refine goesL_ (some 73) rfl rfl Tryd.func8 (by kernel_rfl) rfl #[.string a0] rfl (by (try simp only [List.map_toArray, List.map_cons, List.map_nil]); first | done | rfl | (simp only [List.length_drop, List.length_take]; rfl)) ?_; (with_reducible refine (impl_UintAhead.calls a0 t146 t147 t148 _ A24.out (HLD_.out.below (by repeat (first | (with_reducible first | exact HB.out | apply below_alloc | apply pw_below_drewN | apply below_drew1) | exact HB.out)) (Nat.le_refl _))).mono ?_); rintro e w26 ⟨rfl, hb⟩; refine ⟨_, rfl, ?_⟩; have n0_ := Aside0.mk (below_step (by repeat (first | (with_reducible first | exact HB.out | apply below_alloc | apply pw_below_drewN | apply below_drew1) | exact HB.out)) hb); clear HB; have HB := n0_; clear n0_; (try clear hb); (try clear hb2); (try clear hk); (try clear hi)))
                  (try simp only [Act.put, List.setIfInBounds_toArray, List.set_cons_zero, List.set_cons_succ])
                  go_cut [94] (fun v94 wc => ∃ (kq : Nat) (x94_24 : Bool), v94 = .bool x94_24 ∧ Aside0 (laws_FnUintSays.j2 kq a1 a2 x94_24 = some r) ∧ Aside0 (kq ≤ kj13) ∧ Aside0 (Below w.heap.size w wc))
                  case first =>
                    have H := HC25.out
                    clear HC25
                    replace H := Option.bind_eq_some_iff.mp H
                    obtain ⟨t149, A270, H⟩ := H
                    replace H : (if t149 = true then (if t145 = 1 then (if t143 = t146 then (laws_FnUintSays.j2 kj13 a1 a2 (t144 != t147)) else (laws_FnUintSays.j2 kj13 a1 a2 true)) else (laws_FnUintSays.j2 kj13 a1 a2 false)) else (laws_FnUintSays.j2 kj13 a1 a2 true)) = some r := H
                    have A27 := Aside0.mk A270
                    clear A270
                    by_cases c28 : t149 = true
                    · subst c28
                      have H1 : (if t145 = 1 then (if t143 = t146 then (laws_FnUintSays.j2 kj13 a1 a2 (t144 != t147)) else (laws_FnUintSays.j2 kj13 a1 a2 true)) else (laws_FnUintSays.j2 kj13 a1 a2 false)) = some r := by rw [if_pos rfl] at H; exact H
                      clear H
                      have H := H1
                      clear H1
                      by_cases c29 : t145 = 1
                      · rw [if_pos c29] at H
                        have c29b0 : (t145 == 1) = true := beq_iff_eq.mpr c29
                        have c29b1 : (t145 != 1) = false := bne_eq_false_iff_eq.mpr c29
                        clear c29
                        (first | rw [c29b0] | (simp only [i64_w, i32_w]; rw [c29b0]) | (rw [Go.Proofs.YtipmmjbjgbfgjaaDoorX.isEmpty_eq]; rw [c29b0]) | skip)
                        by_cases c30 : t143 = t146
                        · rw [if_pos c30] at H
                          have c30b0 : (t143 == t146) = true := beq_iff_eq.mpr c30
                          have c30b1 : (t143 != t146) = false := bne_eq_false_iff_eq.mpr c30
                          clear c30
                          have H' := Aside0.mk H
                          clear H
                          go_wp2_with (first | ((with_reducible refine gate_callee (f := 10) rfl ?_); refine goesL_ (some 79) rfl rfl Tryd.func10 (by kernel_rfl) rfl #[.bool t148, .int .i64 t145] rfl (by (try simp only [List.map_toArray, List.map_cons, List.map_nil]); first | done | rfl | (simp only [List.length_drop, List.length_take]; rfl)) ?_; (with_reducible refine (laws_told.calls t148 t145 true _ A27.out).mono ?_); rintro e w' ⟨rfl, ⟨nd, rfl⟩⟩; refine ⟨_, rfl, ?_⟩))
                          go_meet
                          case rel => exact ⟨_, ((t144 != t147)), (by first | rfl | (simp; done) | (simp [*]; done) | (simp [Go.Proofs.YtipmmjbjgbfgjaaDoorX.isEmpty_ne]; done)), H', ⟨by have := HJ5.out; have := HJ13.out; first | omega | exact Nat.le_refl _⟩, ⟨by repeat (first | (with_reducible first | exact HB.out | apply below_alloc | apply pw_below_drewN | apply below_drew1) | exact HB.out)⟩⟩
                        · rw [if_neg c30] at H
                          have c30b0 : (t143 == t146) = false := beq_eq_false_iff_ne.mpr c30
                          have c30b1 : (t143 != t146) = true := bne_iff_ne.mpr c30
                          have H' := Aside0.mk H
                          clear H
                          go_wp2_with (first | ((with_reducible refine gate_callee (f := 10) rfl ?_); refine goesL_ (some 79) rfl rfl Tryd.func10 (by kernel_rfl) rfl #[.bool t148, .int .i64 t145] rfl (by (try simp only [List.map_toArray, List.map_cons, List.map_nil]); first | done | rfl | (simp only [List.length_drop, List.length_take]; rfl)) ?_; (with_reducible refine (laws_told.calls t148 t145 true _ A27.out).mono ?_); rintro e w' ⟨rfl, ⟨nd, rfl⟩⟩; refine ⟨_, rfl, ?_⟩))
                          go_meet
                          case rel => exact ⟨_, (true), (by first | rfl | (simp; done) | (simp [*]; done) | (simp [Go.Proofs.YtipmmjbjgbfgjaaDoorX.isEmpty_ne]; done)), H', ⟨by have := HJ5.out; have := HJ13.out; first | omega | exact Nat.le_refl _⟩, ⟨by repeat (first | (with_reducible first | exact HB.out | apply below_alloc | apply pw_below_drewN | apply below_drew1) | exact HB.out)⟩⟩
                      · rw [if_neg c29] at H
                        have c29b0 : (t145 == 1) = false := beq_eq_false_iff_ne.mpr c29
                        have c29b1 : (t145 != 1) = true := bne_iff_ne.mpr c29
                        (first | rw [c29b0] | (simp only [i64_w, i32_w]; rw [c29b0]) | (rw [Go.Proofs.YtipmmjbjgbfgjaaDoorX.isEmpty_eq]; rw [c29b0]) | skip)
                        have H' := Aside0.mk H
                        clear H
                        go_wp2_with (first | ((with_reducible refine gate_callee (f := 10) rfl ?_); refine goesL_ (some 79) rfl rfl Tryd.func10 (by kernel_rfl) rfl #[.bool t148, .int .i64 t145] rfl (by (try simp only [List.map_toArray, List.map_cons, List.map_nil]); first | done | rfl | (simp only [List.length_drop, List.length_take]; rfl)) ?_; (with_reducible refine (laws_told.calls t148 t145 true _ A27.out).mono ?_); rintro e w' ⟨rfl, ⟨nd, rfl⟩⟩; refine ⟨_, rfl, ?_⟩))
                        go_meet
                        case rel => exact ⟨_, (false), (by first | rfl | (simp; done) | (simp [*]; done) | (simp [Go.Proofs.YtipmmjbjgbfgjaaDoorX.isEmpty_ne]; done)), H', ⟨by have := HJ5.out; have := HJ13.out; first | omega | exact Nat.le_refl _⟩, ⟨by repeat (first | (with_reducible first | exact HB.out | apply below_alloc | apply pw_below_drewN | apply below_drew1) | exact HB.out)⟩⟩
                    · replace c28 := Bool.eq_false_iff.mpr c28
                      subst c28
                      have H1 : (laws_FnUintSays.j2 kj13 a1 a2 true) = some r := by rw [if_neg (show ¬ (false = true) by decide)] at H; exact H
                      clear H
                      have H := H1
                      clear H1
                      have H' := Aside0.mk H
                      clear H
                      go_wp2_with (first | ((with_reducible refine gate_callee (f := 10) rfl ?_); refine goesL_ (some 79) rfl rfl Tryd.func10 (by kernel_rfl) rfl #[.bool t148, .int .i64 t145] rfl (by (try simp only [List.map_toArray, List.map_cons, List.map_nil]); first | done | rfl | (simp only [List.length_drop, List.length_take]; rfl)) ?_; (with_reducible refine (laws_told.calls t148 t145 false _ A27.out).mono ?_); rintro e w' ⟨rfl, ⟨nd, rfl⟩⟩; refine ⟨_, rfl, ?_⟩))
                      go_meet
                      case rel => exact ⟨_, (true), (by first | rfl | (simp; done) | (simp [*]; done) | (simp [Go.Proofs.YtipmmjbjgbfgjaaDoorX.isEmpty_ne]; done)), H', ⟨by have := HJ5.out; have := HJ13.out; first | omega | exact Nat.le_refl _⟩, ⟨by repeat (first | (with_reducible first | exact HB.out | apply below_alloc | apply pw_below_drewN | apply below_drew1) | exact HB.out)⟩⟩
                  case rest =>
                    clear HC25
                    try clear c1
                    try clear c2
                    try clear p2
                    try clear c3
                    try clear c4
                    try clear c4b0
                    try clear c4b1
                    try clear c5
                    try clear c7
                    try clear c8
                    try clear c9
                    try clear c10
                    try clear c11
                    try clear c20
                    try clear c21
                    try clear c21b0
                    try clear c21b1
                    try clear c22
                    try clear c28
                    try clear c29
                    try clear c29b0
                    try clear c29b1
                    try clear c30
                    try clear c30b0
                    try clear c30b1
                    try clear p2
                    obtain ⟨kq, x94_24, rfl, HA, HJ24, HB⟩ := hcut
                    cases kq with
                    | zero => exact absurd HA.out (by simp [laws_FnUintSays.j2])
                    | succ kj24 =>
                      have H := HA.out
                      clear HA
                      simp only [laws_FnUintSays.j2] at H
                      by_cases c31 : x94_24 = true
                      · subst c31
                        have H1 : (some false) = some r := by rw [if_pos rfl] at H; exact H
                        clear H
                        have H := H1
                        clear H1
                        obtain rfl := Option.some.inj H
                        go_wp2
                        go_ret
                        exact ⟨by first | rfl | (simp [errW_none, errW_some] <;> rfl) | (simp [*, errW_none, errW_some] <;> rfl), by repeat (first | (with_reducible first | exact HB.out | apply below_alloc | apply pw_below_drewN | apply below_drew1) | exact HB.out)⟩
                      · replace c31 := Bool.eq_false_iff.mpr c31
                        subst c31
                        have H1 : ((spec_UintText.f kj24 a1).bind fun bt150 => ((impl_UintText.f a1).bind fun bt152 => ((spec_HexText.f kj24 a2).bind fun bt154 => ((impl_HexText.f kj24 a2).bind fun bt156 => (if bt150.1.toList = bt152.1.toList then (if (bt150.2 == bt152.2) = true then (if bt154.1.toList = bt156.1.toList then (some (bt154.2 == bt156.2)) else (some false)) else (some false)) else (some false)))))) = some r := by rw [if_neg (show ¬ (false = true) by decide)] at H; exact H
                        clear H
                        have H := H1
                        clear H1
                        replace H := Option.bind_eq_some_iff.mp H
                        obtain ⟨⟨t150, t151⟩, A320, H⟩ := H
                        replace H : ((impl_UintText.f a1).bind fun bt152 => ((spec_HexText.f kj24 a2).bind fun bt154 => ((impl_HexText.f kj24 a2).bind fun bt156 => (if t150.toList = bt152.1.toList then (if (t151 == bt152.2) = true then (if bt154.1.toList = bt156.1.toList then (some (bt154.2 == bt156.2)) else (some false)) else (some false)) else (some false))))) = some r := H
                        have A32 := Aside0.mk A320
                        clear A320
                        replace H := Option.bind_eq_some_iff.mp H
                        obtain ⟨⟨t152, t153⟩, A330, H⟩ := H
                        replace H : ((spec_HexText.f kj24 a2).bind fun bt154 => ((impl_HexText.f kj24 a2).bind fun bt156 => (if t150.toList = t152.toList then (if (t151 == t153) = true then (if bt154.1.toList = bt156.1.toList then (some (bt154.2 == bt156.2)) else (some false)) else (some false)) else (some false)))) = some r := H
                        have A33 := Aside0.mk A330
                        clear A330
                        replace H := Option.bind_eq_some_iff.mp H
                        obtain ⟨⟨t154, t155⟩, A340, H⟩ := H
                        replace H : ((impl_HexText.f kj24 a2).bind fun bt156 => (if t150.toList = t152.toList then (if (t151 == t153) = true then (if t154.toList = bt156.1.toList then (some (t155 == bt156.2)) else (some false)) else (some false)) else (some false))) = some r := H
                        have A34 := Aside0.mk A340
                        clear A340
                        replace H := Option.bind_eq_some_iff.mp H
                        obtain ⟨⟨t156, t157⟩, A350, H⟩ := H
                        replace H : (if t150.toList = t152.toList then (if (t151 == t153) = true then (if t154.toList = t156.toList then (some (t155 == t157)) else (some false)) else (some false)) else (some false)) = some r := H
                        have A35 := Aside0.mk A350
                        clear A350
                        by_cases c36 : t150.toList = t152.toList
                        · rw [if_pos c36] at H
                          have c36b0 : (t150.toList == t152.toList) = true := beq_iff_eq.mpr c36
                          have c36b1 : (t150.toList != t152.toList) = false := bne_eq_false_iff_eq.mpr c36
                          clear c36
                          by_cases c37 : (t151 == t153) = true
                          · rw [if_pos c37] at H
                            have c37b0 : (t151 == t153) = true := c37
                            (try (have c37b1 : decide (t151 = t153) = true := by simpa using c37))
                            (try (have c37b2 : (t151 == t153) = true := by simpa using c37))
                            clear c37
                            by_cases c38 : t154.toList = t156.toList
                            · rw [if_pos c38] at H
                              have c38b0 : (t154.toList == t156.toList) = true := beq_iff_eq.mpr c38
                              have c38b1 : (t154.toList != t156.toList) = false := bne_eq_false_iff_eq.mpr c38
                              clear c38
                              obtain rfl := Option.some.inj H
                              go_wp2_with (first | ((with_reducible refine gate_callee (f := 12) rfl ?_); refine goesL_ (some 97) rfl rfl Tryd.func12 (by kernel_rfl) rfl #[.int .i64 a1] rfl (by (try simp only [List.map_toArray, List.map_cons, List.map_nil]); first | done | rfl | (simp only [List.length_drop, List.length_take]; rfl)) ?_; (with_reducible refine (spec_UintText.calls kj24 a1 t150 t151 _ A32.out).mono ?_); rintro e w39 ⟨rfl, hb⟩; refine ⟨_, rfl, ?_⟩; have n0_ := Aside0.mk (below_step (by repeat (first | (with_reducible first | exact HB.out | apply below_alloc | apply pw_below_drewN | apply below_drew1) | exact HB.out)) hb); clear HB; have HB := n0_; clear n0_; (try clear hb); (try clear hb2); (try clear hk); (try clear hi)) | ((with_reducible refine gate_callee (f := 6) rfl ?_); refine goesL_ (some 102) rfl rfl Tryd.func6 (by kernel_rfl) rfl #[.int .i64 a1] rfl (by (try simp only [List.map_toArray, List.map_cons, List.map_nil]); first | done | rfl | (simp only [List.length_drop, List.length_take]; rfl)) ?_; (with_reducible refine (impl_UintText.calls a1 t152 t153 _ A33.out).mono ?_); rintro e w40 ⟨rfl, hb⟩; refine ⟨_, rfl, ?_⟩; have n0_ := Aside0.mk (below_step (by repeat (first | (with_reducible first | exact HB.out | apply below_alloc | apply pw_below_drewN | apply below_drew1) | exact HB.out)) hb); clear HB; have HB := n0_; clear n0_; (try clear hb); (try clear hb2); (try clear hk); (try clear hi)) | ((with_reducible refine gate_callee (f := 13) rfl ?_); refine goesL_ (some 107) rfl rfl Tryd.func13 (by kernel_rfl) rfl #[.int .u64 a2] rfl (by (try simp only [List.map_toArray, List.map_cons, List.map_nil]); first | done | rfl | (simp only [List.length_drop, List.length_take]; rfl)) ?_; (with_reducible refine (spec_HexText.calls kj24 a2 t154 t155 _ A34.out).mono ?_); rintro e w' ⟨rfl, ⟨nd, rfl⟩⟩; refine ⟨_, rfl, ?_⟩) | ((with_reducible refine gate_callee (f := 14) rfl ?_); refine goesL_ (some 112) rfl rfl Tryd.func14 (by kernel_rfl) rfl #[.int .u64 a2] rfl (by (try simp only [List.map_toArray, List.map_cons, List.map_nil]); first | done | rfl | (simp only [List.length_drop, List.length_take]; rfl)) ?_; (with_reducible refine (impl_HexText.calls kj24 a2 t156 t157 _ A35.out).mono ?_); rintro e w41 ⟨rfl, hb⟩; refine ⟨_, rfl, ?_⟩; have n0_ := Aside0.mk (below_step (by repeat (first | (with_reducible first | exact HB.out | apply below_alloc | apply pw_below_drewN | apply below_drew1) | exact HB.out)) hb); clear HB; have HB := n0_; clear n0_; (try clear hb); (try clear hb2); (try clear hk); (try clear hi)))
                              go_ret
                              exact ⟨by first | rfl | (simp [errW_none, errW_some] <;> rfl) | (simp [*, errW_none, errW_some] <;> rfl), by repeat (first | (with_reducible first | exact HB.out | apply below_alloc | apply pw_below_drewN | apply below_drew1) | exact HB.out)⟩
                            · rw [if_neg c38] at H
                              have c38b0 : (t154.toList == t156.toList) = false := beq_eq_false_iff_ne.mpr c38
                              have c38b1 : (t154.toList != t156.toList) = true := bne_iff_ne.mpr c38
                              obtain rfl := Option.some.inj H
                              go_wp2_with (first | ((with_reducible refine gate_callee (f := 12) rfl ?_); refine goesL_ (some 97) rfl rfl Tryd.func12 (by kernel_rfl) rfl #[.int .i64 a1] rfl (by (try simp only [List.map_toArray, List.map_cons, List.map_nil]); first | done | rfl | (simp only [List.length_drop, List.length_take]; rfl)) ?_; (with_reducible refine (spec_UintText.calls kj24 a1 t150 t151 _ A32.out).mono ?_); rintro e w42 ⟨rfl, hb⟩; refine ⟨_, rfl, ?_⟩; have n0_ := Aside0.mk (below_step (by repeat (first | (with_reducible first | exact HB.out | apply below_alloc | apply pw_below_drewN | apply below_drew1) | exact HB.out)) hb); clear HB; have HB := n0_; clear n0_; (try clear hb); (try clear hb2); (try clear hk); (try clear hi)) | ((with_reducible refine gate_callee (f := 6) rfl ?_); refine goesL_ (some 102) rfl rfl Tryd.func6 (by kernel_rfl) rfl #[.int .i64 a1] rfl (by (try simp only [List.map_toArray, List.map_cons, List.map_nil]); first | done | rfl | (simp only [List.length_drop, List.length_take]; rfl)) ?_; (with_reducible refine (impl_UintText.calls a1 t152 t153 _ A33.out).mono ?_); rintro e w43 ⟨rfl, hb⟩; refine ⟨_, rfl, ?_⟩; have n0_ := Aside0.mk (below_step (by repeat (first | (with_reducible first | exact HB.out | apply below_alloc | apply pw_below_drewN | apply below_drew1) | exact HB.out)) hb); clear HB; have HB := n0_; clear n0_; (try clear hb); (try clear hb2); (try clear hk); (try clear hi)) | ((with_reducible refine gate_callee (f := 13) rfl ?_); refine goesL_ (some 107) rfl rfl Tryd.func13 (by kernel_rfl) rfl #[.int .u64 a2] rfl (by (try simp only [List.map_toArray, List.map_cons, List.map_nil]); first | done | rfl | (simp only [List.length_drop, List.length_take]; rfl)) ?_; (with_reducible refine (spec_HexText.calls kj24 a2 t154 t155 _ A34.out).mono ?_); rintro e w' ⟨rfl, ⟨nd, rfl⟩⟩; refine ⟨_, rfl, ?_⟩) | ((with_reducible refine gate_callee (f := 14) rfl ?_); refine goesL_ (some 112) rfl rfl Tryd.func14 (by kernel_rfl) rfl #[.int .u64 a2] rfl (by (try simp only [List.map_toArray, List.map_cons, List.map_nil]); first | done | rfl | (simp only [List.length_drop, List.length_take]; rfl)) ?_; (with_reducible refine (impl_HexText.calls kj24 a2 t156 t157 _ A35.out).mono ?_); rintro e w44 ⟨rfl, hb⟩; refine ⟨_, rfl, ?_⟩; have n0_ := Aside0.mk (below_step (by repeat (first | (with_reducible first | exact HB.out | apply below_alloc | apply pw_below_drewN | apply below_drew1) | exact HB.out)) hb); clear HB; have HB := n0_; clear n0_; (try clear hb); (try clear hb2); (try clear hk); (try clear hi)))
                              go_ret
                              exact ⟨by first | rfl | (simp [errW_none, errW_some] <;> rfl) | (simp [*, errW_none, errW_some] <;> rfl), by repeat (first | (with_reducible first | exact HB.out | apply below_alloc | apply pw_below_drewN | apply below_drew1) | exact HB.out)⟩
                          · rw [if_neg c37] at H
                            have c37b0 : (t151 == t153) = false := by simpa using c37
                            (try (have c37b1 : decide (t151 = t153) = false := by simpa using c37))
                            (try (have c37b2 : (t151 == t153) = false := by simpa using c37))
                            (try (have c37b3 : ¬ (t151 = t153) := by simpa using c37))
                            clear c37
                            obtain rfl := Option.some.inj H
                            go_wp2_with (first | ((with_reducible refine gate_callee (f := 12) rfl ?_); refine goesL_ (some 97) rfl rfl Tryd.func12 (by kernel_rfl) rfl #[.int .i64 a1] rfl (by (try simp only [List.map_toArray, List.map_cons, List.map_nil]); first | done | rfl | (simp only [List.length_drop, List.length_take]; rfl)) ?_; (with_reducible refine (spec_UintText.calls kj24 a1 t150 t151 _ A32.out).mono ?_); rintro e w45 ⟨rfl, hb⟩; refine ⟨_, rfl, ?_⟩; have n0_ := Aside0.mk (below_step (by repeat (first | (with_reducible first | exact HB.out | apply below_alloc | apply pw_below_drewN | apply below_drew1) | exact HB.out)) hb); clear HB; have HB := n0_; clear n0_; (try clear hb); (try clear hb2); (try clear hk); (try clear hi)) | ((with_reducible refine gate_callee (f := 6) rfl ?_); refine goesL_ (some 102) rfl rfl Tryd.func6 (by kernel_rfl) rfl #[.int .i64 a1] rfl (by (try simp only [List.map_toArray, List.map_cons, List.map_nil]); first | done | rfl | (simp only [List.length_drop, List.length_take]; rfl)) ?_; (with_reducible refine (impl_UintText.calls a1 t152 t153 _ A33.out).mono ?_); rintro e w46 ⟨rfl, hb⟩; refine ⟨_, rfl, ?_⟩; have n0_ := Aside0.mk (below_step (by repeat (first | (with_reducible first | exact HB.out | apply below_alloc | apply pw_below_drewN | apply below_drew1) | exact HB.out)) hb); clear HB; have HB := n0_; clear n0_; (try clear hb); (try clear hb2); (try clear hk); (try clear hi)) | ((with_reducible refine gate_callee (f := 13) rfl ?_); refine goesL_ (some 107) rfl rfl Tryd.func13 (by kernel_rfl) rfl #[.int .u64 a2] rfl (by (try simp only [List.map_toArray, List.map_cons, List.map_nil]); first | done | rfl | (simp only [List.length_drop, List.length_take]; rfl)) ?_; (with_reducible refine (spec_HexText.calls kj24 a2 t154 t155 _ A34.out).mono ?_); rintro e w' ⟨rfl, ⟨nd, rfl⟩⟩; refine ⟨_, rfl, ?_⟩) | ((with_reducible refine gate_callee (f := 14) rfl ?_); refine goesL_ (some 112) rfl rfl Tryd.func14 (by kernel_rfl) rfl #[.int .u64 a2] rfl (by (try simp only [List.map_toArray, List.map_cons, List.map_nil]); first | done | rfl | (simp only [List.length_drop, List.length_take]; rfl)) ?_; (with_reducible refine (impl_HexText.calls kj24 a2 t156 t157 _ A35.out).mono ?_); rintro e w47 ⟨rfl, hb⟩; refine ⟨_, rfl, ?_⟩; have n0_ := Aside0.mk (below_step (by repeat (first | (with_reducible first | exact HB.out | apply below_alloc | apply pw_below_drewN | apply below_drew1) | exact HB.out)) hb); clear HB; have HB := n0_; clear n0_; (try clear hb); (try clear hb2); (try clear hk); (try clear hi)))
                            go_ret
                            exact ⟨by first | rfl | (simp [errW_none, errW_some] <;> rfl) | (simp [*, errW_none, errW_some] <;> rfl), by repeat (first | (with_reducible first | exact HB.out | apply below_alloc | apply pw_below_drewN | apply below_drew1) | exact HB.out)⟩
                        · rw [if_neg c36] at H
                          have c36b0 : (t150.toList == t152.toList) = false := beq_eq_false_iff_ne.mpr c36
                          have c36b1 : (t150.toList != t152.toList) = true := bne_iff_ne.mpr c36
                          obtain rfl := Option.some.inj H
                          go_wp2_with (first | ((with_reducible refine gate_callee (f := 12) rfl ?_); refine goesL_ (some 97) rfl rfl Tryd.func12 (by kernel_rfl) rfl #[.int .i64 a1] rfl (by (try simp only [List.map_toArray, List.map_cons, List.map_nil]); first | done | rfl | (simp only [List.length_drop, List.length_take]; rfl)) ?_; (with_reducible refine (spec_UintText.calls kj24 a1 t150 t151 _ A32.out).mono ?_); rintro e w48 ⟨rfl, hb⟩; refine ⟨_, rfl, ?_⟩; have n0_ := Aside0.mk (below_step (by repeat (first | (with_reducible first | exact HB.out | apply below_alloc | apply pw_below_drewN | apply below_drew1) | exact HB.out)) hb); clear HB; have HB := n0_; clear n0_; (try clear hb); (try clear hb2); (try clear hk); (try clear hi)) | ((with_reducible refine gate_callee (f := 6) rfl ?_); refine goesL_ (some 102) rfl rfl Tryd.func6 (by kernel_rfl) rfl #[.int .i64 a1] rfl (by (try simp only [List.map_toArray, List.map_cons, List.map_nil]); first | done | rfl | (simp only [List.length_drop, List.length_take]; rfl)) ?_; (with_reducible refine (impl_UintText.calls a1 t152 t153 _ A33.out).mono ?_); rintro e w49 ⟨rfl, hb⟩; refine ⟨_, rfl, ?_⟩; have n0_ := Aside0.mk (below_step (by repeat (first | (with_reducible first | exact HB.out | apply below_alloc | apply pw_below_drewN | apply below_drew1) | exact HB.out)) hb); clear HB; have HB := n0_; clear n0_; (try clear hb); (try clear hb2); (try clear hk); (try clear hi)) | ((with_reducible refine gate_callee (f := 13) rfl ?_); refine goesL_ (some 107) rfl rfl Tryd.func13 (by kernel_rfl) rfl #[.int .u64 a2] rfl (by (try simp only [List.map_toArray, List.map_cons, List.map_nil]); first | done | rfl | (simp only [List.length_drop, List.length_take]; rfl)) ?_; (with_reducible refine (spec_HexText.calls kj24 a2 t154 t155 _ A34.out).mono ?_); rintro e w' ⟨rfl, ⟨nd, rfl⟩⟩; refine ⟨_, rfl, ?_⟩) | ((with_reducible refine gate_callee (f := 14) rfl ?_); refine goesL_ (some 112) rfl rfl Tryd.func14 (by kernel_rfl) rfl #[.int .u64 a2] rfl (by (try simp only [List.map_toArray, List.map_cons, List.map_nil]); first | done | rfl | (simp only [List.length_drop, List.length_take]; rfl)) ?_; (with_reducible refine (impl_HexText.calls kj24 a2 t156 t157 _ A35.out).mono ?_); rintro e w50 ⟨rfl, hb⟩; refine ⟨_, rfl, ?_⟩; have n0_ := Aside0.mk (below_step (by repeat (first | (with_reducible first | exact HB.out | apply below_alloc | apply pw_below_drewN | apply below_drew1) | exact HB.out)) hb); clear HB; have HB := n0_; clear n0_; (try clear hb); (try clear hb2); (try clear hk); (try clear hi)))
                          go_ret
                          exact ⟨by first | rfl | (simp [errW_none, errW_some] <;> rfl) | (simp [*, errW_none, errW_some] <;> rfl), by repeat (first | (with_reducible first | exact HB.out | apply below_alloc | apply pw_below_drewN | apply below_drew1) | exact HB.out)⟩
          · replace c11 := Bool.eq_false_iff.mpr c11
            subst c11
            have H1 : (some true) = some r := by rw [if_neg (show ¬ (false = true) by decide)] at H; exact H
            clear H
            have H := H1
            clear H1
            obtain rfl := Option.some.inj H
            go_wp2_with (first | ((with_reducible refine gate_dst (N := 39) rfl ?_); refine Kd.R_lit Kd.string _ 9 ?hg (N := 39) ?hd (xs := ([a0] : List ByteArray)) (inner := [.string a0]) (ok := fun _ => True) (okp := fun _ => True) ?hr ?hp (fun _ hk => hk) trivial (Below.refl _ _) (Nat.le_refl _) (by simp) ?_; (case hd => rfl); (case hg => rfl); (case hr => first | (go_simp; done) | (go_simp; rfl)); (case hp => exact (Reps.one (show Kd.M Kd.string _ _ _ a0 [.string a0] from rfl) (Reps.none _ _))); intro v135 w51 ho52 hb hg_ hnew_; clear hg_ hnew_; (first | rw [← Ny134.out] at ho52 | (simp only [Int.reduceToNat] at ho52; rw [← Ny134.out] at ho52)); have n0_ := Aside0.mk (Kd.R_lower ho52 (below_size (by repeat (first | (with_reducible first | exact HB.out | apply below_alloc | apply pw_below_drewN | apply below_drew1) | exact HB.out)))); have n1_ := Aside0.mk (below_step (by repeat (first | (with_reducible first | exact HB.out | apply below_alloc | apply pw_below_drewN | apply below_drew1) | exact HB.out)) hb); clear HB; have HO136 := n0_; have HB := n1_; clear n0_ n1_; clear hb ho52; obtain ⟨Ao53, co53, eo53⟩ := Kd.R_slice HO136.out; subst eo53) | ((with_reducible refine gate_callee (f := 7) rfl ?_); refine goesL_ (some 40) rfl rfl Tryd.func7 (by kernel_rfl) rfl #[.slice Ao53 y134.length co53] rfl (by (try simp only [List.map_toArray, List.map_cons, List.map_nil]); first | done | rfl | (simp only [List.length_drop, List.length_take]; rfl)) ?_; (with_reducible refine (laws_short.calls kj5 _ _ y134 false _ ?side1 ?side2 A10.out).mono ?_); (case side1 => repeat (first | exact (Kd.R_reads' HO136.out).2.2 | (with_reducible refine Kd.C_alloc ?_ _) | (with_reducible refine Kd.C_drewN ?_ _) | (with_reducible refine Kd.C_drew ?_))); (case side2 => exact (Kd.R_reads' HO136.out).2.1); rintro e w' ⟨rfl, ⟨nd, rfl⟩⟩; refine ⟨_, rfl, ?_⟩))
            go_ret
            exact ⟨by first | rfl | (simp [errW_none, errW_some] <;> rfl) | (simp [*, errW_none, errW_some] <;> rfl), by repeat (first | (with_reducible first | exact HB.out | apply below_alloc | apply pw_below_drewN | apply below_drew1) | exact HB.out)⟩

/-- THE ONE PURE STATEMENT of laws_FnUintSays: yours. -/
def laws_FnUintSays.Pure : Prop := ∀ (a0 : ByteArray) (a1 : Int) (a2 : Int), a0.size ≤ 140737488351232 → (Lit.int .i64 a1).wf = true → (Lit.int .u64 a2).wf = true → ∃ k, laws_FnUintSays.f k a0 a1 a2 = some true
theorem laws_FnUintSays.walk (P : laws_FnUintSays.Pure) (a0 : ByteArray) (a1 : Int) (a2 : Int) (w : World) (hL_ : LaidD w) (w0 : a0.size ≤ 140737488351232) (w1 : (Lit.int .i64 a1).wf = true) (w2 : (Lit.int .u64 a2).wf = true) :
    Calls Tryd.prog 4 #[.string a0, .int .i64 a1, .int .u64 a2] w fun e w' => e = .returned (.bool true) ∧ Below w.heap.size w w' := by
  obtain ⟨k, h⟩ := P a0 a1 a2 w0 w1 w2
  refine (laws_FnUintSays.calls k a0 a1 a2 true w hL_ h).mono ?_
  rintro e w' ⟨rfl, hd⟩
  exact ⟨rfl, hd⟩

end Go.Proofs.YtipmmjbjgbfgjaaDoor.Q
