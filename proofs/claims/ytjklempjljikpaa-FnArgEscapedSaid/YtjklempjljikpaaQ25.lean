import Derived.Test.YtjklempjljikpaaQ0
import Derived.Test.YtjklempjljikpaaQ2
import Derived.Test.YtjklempjljikpaaQ5
import Derived.Test.YtjklempjljikpaaQ9
import Derived.Test.YtjklempjljikpaaQ20
-- Written by a program of this session out of the translation, with the kit's printer. Not trusted: Lean checks it.
namespace Go.Proofs.Ytjklempjljikpaa.Q
open Go.RowKit Go.Proofs.YtjklempjljikpaaW.PrintWords Go.Proofs.YtjklempjljikpaaW.PrintLast Go.Proofs.YtjklempjljikpaaW.PrintMore
attribute [local go_sem] max2_int min2_int max_two min_two max_three min_three max_four min_four   -- for this text's walks alone
set_option linter.unusedVariables false
set_option linter.unusedSimpArgs false

/-! ### laws_FnArgEscaped: function 12 -/
mutual
def laws_FnArgEscaped.j0 : Nat → ByteArray → ByteArray → Bool → Option (Bool)
  | 0, _, _, _ => none
  | k + 1, x0, x1, x13 => if x13 = true then (some true) else ((impl_QuotedArg.f k (⟨#[97, 32, 98]⟩ : ByteArray)).bind fun t270 => (if t270.toList = ([] : List UInt8) then (laws_FnArgEscaped.j1 k x0 x1 true) else ((laws_reads.f k).bind fun t271 => (laws_FnArgEscaped.j1 k x0 x1 (!t271)))))
def laws_FnArgEscaped.j1 : Nat → ByteArray → ByteArray → Bool → Option (Bool)
  | 0, _, _, _ => none
  | k + 1, x0, x1, x19 => if x19 = true then (some false) else ((laws_word.f k x0).bind fun t272 => (if t272 = true then ((laws_short.f k (([x0, x1] : List ByteArray))).bind fun t276 => (laws_FnArgEscaped.j2 k x0 x1 (!t276))) else (laws_FnArgEscaped.j2 k x0 x1 true)))
def laws_FnArgEscaped.j2 : Nat → ByteArray → ByteArray → Bool → Option (Bool)
  | 0, _, _, _ => none
  | k + 1, x0, x1, x29 => if x29 = true then (some true) else ((impl_QuotedArg.f k x1).bind fun t277 => ((laws_holds.f k t277 38).bind fun t278 => (if t278 = true then (some false) else ((laws_holds.f k t277 32).bind fun t279 => (if t279 = true then (some false) else ((laws_holds.f k t277 35).bind fun t280 => (if t280 = true then (some false) else (if x0.size + 1 ≤ 9223372036854775807 then (if x0.size + 1 + t277.size ≤ 9223372036854775807 then ((impl_ArgsOf.f ((x0 ++ (⟨#[61]⟩ : ByteArray)) ++ t277)).bind fun t281 => ((laws_sameArgs.f k t281 (([(⟨x0, x1, false⟩ : S36)] : List (S36)))).bind fun t287 => (some t287))) else (none)) else (none)))))))))
end
def laws_FnArgEscaped.f (k : Nat) (a0 : ByteArray) (a1 : ByteArray) : Option (Bool) := if (a0.size : Int) > 2147483647 then (laws_FnArgEscaped.j0 k a0 a1 true) else (laws_FnArgEscaped.j0 k a0 a1 (decide ((a1.size : Int) > 2147483647)))
theorem laws_FnArgEscaped.mono_l : ∀ k, (∀ y0 y1 y2, LeO (laws_FnArgEscaped.j0 k y0 y1 y2) (laws_FnArgEscaped.j0 (k + 1) y0 y1 y2)) ∧ (∀ y0 y1 y2, LeO (laws_FnArgEscaped.j1 k y0 y1 y2) (laws_FnArgEscaped.j1 (k + 1) y0 y1 y2)) ∧ (∀ y0 y1 y2, LeO (laws_FnArgEscaped.j2 k y0 y1 y2) (laws_FnArgEscaped.j2 (k + 1) y0 y1 y2))
  | 0 => ⟨fun _ _ _ r h => by simp [laws_FnArgEscaped.j0] at h, fun _ _ _ r h => by simp [laws_FnArgEscaped.j1] at h, fun _ _ _ r h => by simp [laws_FnArgEscaped.j2] at h⟩
  | k + 1 => by
    obtain ⟨ih0, ih1, ih2⟩ := laws_FnArgEscaped.mono_l k
    refine ⟨?_, ?_, ?_⟩
    · intro y0 y1 y2
      unfold laws_FnArgEscaped.j0
      repeat' first
      | (with_reducible exact ih0 _ _ _)
      | (with_reducible exact ih1 _ _ _)
      | (with_reducible exact ih2 _ _ _)
      | (with_reducible exact impl_QuotedArg.mono _ _)
      | (with_reducible exact laws_holds.mono _ _ _)
      | (with_reducible exact laws_reads.mono _)
      | (with_reducible exact laws_sameArgs.mono _ _ _)
      | (with_reducible exact laws_short.mono _ _)
      | (with_reducible exact laws_word.mono _ _)
      | (with_reducible exact LeO.refl _)
      | (with_reducible exact LeO.none _)
      | (with_reducible refine LeO.ite ?_ ?_)
      | (with_reducible refine LeO.bind ?_ (fun _ => ?_))
      | exact ih0 _ _ _
      | exact ih1 _ _ _
      | exact ih2 _ _ _
      | exact impl_QuotedArg.mono _ _
      | exact laws_holds.mono _ _ _
      | exact laws_reads.mono _
      | exact laws_sameArgs.mono _ _ _
      | exact laws_short.mono _ _
      | exact laws_word.mono _ _
      | exact LeO.none _
      | refine LeO.ite ?_ ?_
      | refine LeO.bind ?_ (fun _ => ?_)
    · intro y0 y1 y2
      unfold laws_FnArgEscaped.j1
      repeat' first
      | (with_reducible exact ih0 _ _ _)
      | (with_reducible exact ih1 _ _ _)
      | (with_reducible exact ih2 _ _ _)
      | (with_reducible exact impl_QuotedArg.mono _ _)
      | (with_reducible exact laws_holds.mono _ _ _)
      | (with_reducible exact laws_reads.mono _)
      | (with_reducible exact laws_sameArgs.mono _ _ _)
      | (with_reducible exact laws_short.mono _ _)
      | (with_reducible exact laws_word.mono _ _)
      | (with_reducible exact LeO.refl _)
      | (with_reducible exact LeO.none _)
      | (with_reducible refine LeO.ite ?_ ?_)
      | (with_reducible refine LeO.bind ?_ (fun _ => ?_))
      | exact ih0 _ _ _
      | exact ih1 _ _ _
      | exact ih2 _ _ _
      | exact impl_QuotedArg.mono _ _
      | exact laws_holds.mono _ _ _
      | exact laws_reads.mono _
      | exact laws_sameArgs.mono _ _ _
      | exact laws_short.mono _ _
      | exact laws_word.mono _ _
      | exact LeO.none _
      | refine LeO.ite ?_ ?_
      | refine LeO.bind ?_ (fun _ => ?_)
    · intro y0 y1 y2
      unfold laws_FnArgEscaped.j2
      repeat' first
      | (with_reducible exact ih0 _ _ _)
      | (with_reducible exact ih1 _ _ _)
      | (with_reducible exact ih2 _ _ _)
      | (with_reducible exact impl_QuotedArg.mono _ _)
      | (with_reducible exact laws_holds.mono _ _ _)
      | (with_reducible exact laws_reads.mono _)
      | (with_reducible exact laws_sameArgs.mono _ _ _)
      | (with_reducible exact laws_short.mono _ _)
      | (with_reducible exact laws_word.mono _ _)
      | (with_reducible exact LeO.refl _)
      | (with_reducible exact LeO.none _)
      | (with_reducible refine LeO.ite ?_ ?_)
      | (with_reducible refine LeO.bind ?_ (fun _ => ?_))
      | exact ih0 _ _ _
      | exact ih1 _ _ _
      | exact ih2 _ _ _
      | exact impl_QuotedArg.mono _ _
      | exact laws_holds.mono _ _ _
      | exact laws_reads.mono _
      | exact laws_sameArgs.mono _ _ _
      | exact laws_short.mono _ _
      | exact laws_word.mono _ _
      | exact LeO.none _
      | refine LeO.ite ?_ ?_
      | refine LeO.bind ?_ (fun _ => ?_)
theorem laws_FnArgEscaped.mono : ∀ a0 a1 k, LeO (laws_FnArgEscaped.f k a0 a1) (laws_FnArgEscaped.f (k + 1) a0 a1) := by
  intro a0 a1 k
  obtain ⟨ih0, ih1, ih2⟩ := laws_FnArgEscaped.mono_l k
  unfold laws_FnArgEscaped.f
  repeat' first
      | (with_reducible exact ih0 _ _ _)
      | (with_reducible exact ih1 _ _ _)
      | (with_reducible exact ih2 _ _ _)
      | (with_reducible exact impl_QuotedArg.mono _ _)
      | (with_reducible exact laws_holds.mono _ _ _)
      | (with_reducible exact laws_reads.mono _)
      | (with_reducible exact laws_sameArgs.mono _ _ _)
      | (with_reducible exact laws_short.mono _ _)
      | (with_reducible exact laws_word.mono _ _)
      | (with_reducible exact LeO.refl _)
      | (with_reducible exact LeO.none _)
      | (with_reducible refine LeO.ite ?_ ?_)
      | (with_reducible refine LeO.bind ?_ (fun _ => ?_))
      | exact ih0 _ _ _
      | exact ih1 _ _ _
      | exact ih2 _ _ _
      | exact impl_QuotedArg.mono _ _
      | exact laws_holds.mono _ _ _
      | exact laws_reads.mono _
      | exact laws_sameArgs.mono _ _ _
      | exact laws_short.mono _ _
      | exact laws_word.mono _ _
      | exact LeO.none _
      | refine LeO.ite ?_ ?_
      | refine LeO.bind ?_ (fun _ => ?_)
set_option maxHeartbeats 8000000 in
set_option maxRecDepth 100000 in
theorem laws_FnArgEscaped.calls (k : Nat) (a0 : ByteArray) (a1 : ByteArray) (r : Bool) (w : World) (h : laws_FnArgEscaped.f k a0 a1 = some r) :
    Calls Try.prog 12 #[.string a0, .string a1] w fun e w' => e = .returned (.bool r) ∧ Below w.heap.size w w' := by
  have hu36 := Try.underlying36
  have HB := Aside0.mk (Below.refl w.heap.size w)
  have H : (if (a0.size : Int) > 2147483647 then (laws_FnArgEscaped.j0 k a0 a1 true) else (laws_FnArgEscaped.j0 k a0 a1 (decide ((a1.size : Int) > 2147483647)))) = some r := h
  clear h
  have HC3 := Aside0.mk H
  clear H
  go_enter Try.func12, Try.ntmps12
  go_upto_region 1 with (fail)
  go_cut [13] (fun v13 wc => ∃ (kq : Nat) (x13_2 : Bool), v13 = .bool x13_2 ∧ Aside0 (laws_FnArgEscaped.j0 kq a0 a1 x13_2 = some r) ∧ Aside0 (kq ≤ k) ∧ Aside0 (Below w.heap.size w wc))
  case first =>
    have H := HC3.out
    clear HC3
    by_cases c4 : (a0.size : Int) > 2147483647
    · rw [if_pos c4] at H
      have c4b0 : decide (2147483647 < (a0.size : Int)) = true := decide_eq_true c4
      have c4b1 : decide (2147483647 < a0.size) = true := decide_eq_true (by omega)
      clear c4
      (first | rw [c4b0] | (simp only [i64_w, i32_w]; rw [c4b0]) | (rw [Go.Proofs.YtjklempjljikpaaX.isEmpty_eq]; rw [c4b0]) | skip)
      have H' := Aside0.mk H
      clear H
      go_wp2
      go_meet
      case rel => exact ⟨_, (true), (by first | rfl | (simp; done) | (simp [*]; done) | (simp [Go.Proofs.YtjklempjljikpaaX.isEmpty_ne]; done)), H', ⟨by first | omega | exact Nat.le_refl _⟩, ⟨by repeat (first | (with_reducible first | exact HB.out | apply below_alloc | apply pw_below_drewN | apply below_drew1) | exact HB.out)⟩⟩
    · rw [if_neg c4] at H
      have c4b0 : decide (2147483647 < (a0.size : Int)) = false := decide_eq_false c4
      have c4b1 : decide (2147483647 < a0.size) = false := decide_eq_false (by omega)
      clear c4
      (first | rw [c4b0] | (simp only [i64_w, i32_w]; rw [c4b0]) | (rw [Go.Proofs.YtjklempjljikpaaX.isEmpty_eq]; rw [c4b0]) | skip)
      have H' := Aside0.mk H
      clear H
      go_wp2
      go_meet
      case rel => exact ⟨_, (decide ((a1.size : Int) > 2147483647)), (by first | rfl | (simp; done) | (simp [*]; done) | (simp [Go.Proofs.YtjklempjljikpaaX.isEmpty_ne]; done)), H', ⟨by first | omega | exact Nat.le_refl _⟩, ⟨by repeat (first | (with_reducible first | exact HB.out | apply below_alloc | apply pw_below_drewN | apply below_drew1) | exact HB.out)⟩⟩
  case rest =>
    clear HC3
    try clear c1
    try clear p2
    try clear c4
    try clear c4b0
    try clear c4b1
    obtain ⟨kq, x13_2, rfl, HA, HJ2, HB⟩ := hcut
    cases kq with
    | zero => exact absurd HA.out (by simp [laws_FnArgEscaped.j0])
    | succ kj2 =>
      have H := HA.out
      clear HA
      simp only [laws_FnArgEscaped.j0] at H
      by_cases c5 : x13_2 = true
      · subst c5
        have H1 : (some true) = some r := by rw [if_pos rfl] at H; exact H
        clear H
        have H := H1
        clear H1
        obtain rfl := Option.some.inj H
        go_wp2
        go_ret
        exact ⟨by first | rfl | (simp [errW_none, errW_some] <;> rfl) | (simp [*, errW_none, errW_some] <;> rfl), by repeat (first | (with_reducible first | exact HB.out | apply below_alloc | apply pw_below_drewN | apply below_drew1) | exact HB.out)⟩
      · replace c5 := Bool.eq_false_iff.mpr c5
        subst c5
        have H1 : ((impl_QuotedArg.f kj2 (⟨#[97, 32, 98]⟩ : ByteArray)).bind fun t270 => (if t270.toList = ([] : List UInt8) then (laws_FnArgEscaped.j1 kj2 a0 a1 true) else ((laws_reads.f kj2).bind fun t271 => (laws_FnArgEscaped.j1 kj2 a0 a1 (!t271))))) = some r := by rw [if_neg (show ¬ (false = true) by decide)] at H; exact H
        clear H
        have H := H1
        clear H1
        have HC6 := Aside0.mk H
        clear H
        go_upto_region 3 with (fail)
        go_cut [19] (fun v19 wc => ∃ (kq : Nat) (x19_5 : Bool), v19 = .bool x19_5 ∧ Aside0 (laws_FnArgEscaped.j1 kq a0 a1 x19_5 = some r) ∧ Aside0 (kq ≤ kj2) ∧ Aside0 (Below w.heap.size w wc))
        case first =>
          have H := HC6.out
          clear HC6
          replace H := Option.bind_eq_some_iff.mp H
          obtain ⟨t270, A70, H⟩ := H
          replace H : (if t270.toList = ([] : List UInt8) then (laws_FnArgEscaped.j1 kj2 a0 a1 true) else ((laws_reads.f kj2).bind fun t271 => (laws_FnArgEscaped.j1 kj2 a0 a1 (!t271)))) = some r := H
          have A7 := Aside0.mk A70
          clear A70
          by_cases c8 : t270.toList = ([] : List UInt8)
          · rw [if_pos c8] at H
            have c8b0 : (t270.toList == ([] : List UInt8)) = true := beq_iff_eq.mpr c8
            have c8b1 : (t270.toList != ([] : List UInt8)) = false := bne_eq_false_iff_eq.mpr c8
            clear c8
            (first | rw [c8b0] | (simp only [i64_w, i32_w]; rw [c8b0]) | (rw [Go.Proofs.YtjklempjljikpaaX.isEmpty_eq]; rw [c8b0]) | skip)
            have H' := Aside0.mk H
            clear H
            go_wp2_with (first | ((with_reducible refine gate_callee (f := 32) rfl ?_); refine goesL_ (some 14) rfl rfl Try.func32 (by kernel_rfl) rfl #[.string (⟨#[97, 32, 98]⟩ : ByteArray)] rfl (by (try simp only [List.map_toArray, List.map_cons, List.map_nil]); first | done | rfl | (simp only [List.length_drop, List.length_take]; rfl)) ?_; (with_reducible refine (impl_QuotedArg.calls kj2 (⟨#[97, 32, 98]⟩ : ByteArray) t270 _ A7.out).mono ?_); rintro e w9 ⟨rfl, hb⟩; refine ⟨_, rfl, ?_⟩; have n0_ := Aside0.mk (below_step (by repeat (first | (with_reducible first | exact HB.out | apply below_alloc | apply pw_below_drewN | apply below_drew1) | exact HB.out)) hb); clear HB; have HB := n0_; clear n0_; (try clear hb); (try clear hb2); (try clear hk); (try clear hi)))
            go_meet
            case rel => exact ⟨_, (true), (by first | rfl | (simp; done) | (simp [*]; done) | (simp [Go.Proofs.YtjklempjljikpaaX.isEmpty_ne]; done)), H', ⟨by have := HJ2.out; first | omega | exact Nat.le_refl _⟩, ⟨by repeat (first | (with_reducible first | exact HB.out | apply below_alloc | apply pw_below_drewN | apply below_drew1) | exact HB.out)⟩⟩
          · rw [if_neg c8] at H
            have c8b0 : (t270.toList == ([] : List UInt8)) = false := beq_eq_false_iff_ne.mpr c8
            have c8b1 : (t270.toList != ([] : List UInt8)) = true := bne_iff_ne.mpr c8
            (first | rw [c8b0] | (simp only [i64_w, i32_w]; rw [c8b0]) | (rw [Go.Proofs.YtjklempjljikpaaX.isEmpty_eq]; rw [c8b0]) | skip)
            replace H := Option.bind_eq_some_iff.mp H
            obtain ⟨t271, A100, H⟩ := H
            replace H : (laws_FnArgEscaped.j1 kj2 a0 a1 (!t271)) = some r := H
            have A10 := Aside0.mk A100
            clear A100
            have H' := Aside0.mk H
            clear H
            go_wp2_with (first | ((with_reducible refine gate_callee (f := 32) rfl ?_); refine goesL_ (some 14) rfl rfl Try.func32 (by kernel_rfl) rfl #[.string (⟨#[97, 32, 98]⟩ : ByteArray)] rfl (by (try simp only [List.map_toArray, List.map_cons, List.map_nil]); first | done | rfl | (simp only [List.length_drop, List.length_take]; rfl)) ?_; (with_reducible refine (impl_QuotedArg.calls kj2 (⟨#[97, 32, 98]⟩ : ByteArray) t270 _ A7.out).mono ?_); rintro e w11 ⟨rfl, hb⟩; refine ⟨_, rfl, ?_⟩; have n0_ := Aside0.mk (below_step (by repeat (first | (with_reducible first | exact HB.out | apply below_alloc | apply pw_below_drewN | apply below_drew1) | exact HB.out)) hb); clear HB; have HB := n0_; clear n0_; (try clear hb); (try clear hb2); (try clear hk); (try clear hi)) | (go_at_call 22; (with_reducible refine (laws_reads.calls kj2  t271 _ A10.out).mono ?_); rintro e w12 ⟨rfl, hb⟩; have n0_ := Aside0.mk (below_step (by repeat (first | (with_reducible first | exact HB.out | apply below_alloc | apply pw_below_drewN | apply below_drew1) | exact HB.out)) hb); clear HB; have HB := n0_; clear n0_; (try clear hb); (try clear hb2); (try clear hk); (try clear hi)))
            go_meet
            case rel => exact ⟨_, (!t271), (by first | rfl | (simp; done) | (simp [*]; done) | (simp [Go.Proofs.YtjklempjljikpaaX.isEmpty_ne]; done)), H', ⟨by have := HJ2.out; first | omega | exact Nat.le_refl _⟩, ⟨by repeat (first | (with_reducible first | exact HB.out | apply below_alloc | apply pw_below_drewN | apply below_drew1) | exact HB.out)⟩⟩
        case rest =>
          clear HC6
          try clear c1
          try clear p2
          try clear c3
          try clear c4
          try clear c4b0
          try clear c4b1
          try clear c5
          try clear c8
          try clear c8b0
          try clear c8b1
          try clear c12
          try clear p2
          obtain ⟨kq, x19_5, rfl, HA, HJ5, HB⟩ := hcut
          cases kq with
          | zero => exact absurd HA.out (by simp [laws_FnArgEscaped.j1])
          | succ kj5 =>
            have H := HA.out
            clear HA
            simp only [laws_FnArgEscaped.j1] at H
            by_cases c13 : x19_5 = true
            · subst c13
              have H1 : (some false) = some r := by rw [if_pos rfl] at H; exact H
              clear H
              have H := H1
              clear H1
              obtain rfl := Option.some.inj H
              go_wp2
              go_ret
              exact ⟨by first | rfl | (simp [errW_none, errW_some] <;> rfl) | (simp [*, errW_none, errW_some] <;> rfl), by repeat (first | (with_reducible first | exact HB.out | apply below_alloc | apply pw_below_drewN | apply below_drew1) | exact HB.out)⟩
            · replace c13 := Bool.eq_false_iff.mpr c13
              subst c13
              have H1 : ((laws_word.f kj5 a0).bind fun t272 => (if t272 = true then ((laws_short.f kj5 (([a0, a1] : List ByteArray))).bind fun t276 => (laws_FnArgEscaped.j2 kj5 a0 a1 (!t276))) else (laws_FnArgEscaped.j2 kj5 a0 a1 true))) = some r := by rw [if_neg (show ¬ (false = true) by decide)] at H; exact H
              clear H
              have H := H1
              clear H1
              have HC14 := Aside0.mk H
              clear H
              go_upto_region 5 with (fail)
              go_cut [29] (fun v29 wc => ∃ (kq : Nat) (x29_13 : Bool), v29 = .bool x29_13 ∧ Aside0 (laws_FnArgEscaped.j2 kq a0 a1 x29_13 = some r) ∧ Aside0 (kq ≤ kj5) ∧ Aside0 (Below w.heap.size w wc))
              case first =>
                have H := HC14.out
                clear HC14
                replace H := Option.bind_eq_some_iff.mp H
                obtain ⟨t272, A150, H⟩ := H
                replace H : (if t272 = true then ((laws_short.f kj5 (([a0, a1] : List ByteArray))).bind fun t276 => (laws_FnArgEscaped.j2 kj5 a0 a1 (!t276))) else (laws_FnArgEscaped.j2 kj5 a0 a1 true)) = some r := H
                have A15 := Aside0.mk A150
                clear A150
                by_cases c16 : t272 = true
                · subst c16
                  have H1 : ((laws_short.f kj5 (([a0, a1] : List ByteArray))).bind fun t276 => (laws_FnArgEscaped.j2 kj5 a0 a1 (!t276))) = some r := by rw [if_pos rfl] at H; exact H
                  clear H
                  have H := H1
                  clear H1
                  obtain ⟨y273, hy273⟩ : ∃ y_ : List ByteArray, y_ = (([a0, a1] : List ByteArray)) := ⟨_, rfl⟩
                  replace H : ((laws_short.f kj5 y273).bind fun t276 => (laws_FnArgEscaped.j2 kj5 a0 a1 (!t276))) = some r := by first | (rw [hy273]; with_reducible exact H) | (have H2_ := (Option.bind_some _ _).symm.trans H; rw [hy273]; with_reducible exact H2_) | (have H2_ := (Option.bind_some _ _).symm.trans H; with_reducible exact H2_) | with_reducible exact H | (rw [hy273]; exact H) | exact H
                  have Ny273 := Aside0.mk hy273
                  clear hy273
                  replace H := Option.bind_eq_some_iff.mp H
                  obtain ⟨t276, A170, H⟩ := H
                  replace H : (laws_FnArgEscaped.j2 kj5 a0 a1 (!t276)) = some r := H
                  have A17 := Aside0.mk A170
                  clear A170
                  have H' := Aside0.mk H
                  clear H
                  go_wp2_with (first | ((with_reducible refine gate_callee (f := 21) rfl ?_); refine goesL_ (some 21) rfl rfl Try.func21 (by kernel_rfl) rfl #[.string a0] rfl (by (try simp only [List.map_toArray, List.map_cons, List.map_nil]); first | done | rfl | (simp only [List.length_drop, List.length_take]; rfl)) ?_; (with_reducible refine (laws_word.calls kj5 a0 true _ A15.out).mono ?_); rintro e w' ⟨rfl, ⟨nd, rfl⟩⟩; refine ⟨_, rfl, ?_⟩) | ((with_reducible refine gate_dst (N := 26) rfl ?_); (try (refine gate_guard (by rfl) ?_; dsimp only)); refine Kd.R_lit Kd.string _ 9 ?hg (N := 26) ?hd (xs := ([a0, a1] : List ByteArray)) (inner := [.string a0, .string a1]) (ok := fun _ => True) (okp := fun _ => True) ?hr ?hp (fun _ hk => hk) trivial (Below.refl _ _) (Nat.le_refl _) (by simp) ?_; (case hd => rfl); (case hg => rfl); (case hr => first | (go_simp; done) | (go_simp; rfl)); (case hp => exact (Reps.one (show Kd.M Kd.string _ _ _ a0 [.string a0] from rfl) (Reps.one (show Kd.M Kd.string _ _ _ a1 [.string a1] from rfl) (Reps.none _ _)))); intro v274 w18 ho19 hb hg_ hnew_; clear hg_ hnew_; (first | rw [← Ny273.out] at ho19 | (simp only [Int.reduceToNat] at ho19; rw [← Ny273.out] at ho19)); have n0_ := Aside0.mk (Kd.R_lower ho19 (below_size (by repeat (first | (with_reducible first | exact HB.out | apply below_alloc | apply pw_below_drewN | apply below_drew1) | exact HB.out)))); have n1_ := Aside0.mk (below_step (by repeat (first | (with_reducible first | exact HB.out | apply below_alloc | apply pw_below_drewN | apply below_drew1) | exact HB.out)) hb); clear HB; have HO275 := n0_; have HB := n1_; clear n0_ n1_; clear hb ho19; obtain ⟨Ao20, co20, eo20⟩ := Kd.R_slice HO275.out; subst eo20) | (go_at_call 14; (with_reducible refine (laws_short.calls kj5 _ _ y273 t276 _ ?side1 ?side2 A17.out).mono ?_); (case side1 => repeat (first | exact (Kd.R_reads' HO275.out).2.2 | (with_reducible refine Kd.C_alloc ?_ _) | (with_reducible refine Kd.C_drewN ?_ _) | (with_reducible refine Kd.C_drew ?_))); (case side2 => exact (Kd.R_reads' HO275.out).2.1); rintro e w' ⟨rfl, ⟨nd, rfl⟩⟩))
                  go_meet
                  case rel => exact ⟨_, (!t276), (by first | rfl | (simp; done) | (simp [*]; done) | (simp [Go.Proofs.YtjklempjljikpaaX.isEmpty_ne]; done)), H', ⟨by have := HJ2.out; have := HJ5.out; first | omega | exact Nat.le_refl _⟩, ⟨by repeat (first | (with_reducible first | exact HB.out | apply below_alloc | apply pw_below_drewN | apply below_drew1) | exact HB.out)⟩⟩
                · replace c16 := Bool.eq_false_iff.mpr c16
                  subst c16
                  have H1 : (laws_FnArgEscaped.j2 kj5 a0 a1 true) = some r := by rw [if_neg (show ¬ (false = true) by decide)] at H; exact H
                  clear H
                  have H := H1
                  clear H1
                  have H' := Aside0.mk H
                  clear H
                  go_wp2_with (first | ((with_reducible refine gate_callee (f := 21) rfl ?_); refine goesL_ (some 21) rfl rfl Try.func21 (by kernel_rfl) rfl #[.string a0] rfl (by (try simp only [List.map_toArray, List.map_cons, List.map_nil]); first | done | rfl | (simp only [List.length_drop, List.length_take]; rfl)) ?_; (with_reducible refine (laws_word.calls kj5 a0 false _ A15.out).mono ?_); rintro e w' ⟨rfl, ⟨nd, rfl⟩⟩; refine ⟨_, rfl, ?_⟩))
                  go_meet
                  case rel => exact ⟨_, (true), (by first | rfl | (simp; done) | (simp [*]; done) | (simp [Go.Proofs.YtjklempjljikpaaX.isEmpty_ne]; done)), H', ⟨by have := HJ2.out; have := HJ5.out; first | omega | exact Nat.le_refl _⟩, ⟨by repeat (first | (with_reducible first | exact HB.out | apply below_alloc | apply pw_below_drewN | apply below_drew1) | exact HB.out)⟩⟩
              case rest =>
                clear HC14
                try clear c1
                try clear c2
                try clear p2
                try clear c3
                try clear c4
                try clear c4b0
                try clear c4b1
                try clear c5
                try clear c8
                try clear c8b0
                try clear c8b1
                try clear c12
                try clear c13
                try clear c16
                try clear p2
                obtain ⟨kq, x29_13, rfl, HA, HJ13, HB⟩ := hcut
                cases kq with
                | zero => exact absurd HA.out (by simp [laws_FnArgEscaped.j2])
                | succ kj13 =>
                  have H := HA.out
                  clear HA
                  simp only [laws_FnArgEscaped.j2] at H
                  by_cases c21 : x29_13 = true
                  · subst c21
                    have H1 : (some true) = some r := by rw [if_pos rfl] at H; exact H
                    clear H
                    have H := H1
                    clear H1
                    obtain rfl := Option.some.inj H
                    go_wp2
                    go_ret
                    exact ⟨by first | rfl | (simp [errW_none, errW_some] <;> rfl) | (simp [*, errW_none, errW_some] <;> rfl), by repeat (first | (with_reducible first | exact HB.out | apply below_alloc | apply pw_below_drewN | apply below_drew1) | exact HB.out)⟩
                  · replace c21 := Bool.eq_false_iff.mpr c21
                    subst c21
                    have H1 : ((impl_QuotedArg.f kj13 a1).bind fun t277 => ((laws_holds.f kj13 t277 38).bind fun t278 => (if t278 = true then (some false) else ((laws_holds.f kj13 t277 32).bind fun t279 => (if t279 = true then (some false) else ((laws_holds.f kj13 t277 35).bind fun t280 => (if t280 = true then (some false) else (if a0.size + 1 ≤ 9223372036854775807 then (if a0.size + 1 + t277.size ≤ 9223372036854775807 then ((impl_ArgsOf.f ((a0 ++ (⟨#[61]⟩ : ByteArray)) ++ t277)).bind fun t281 => ((laws_sameArgs.f kj13 t281 (([(⟨a0, a1, false⟩ : S36)] : List (S36)))).bind fun t287 => (some t287))) else (none)) else (none))))))))) = some r := by rw [if_neg (show ¬ (false = true) by decide)] at H; exact H
                    clear H
                    have H := H1
                    clear H1
                    replace H := Option.bind_eq_some_iff.mp H
                    obtain ⟨t277, A220, H⟩ := H
                    replace H : ((laws_holds.f kj13 t277 38).bind fun t278 => (if t278 = true then (some false) else ((laws_holds.f kj13 t277 32).bind fun t279 => (if t279 = true then (some false) else ((laws_holds.f kj13 t277 35).bind fun t280 => (if t280 = true then (some false) else (if a0.size + 1 ≤ 9223372036854775807 then (if a0.size + 1 + t277.size ≤ 9223372036854775807 then ((impl_ArgsOf.f ((a0 ++ (⟨#[61]⟩ : ByteArray)) ++ t277)).bind fun t281 => ((laws_sameArgs.f kj13 t281 (([(⟨a0, a1, false⟩ : S36)] : List (S36)))).bind fun t287 => (some t287))) else (none)) else (none)))))))) = some r := H
                    have A22 := Aside0.mk A220
                    clear A220
                    replace H := Option.bind_eq_some_iff.mp H
                    obtain ⟨t278, A230, H⟩ := H
                    replace H : (if t278 = true then (some false) else ((laws_holds.f kj13 t277 32).bind fun t279 => (if t279 = true then (some false) else ((laws_holds.f kj13 t277 35).bind fun t280 => (if t280 = true then (some false) else (if a0.size + 1 ≤ 9223372036854775807 then (if a0.size + 1 + t277.size ≤ 9223372036854775807 then ((impl_ArgsOf.f ((a0 ++ (⟨#[61]⟩ : ByteArray)) ++ t277)).bind fun t281 => ((laws_sameArgs.f kj13 t281 (([(⟨a0, a1, false⟩ : S36)] : List (S36)))).bind fun t287 => (some t287))) else (none)) else (none))))))) = some r := H
                    have A23 := Aside0.mk A230
                    clear A230
                    by_cases c24 : t278 = true
                    · subst c24
                      have H1 : (some false) = some r := by rw [if_pos rfl] at H; exact H
                      clear H
                      have H := H1
                      clear H1
                      obtain rfl := Option.some.inj H
                      go_wp2_with (first | ((with_reducible refine gate_callee (f := 32) rfl ?_); refine goesL_ (some 31) rfl rfl Try.func32 (by kernel_rfl) rfl #[.string a1] rfl (by (try simp only [List.map_toArray, List.map_cons, List.map_nil]); first | done | rfl | (simp only [List.length_drop, List.length_take]; rfl)) ?_; (with_reducible refine (impl_QuotedArg.calls kj13 a1 t277 _ A22.out).mono ?_); rintro e w25 ⟨rfl, hb⟩; refine ⟨_, rfl, ?_⟩; have n0_ := Aside0.mk (below_step (by repeat (first | (with_reducible first | exact HB.out | apply below_alloc | apply pw_below_drewN | apply below_drew1) | exact HB.out)) hb); clear HB; have HB := n0_; clear n0_; (try clear hb); (try clear hb2); (try clear hk); (try clear hi)) | ((with_reducible refine gate_callee (f := 19) rfl ?_); refine goesL_ (some 33) rfl rfl Try.func19 (by kernel_rfl) rfl #[.string t277, .int .u8 38] rfl (by (try simp only [List.map_toArray, List.map_cons, List.map_nil]); first | done | rfl | (simp only [List.length_drop, List.length_take]; rfl)) ?_; (with_reducible refine (laws_holds.calls kj13 t277 38 true _ A23.out).mono ?_); rintro e w' ⟨rfl, ⟨nd, rfl⟩⟩; refine ⟨_, rfl, ?_⟩))
                      go_ret
                      exact ⟨by first | rfl | (simp [errW_none, errW_some] <;> rfl) | (simp [*, errW_none, errW_some] <;> rfl), by repeat (first | (with_reducible first | exact HB.out | apply below_alloc | apply pw_below_drewN | apply below_drew1) | exact HB.out)⟩
                    · replace c24 := Bool.eq_false_iff.mpr c24
                      subst c24
                      have H1 : ((laws_holds.f kj13 t277 32).bind fun t279 => (if t279 = true then (some false) else ((laws_holds.f kj13 t277 35).bind fun t280 => (if t280 = true then (some false) else (if a0.size + 1 ≤ 9223372036854775807 then (if a0.size + 1 + t277.size ≤ 9223372036854775807 then ((impl_ArgsOf.f ((a0 ++ (⟨#[61]⟩ : ByteArray)) ++ t277)).bind fun t281 => ((laws_sameArgs.f kj13 t281 (([(⟨a0, a1, false⟩ : S36)] : List (S36)))).bind fun t287 => (some t287))) else (none)) else (none)))))) = some r := by rw [if_neg (show ¬ (false = true) by decide)] at H; exact H
                      clear H
                      have H := H1
                      clear H1
                      replace H := Option.bind_eq_some_iff.mp H
                      obtain ⟨t279, A260, H⟩ := H
                      replace H : (if t279 = true then (some false) else ((laws_holds.f kj13 t277 35).bind fun t280 => (if t280 = true then (some false) else (if a0.size + 1 ≤ 9223372036854775807 then (if a0.size + 1 + t277.size ≤ 9223372036854775807 then ((impl_ArgsOf.f ((a0 ++ (⟨#[61]⟩ : ByteArray)) ++ t277)).bind fun t281 => ((laws_sameArgs.f kj13 t281 (([(⟨a0, a1, false⟩ : S36)] : List (S36)))).bind fun t287 => (some t287))) else (none)) else (none))))) = some r := H
                      have A26 := Aside0.mk A260
                      clear A260
                      by_cases c27 : t279 = true
                      · subst c27
                        have H1 : (some false) = some r := by rw [if_pos rfl] at H; exact H
                        clear H
                        have H := H1
                        clear H1
                        obtain rfl := Option.some.inj H
                        go_wp2_with (first | ((with_reducible refine gate_callee (f := 32) rfl ?_); refine goesL_ (some 31) rfl rfl Try.func32 (by kernel_rfl) rfl #[.string a1] rfl (by (try simp only [List.map_toArray, List.map_cons, List.map_nil]); first | done | rfl | (simp only [List.length_drop, List.length_take]; rfl)) ?_; (with_reducible refine (impl_QuotedArg.calls kj13 a1 t277 _ A22.out).mono ?_); rintro e w28 ⟨rfl, hb⟩; refine ⟨_, rfl, ?_⟩; have n0_ := Aside0.mk (below_step (by repeat (first | (with_reducible first | exact HB.out | apply below_alloc | apply pw_below_drewN | apply below_drew1) | exact HB.out)) hb); clear HB; have HB := n0_; clear n0_; (try clear hb); (try clear hb2); (try clear hk); (try clear hi)) | ((with_reducible refine gate_callee (f := 19) rfl ?_); refine goesL_ (some 33) rfl rfl Try.func19 (by kernel_rfl) rfl #[.string t277, .int .u8 38] rfl (by (try simp only [List.map_toArray, List.map_cons, List.map_nil]); first | done | rfl | (simp only [List.length_drop, List.length_take]; rfl)) ?_; (with_reducible refine (laws_holds.calls kj13 t277 38 false _ A23.out).mono ?_); rintro e w' ⟨rfl, ⟨nd, rfl⟩⟩; refine ⟨_, rfl, ?_⟩) | (go_at_call 19; (with_reducible refine (laws_holds.calls kj13 t277 32 true _ A26.out).mono ?_); rintro e w' ⟨rfl, ⟨nd, rfl⟩⟩))
                        go_ret
                        exact ⟨by first | rfl | (simp [errW_none, errW_some] <;> rfl) | (simp [*, errW_none, errW_some] <;> rfl), by repeat (first | (with_reducible first | exact HB.out | apply below_alloc | apply pw_below_drewN | apply below_drew1) | exact HB.out)⟩
                      · replace c27 := Bool.eq_false_iff.mpr c27
                        subst c27
                        have H1 : ((laws_holds.f kj13 t277 35).bind fun t280 => (if t280 = true then (some false) else (if a0.size + 1 ≤ 9223372036854775807 then (if a0.size + 1 + t277.size ≤ 9223372036854775807 then ((impl_ArgsOf.f ((a0 ++ (⟨#[61]⟩ : ByteArray)) ++ t277)).bind fun t281 => ((laws_sameArgs.f kj13 t281 (([(⟨a0, a1, false⟩ : S36)] : List (S36)))).bind fun t287 => (some t287))) else (none)) else (none)))) = some r := by rw [if_neg (show ¬ (false = true) by decide)] at H; exact H
                        clear H
                        have H := H1
                        clear H1
                        replace H := Option.bind_eq_some_iff.mp H
                        obtain ⟨t280, A290, H⟩ := H
                        replace H : (if t280 = true then (some false) else (if a0.size + 1 ≤ 9223372036854775807 then (if a0.size + 1 + t277.size ≤ 9223372036854775807 then ((impl_ArgsOf.f ((a0 ++ (⟨#[61]⟩ : ByteArray)) ++ t277)).bind fun t281 => ((laws_sameArgs.f kj13 t281 (([(⟨a0, a1, false⟩ : S36)] : List (S36)))).bind fun t287 => (some t287))) else (none)) else (none))) = some r := H
                        have A29 := Aside0.mk A290
                        clear A290
                        by_cases c30 : t280 = true
                        · subst c30
                          have H1 : (some false) = some r := by rw [if_pos rfl] at H; exact H
                          clear H
                          have H := H1
                          clear H1
                          obtain rfl := Option.some.inj H
                          go_wp2_with (first | ((with_reducible refine gate_callee (f := 32) rfl ?_); refine goesL_ (some 31) rfl rfl Try.func32 (by kernel_rfl) rfl #[.string a1] rfl (by (try simp only [List.map_toArray, List.map_cons, List.map_nil]); first | done | rfl | (simp only [List.length_drop, List.length_take]; rfl)) ?_; (with_reducible refine (impl_QuotedArg.calls kj13 a1 t277 _ A22.out).mono ?_); rintro e w31 ⟨rfl, hb⟩; refine ⟨_, rfl, ?_⟩; have n0_ := Aside0.mk (below_step (by repeat (first | (with_reducible first | exact HB.out | apply below_alloc | apply pw_below_drewN | apply below_drew1) | exact HB.out)) hb); clear HB; have HB := n0_; clear n0_; (try clear hb); (try clear hb2); (try clear hk); (try clear hi)) | ((with_reducible refine gate_callee (f := 19) rfl ?_); refine goesL_ (some 33) rfl rfl Try.func19 (by kernel_rfl) rfl #[.string t277, .int .u8 38] rfl (by (try simp only [List.map_toArray, List.map_cons, List.map_nil]); first | done | rfl | (simp only [List.length_drop, List.length_take]; rfl)) ?_; (with_reducible refine (laws_holds.calls kj13 t277 38 false _ A23.out).mono ?_); rintro e w' ⟨rfl, ⟨nd, rfl⟩⟩; refine ⟨_, rfl, ?_⟩) | (go_at_call 19; (with_reducible refine (laws_holds.calls kj13 t277 32 false _ A26.out).mono ?_); rintro e w' ⟨rfl, ⟨nd, rfl⟩⟩) | (go_at_call 19; (with_reducible refine (laws_holds.calls kj13 t277 35 true _ A29.out).mono ?_); rintro e w' ⟨rfl, ⟨nd, rfl⟩⟩))
                          go_ret
                          exact ⟨by first | rfl | (simp [errW_none, errW_some] <;> rfl) | (simp [*, errW_none, errW_some] <;> rfl), by repeat (first | (with_reducible first | exact HB.out | apply below_alloc | apply pw_below_drewN | apply below_drew1) | exact HB.out)⟩
                        · replace c30 := Bool.eq_false_iff.mpr c30
                          subst c30
                          have H1 : (if a0.size + 1 ≤ 9223372036854775807 then (if a0.size + 1 + t277.size ≤ 9223372036854775807 then ((impl_ArgsOf.f ((a0 ++ (⟨#[61]⟩ : ByteArray)) ++ t277)).bind fun t281 => ((laws_sameArgs.f kj13 t281 (([(⟨a0, a1, false⟩ : S36)] : List (S36)))).bind fun t287 => (some t287))) else (none)) else (none)) = some r := by rw [if_neg (show ¬ (false = true) by decide)] at H; exact H
                          clear H
                          have H := H1
                          clear H1
                          by_cases c32 : a0.size + 1 ≤ 9223372036854775807
                          · rw [if_pos c32] at H
                            have c32b0 := eq_true c32
                            have c32b1 : decide (a0.size + 1 ≤ 9223372036854775807) = true := decide_eq_true c32
                            try have c32b2 : (9223372036854775807 < a0.size + 1) = False := eq_false (Nat.not_lt.2 c32)
                            by_cases c33 : a0.size + 1 + t277.size ≤ 9223372036854775807
                            · rw [if_pos c33] at H
                              have c33b0 := eq_true c33
                              have c33b1 : decide (a0.size + 1 + t277.size ≤ 9223372036854775807) = true := decide_eq_true c33
                              try have c33b2 : (9223372036854775807 < a0.size + 1 + t277.size) = False := eq_false (Nat.not_lt.2 c33)
                              replace H := Option.bind_eq_some_iff.mp H
                              obtain ⟨t281, A340, H⟩ := H
                              replace H : ((laws_sameArgs.f kj13 t281 (([(⟨a0, a1, false⟩ : S36)] : List (S36)))).bind fun t287 => (some t287)) = some r := H
                              have A34 := Aside0.mk A340
                              clear A340
                              obtain ⟨y284, hy284⟩ : ∃ y_ : List (S36), y_ = (([(⟨a0, a1, false⟩ : S36)] : List (S36))) := ⟨_, rfl⟩
                              replace H : ((laws_sameArgs.f kj13 t281 y284).bind fun t287 => (some t287)) = some r := by first | (rw [hy284]; with_reducible exact H) | (have H2_ := (Option.bind_some _ _).symm.trans H; rw [hy284]; with_reducible exact H2_) | (have H2_ := (Option.bind_some _ _).symm.trans H; with_reducible exact H2_) | with_reducible exact H | (rw [hy284]; exact H) | exact H
                              have Ny284 := Aside0.mk hy284
                              clear hy284
                              replace H := Option.bind_eq_some_iff.mp H
                              obtain ⟨t287, A350, H⟩ := H
                              replace H : (some t287) = some r := H
                              have A35 := Aside0.mk A350
                              clear A350
                              obtain rfl := Option.some.inj H
                              go_wp2_with (first | ((with_reducible refine gate_callee (f := 32) rfl ?_); refine goesL_ (some 31) rfl rfl Try.func32 (by kernel_rfl) rfl #[.string a1] rfl (by (try simp only [List.map_toArray, List.map_cons, List.map_nil]); first | done | rfl | (simp only [List.length_drop, List.length_take]; rfl)) ?_; (with_reducible refine (impl_QuotedArg.calls kj13 a1 t277 _ A22.out).mono ?_); rintro e w36 ⟨rfl, hb⟩; refine ⟨_, rfl, ?_⟩; have n0_ := Aside0.mk (below_step (by repeat (first | (with_reducible first | exact HB.out | apply below_alloc | apply pw_below_drewN | apply below_drew1) | exact HB.out)) hb); clear HB; have HB := n0_; clear n0_; (try clear hb); (try clear hb2); (try clear hk); (try clear hi)) | ((with_reducible refine gate_callee (f := 19) rfl ?_); refine goesL_ (some 33) rfl rfl Try.func19 (by kernel_rfl) rfl #[.string t277, .int .u8 38] rfl (by (try simp only [List.map_toArray, List.map_cons, List.map_nil]); first | done | rfl | (simp only [List.length_drop, List.length_take]; rfl)) ?_; (with_reducible refine (laws_holds.calls kj13 t277 38 false _ A23.out).mono ?_); rintro e w' ⟨rfl, ⟨nd, rfl⟩⟩; refine ⟨_, rfl, ?_⟩) | (go_at_call 19; (with_reducible refine (laws_holds.calls kj13 t277 32 false _ A26.out).mono ?_); rintro e w' ⟨rfl, ⟨nd, rfl⟩⟩) | (go_at_call 19; (with_reducible refine (laws_holds.calls kj13 t277 35 false _ A29.out).mono ?_); rintro e w' ⟨rfl, ⟨nd, rfl⟩⟩) | (go_at_call 23; (with_reducible refine (impl_ArgsOf.calls ((a0 ++ (⟨#[61]⟩ : ByteArray)) ++ t277) t281 _ A34.out).mono ?_); rintro e w37 ⟨v282, rfl, ho0, hb⟩; have n0_ := Aside0.mk (Kd.R_lower ho0 (below_size (by repeat (first | (with_reducible first | exact HB.out | apply below_alloc | apply pw_below_drewN | apply below_drew1) | exact HB.out)))); have n1_ := Aside0.mk (below_step (by repeat (first | (with_reducible first | exact HB.out | apply below_alloc | apply pw_below_drewN | apply below_drew1) | exact HB.out)) hb); clear HB; have HO283 := n0_; have HB := n1_; clear n0_ n1_; (try clear hb); (try clear hb2); (try clear hk); (try clear hi); (try clear ho0)) | ((with_reducible refine gate_dst (N := 54) rfl ?_); (try (refine gate_guard (by rfl) ?_; dsimp only)); refine Kd.R_lit k36 _ 36 ?hg (N := 54) ?hd (xs := ([(⟨a0, a1, false⟩ : S36)] : List (S36))) (inner := [.string a0, .string a1, .bool false]) (ok := fun _ => True) (okp := fun _ => True) ?hr ?hp (fun _ hk => hk) trivial (Below.refl _ _) (Nat.le_refl _) (by simp) ?_; (case hd => rfl); (case hg => rfl); (case hr => first | (go_simp; done) | (go_simp; rfl)); (case hp => exact (Reps.c3 (show Kd.M k36 _ _ _ (⟨a0, a1, false⟩ : S36) [.string a0, .string a1, .bool false] from (k36_mkM _ _ _ (⟨a0, a1, false⟩ : S36) )) (Reps.none _ _))); intro v285 w38 ho39 hb hg_ hnew_; clear hg_ hnew_; (first | rw [← Ny284.out] at ho39 | (simp only [Int.reduceToNat] at ho39; rw [← Ny284.out] at ho39)); have n0_ := Aside0.mk (Kd.R_elder' (by (with_reducible repeat (first | apply Kd.R_alloc | apply Kd.R_drewN | apply Kd.R_drew)); exact HO283.out) (Kd.R_base ho39) hb); have n1_ := Aside0.mk (Kd.R_lower (Kd.R_new' ho39 (Kd.R_lt (by (with_reducible repeat (first | apply Kd.R_alloc | apply Kd.R_drewN | apply Kd.R_drew)); exact HO283.out))) (below_size (by repeat (first | (with_reducible first | exact HB.out | apply below_alloc | apply pw_below_drewN | apply below_drew1) | exact HB.out)))); have n2_ := Aside0.mk (below_step (by repeat (first | (with_reducible first | exact HB.out | apply below_alloc | apply pw_below_drewN | apply below_drew1) | exact HB.out)) hb); clear HO283; clear HB; have HO283 := n0_; have HO286 := n1_; have HB := n2_; clear n0_ n1_ n2_; clear hb ho39; obtain ⟨Ao40, co40, eo40⟩ := Kd.R_slice HO283.out; subst eo40; obtain ⟨Ao41, co41, eo41⟩ := Kd.R_slice HO286.out; subst eo41) | (go_at_call 24; (with_reducible refine (laws_sameArgs.calls kj13 _ _ t281 _ _ y284 t287 _ ?side1 ?side2 ?side3 ?side4 A35.out).mono ?_); (case side1 => repeat (first | exact (Kd.R_reads' HO283.out).2.2 | (with_reducible refine Kd.C_alloc ?_ _) | (with_reducible refine Kd.C_drewN ?_ _) | (with_reducible refine Kd.C_drew ?_))); (case side2 => exact (Kd.R_reads' HO283.out).2.1); (case side3 => repeat (first | exact (Kd.R_reads' HO286.out).2.2 | (with_reducible refine Kd.C_alloc ?_ _) | (with_reducible refine Kd.C_drewN ?_ _) | (with_reducible refine Kd.C_drew ?_))); (case side4 => exact (Kd.R_reads' HO286.out).2.1); rintro e w' ⟨rfl, ⟨nd, rfl⟩⟩))
                              any_goals (try (exfalso; have zc32b1 := of_decide_eq_true c32b1; have zc33b1 := of_decide_eq_true c33b1; omega))
                              go_ret
                              exact ⟨by first | rfl | (simp [errW_none, errW_some] <;> rfl) | (simp [*, errW_none, errW_some] <;> rfl), by repeat (first | (with_reducible first | exact HB.out | apply below_alloc | apply pw_below_drewN | apply below_drew1) | exact HB.out)⟩
                            · rw [if_neg c33] at H
                              exact absurd H (by simp)
                          · rw [if_neg c32] at H
                            exact absurd H (by simp)

/-- THE ONE PURE STATEMENT of laws_FnArgEscaped: yours. -/
def laws_FnArgEscaped.Pure : Prop := ∀ (a0 : ByteArray) (a1 : ByteArray), a0.size ≤ 140737488351232 → a1.size ≤ 140737488351232 → ∃ k, laws_FnArgEscaped.f k a0 a1 = some true
theorem laws_FnArgEscaped.walk (P : laws_FnArgEscaped.Pure) (a0 : ByteArray) (a1 : ByteArray) (w : World) (w0 : a0.size ≤ 140737488351232) (w1 : a1.size ≤ 140737488351232) :
    Calls Try.prog 12 #[.string a0, .string a1] w fun e w' => e = .returned (.bool true) ∧ Below w.heap.size w w' := by
  obtain ⟨k, h⟩ := P a0 a1 w0 w1
  refine (laws_FnArgEscaped.calls k a0 a1 true w h).mono ?_
  rintro e w' ⟨rfl, hd⟩
  exact ⟨rfl, hd⟩

end Go.Proofs.Ytjklempjljikpaa.Q

-- Written by a program of this session out of the translation, with the kit's printer. Not trusted: Lean checks it.
namespace Go.Proofs.Ytjklempjljikpaa.Q
open Go.RowKit Go.Proofs.YtjklempjljikpaaW.PrintWords Go.Proofs.YtjklempjljikpaaW.PrintLast Go.Proofs.YtjklempjljikpaaW.PrintMore
attribute [local go_sem] max2_int min2_int max_two min_two max_three min_three max_four min_four   -- for this text's walks alone
set_option linter.unusedVariables false
set_option linter.unusedSimpArgs false

/-! ### laws_FnArgsJoined: function 9 -/
def laws_FnArgsJoined.j0 : Nat → ByteArray → ByteArray → Bool → Option (Bool)
  | 0, _, _, _ => none
  | k + 1, x0, x1, x12 => if x12 = true then (some true) else ((laws_reads.f k).bind fun t288 => (if t288 = true then ((laws_short.f k (([x0, x1] : List ByteArray))).bind fun t292 => (if t292 = true then (if x0.size + 1 ≤ 9223372036854775807 then (if x0.size + 1 + x1.size ≤ 9223372036854775807 then ((impl_ArgsOf.f ((x0 ++ (⟨#[38]⟩ : ByteArray)) ++ x1)).bind fun t293 => ((some (([] : List (S36)) : List (S36))).bind fun y296 => ((impl_ArgsOf.f x0).bind fun t299 => (if y296.length + t299.length < 3518437208883 then ((some (y296 ++ t299 : List (S36))).bind fun y302 => ((impl_ArgsOf.f x1).bind fun t305 => (if y302.length + t305.length < 3518437208883 then ((laws_sameArgs.f k t293 (y302 ++ t305)).bind fun t311 => (some t311)) else (none)))) else (none))))) else (none)) else (none)) else (some true))) else (some false)))
def laws_FnArgsJoined.f (k : Nat) (a0 : ByteArray) (a1 : ByteArray) : Option (Bool) := if (a0.size : Int) > 2147483647 then (laws_FnArgsJoined.j0 k a0 a1 true) else (laws_FnArgsJoined.j0 k a0 a1 (decide ((a1.size : Int) > 2147483647)))
theorem laws_FnArgsJoined.mono_l : ∀ k, (∀ y0 y1 y2, LeO (laws_FnArgsJoined.j0 k y0 y1 y2) (laws_FnArgsJoined.j0 (k + 1) y0 y1 y2))
  | 0 => fun _ _ _ r h => by simp [laws_FnArgsJoined.j0] at h
  | k + 1 => by
    have ih0 := laws_FnArgsJoined.mono_l k
    · intro y0 y1 y2
      unfold laws_FnArgsJoined.j0
      repeat' first
      | (with_reducible exact ih0 _ _ _)
      | (with_reducible exact laws_reads.mono _)
      | (with_reducible exact laws_sameArgs.mono _ _ _)
      | (with_reducible exact laws_short.mono _ _)
      | (with_reducible exact LeO.refl _)
      | (with_reducible exact LeO.none _)
      | (with_reducible refine LeO.ite ?_ ?_)
      | (with_reducible refine LeO.bind ?_ (fun _ => ?_))
      | exact ih0 _ _ _
      | exact laws_reads.mono _
      | exact laws_sameArgs.mono _ _ _
      | exact laws_short.mono _ _
      | exact LeO.none _
      | refine LeO.ite ?_ ?_
      | refine LeO.bind ?_ (fun _ => ?_)
theorem laws_FnArgsJoined.mono : ∀ a0 a1 k, LeO (laws_FnArgsJoined.f k a0 a1) (laws_FnArgsJoined.f (k + 1) a0 a1) := by
  intro a0 a1 k
  have ih0 := laws_FnArgsJoined.mono_l k
  unfold laws_FnArgsJoined.f
  repeat' first
      | (with_reducible exact ih0 _ _ _)
      | (with_reducible exact laws_reads.mono _)
      | (with_reducible exact laws_sameArgs.mono _ _ _)
      | (with_reducible exact laws_short.mono _ _)
      | (with_reducible exact LeO.refl _)
      | (with_reducible exact LeO.none _)
      | (with_reducible refine LeO.ite ?_ ?_)
      | (with_reducible refine LeO.bind ?_ (fun _ => ?_))
      | exact ih0 _ _ _
      | exact laws_reads.mono _
      | exact laws_sameArgs.mono _ _ _
      | exact laws_short.mono _ _
      | exact LeO.none _
      | refine LeO.ite ?_ ?_
      | refine LeO.bind ?_ (fun _ => ?_)
set_option maxHeartbeats 8000000 in
set_option maxRecDepth 100000 in
theorem laws_FnArgsJoined.calls (k : Nat) (a0 : ByteArray) (a1 : ByteArray) (r : Bool) (w : World) (h : laws_FnArgsJoined.f k a0 a1 = some r) :
    Calls Try.prog 9 #[.string a0, .string a1] w fun e w' => e = .returned (.bool r) ∧ Below w.heap.size w w' := by
  have HB := Aside0.mk (Below.refl w.heap.size w)
  have H : (if (a0.size : Int) > 2147483647 then (laws_FnArgsJoined.j0 k a0 a1 true) else (laws_FnArgsJoined.j0 k a0 a1 (decide ((a1.size : Int) > 2147483647)))) = some r := h
  clear h
  have HC3 := Aside0.mk H
  clear H
  go_enter Try.func9, Try.ntmps9
  go_upto_region 1 with (fail)
  go_cut [12] (fun v12 wc => ∃ (kq : Nat) (x12_2 : Bool), v12 = .bool x12_2 ∧ Aside0 (laws_FnArgsJoined.j0 kq a0 a1 x12_2 = some r) ∧ Aside0 (kq ≤ k) ∧ Aside0 (Below w.heap.size w wc))
  case first =>
    have H := HC3.out
    clear HC3
    by_cases c4 : (a0.size : Int) > 2147483647
    · rw [if_pos c4] at H
      have c4b0 : decide (2147483647 < (a0.size : Int)) = true := decide_eq_true c4
      have c4b1 : decide (2147483647 < a0.size) = true := decide_eq_true (by omega)
      clear c4
      (first | rw [c4b0] | (simp only [i64_w, i32_w]; rw [c4b0]) | (rw [Go.Proofs.YtjklempjljikpaaX.isEmpty_eq]; rw [c4b0]) | skip)
      have H' := Aside0.mk H
      clear H
      go_wp2
      go_meet
      case rel => exact ⟨_, (true), (by first | rfl | (simp; done) | (simp [*]; done) | (simp [Go.Proofs.YtjklempjljikpaaX.isEmpty_ne]; done)), H', ⟨by first | omega | exact Nat.le_refl _⟩, ⟨by repeat (first | (with_reducible first | exact HB.out | apply below_alloc | apply pw_below_drewN | apply below_drew1) | exact HB.out)⟩⟩
    · rw [if_neg c4] at H
      have c4b0 : decide (2147483647 < (a0.size : Int)) = false := decide_eq_false c4
      have c4b1 : decide (2147483647 < a0.size) = false := decide_eq_false (by omega)
      clear c4
      (first | rw [c4b0] | (simp only [i64_w, i32_w]; rw [c4b0]) | (rw [Go.Proofs.YtjklempjljikpaaX.isEmpty_eq]; rw [c4b0]) | skip)
      have H' := Aside0.mk H
      clear H
      go_wp2
      go_meet
      case rel => exact ⟨_, (decide ((a1.size : Int) > 2147483647)), (by first | rfl | (simp; done) | (simp [*]; done) | (simp [Go.Proofs.YtjklempjljikpaaX.isEmpty_ne]; done)), H', ⟨by first | omega | exact Nat.le_refl _⟩, ⟨by repeat (first | (with_reducible first | exact HB.out | apply below_alloc | apply pw_below_drewN | apply below_drew1) | exact HB.out)⟩⟩
  case rest =>
    clear HC3
    try clear p2
    try clear c4
    try clear c4b0
    try clear c4b1
    obtain ⟨kq, x12_2, rfl, HA, HJ2, HB⟩ := hcut
    cases kq with
    | zero => exact absurd HA.out (by simp [laws_FnArgsJoined.j0])
    | succ kj2 =>
      have H := HA.out
      clear HA
      simp only [laws_FnArgsJoined.j0] at H
      by_cases c5 : x12_2 = true
      · subst c5
        have H1 : (some true) = some r := by rw [if_pos rfl] at H; exact H
        clear H
        have H := H1
        clear H1
        obtain rfl := Option.some.inj H
        go_wp2
        go_ret
        exact ⟨by first | rfl | (simp [errW_none, errW_some] <;> rfl) | (simp [*, errW_none, errW_some] <;> rfl), by repeat (first | (with_reducible first | exact HB.out | apply below_alloc | apply pw_below_drewN | apply below_drew1) | exact HB.out)⟩
      · replace c5 := Bool.eq_false_iff.mpr c5
        subst c5
        have H1 : ((laws_reads.f kj2).bind fun t288 => (if t288 = true then ((laws_short.f kj2 (([a0, a1] : List ByteArray))).bind fun t292 => (if t292 = true then (if a0.size + 1 ≤ 9223372036854775807 then (if a0.size + 1 + a1.size ≤ 9223372036854775807 then ((impl_ArgsOf.f ((a0 ++ (⟨#[38]⟩ : ByteArray)) ++ a1)).bind fun t293 => ((some (([] : List (S36)) : List (S36))).bind fun y296 => ((impl_ArgsOf.f a0).bind fun t299 => (if y296.length + t299.length < 3518437208883 then ((some (y296 ++ t299 : List (S36))).bind fun y302 => ((impl_ArgsOf.f a1).bind fun t305 => (if y302.length + t305.length < 3518437208883 then ((laws_sameArgs.f kj2 t293 (y302 ++ t305)).bind fun t311 => (some t311)) else (none)))) else (none))))) else (none)) else (none)) else (some true))) else (some false))) = some r := by rw [if_neg (show ¬ (false = true) by decide)] at H; exact H
        clear H
        have H := H1
        clear H1
        replace H := Option.bind_eq_some_iff.mp H
        obtain ⟨t288, A60, H⟩ := H
        replace H : (if t288 = true then ((laws_short.f kj2 (([a0, a1] : List ByteArray))).bind fun t292 => (if t292 = true then (if a0.size + 1 ≤ 9223372036854775807 then (if a0.size + 1 + a1.size ≤ 9223372036854775807 then ((impl_ArgsOf.f ((a0 ++ (⟨#[38]⟩ : ByteArray)) ++ a1)).bind fun t293 => ((some (([] : List (S36)) : List (S36))).bind fun y296 => ((impl_ArgsOf.f a0).bind fun t299 => (if y296.length + t299.length < 3518437208883 then ((some (y296 ++ t299 : List (S36))).bind fun y302 => ((impl_ArgsOf.f a1).bind fun t305 => (if y302.length + t305.length < 3518437208883 then ((laws_sameArgs.f kj2 t293 (y302 ++ t305)).bind fun t311 => (some t311)) else (none)))) else (none))))) else (none)) else (none)) else (some true))) else (some false)) = some r := H
        have A6 := Aside0.mk A60
        clear A60
        by_cases c7 : t288 = true
        · subst c7
          have H1 : ((laws_short.f kj2 (([a0, a1] : List ByteArray))).bind fun t292 => (if t292 = true then (if a0.size + 1 ≤ 9223372036854775807 then (if a0.size + 1 + a1.size ≤ 9223372036854775807 then ((impl_ArgsOf.f ((a0 ++ (⟨#[38]⟩ : ByteArray)) ++ a1)).bind fun t293 => ((some (([] : List (S36)) : List (S36))).bind fun y296 => ((impl_ArgsOf.f a0).bind fun t299 => (if y296.length + t299.length < 3518437208883 then ((some (y296 ++ t299 : List (S36))).bind fun y302 => ((impl_ArgsOf.f a1).bind fun t305 => (if y302.length + t305.length < 3518437208883 then ((laws_sameArgs.f kj2 t293 (y302 ++ t305)).bind fun t311 => (some t311)) else (none)))) else (none))))) else (none)) else (none)) else (some true))) = some r := by rw [if_pos rfl] at H; exact H
          clear H
          have H := H1
          clear H1
          obtain ⟨y289, hy289⟩ : ∃ y_ : List ByteArray, y_ = (([a0, a1] : List ByteArray)) := ⟨_, rfl⟩
          replace H : ((laws_short.f kj2 y289).bind fun t292 => (if t292 = true then (if a0.size + 1 ≤ 9223372036854775807 then (if a0.size + 1 + a1.size ≤ 9223372036854775807 then ((impl_ArgsOf.f ((a0 ++ (⟨#[38]⟩ : ByteArray)) ++ a1)).bind fun t293 => ((some (([] : List (S36)) : List (S36))).bind fun y296 => ((impl_ArgsOf.f a0).bind fun t299 => (if y296.length + t299.length < 3518437208883 then ((some (y296 ++ t299 : List (S36))).bind fun y302 => ((impl_ArgsOf.f a1).bind fun t305 => (if y302.length + t305.length < 3518437208883 then ((laws_sameArgs.f kj2 t293 (y302 ++ t305)).bind fun t311 => (some t311)) else (none)))) else (none))))) else (none)) else (none)) else (some true))) = some r := by first | (rw [hy289]; with_reducible exact H) | (have H2_ := (Option.bind_some _ _).symm.trans H; rw [hy289]; with_reducible exact H2_) | (have H2_ := (Option.bind_some _ _).symm.trans H; with_reducible exact H2_) | with_reducible exact H | (rw [hy289]; exact H) | exact H
          have Ny289 := Aside0.mk hy289
          clear hy289
          replace H := Option.bind_eq_some_iff.mp H
          obtain ⟨t292, A80, H⟩ := H
          replace H : (if t292 = true then (if a0.size + 1 ≤ 9223372036854775807 then (if a0.size + 1 + a1.size ≤ 9223372036854775807 then ((impl_ArgsOf.f ((a0 ++ (⟨#[38]⟩ : ByteArray)) ++ a1)).bind fun t293 => ((some (([] : List (S36)) : List (S36))).bind fun y296 => ((impl_ArgsOf.f a0).bind fun t299 => (if y296.length + t299.length < 3518437208883 then ((some (y296 ++ t299 : List (S36))).bind fun y302 => ((impl_ArgsOf.f a1).bind fun t305 => (if y302.length + t305.length < 3518437208883 then ((laws_sameArgs.f kj2 t293 (y302 ++ t305)).bind fun t311 => (some t311)) else (none)))) else (none))))) else (none)) else (none)) else (some true)) = some r := H
          have A8 := Aside0.mk A80
          clear A80
          by_cases c9 : t292 = true
          · subst c9
            have H1 : (if a0.size + 1 ≤ 9223372036854775807 then (if a0.size + 1 + a1.size ≤ 9223372036854775807 then ((impl_ArgsOf.f ((a0 ++ (⟨#[38]⟩ : ByteArray)) ++ a1)).bind fun t293 => ((some (([] : List (S36)) : List (S36))).bind fun y296 => ((impl_ArgsOf.f a0).bind fun t299 => (if y296.length + t299.length < 3518437208883 then ((some (y296 ++ t299 : List (S36))).bind fun y302 => ((impl_ArgsOf.f a1).bind fun t305 => (if y302.length + t305.length < 3518437208883 then ((laws_sameArgs.f kj2 t293 (y302 ++ t305)).bind fun t311 => (some t311)) else (none)))) else (none))))) else (none)) else (none)) = some r := by rw [if_pos rfl] at H; exact H
            clear H
            have H := H1
            clear H1
            by_cases c10 : a0.size + 1 ≤ 9223372036854775807
            · rw [if_pos c10] at H
              have c10b0 := eq_true c10
              have c10b1 : decide (a0.size + 1 ≤ 9223372036854775807) = true := decide_eq_true c10
              try have c10b2 : (9223372036854775807 < a0.size + 1) = False := eq_false (Nat.not_lt.2 c10)
              by_cases c11 : a0.size + 1 + a1.size ≤ 9223372036854775807
              · rw [if_pos c11] at H
                have c11b0 := eq_true c11
                have c11b1 : decide (a0.size + 1 + a1.size ≤ 9223372036854775807) = true := decide_eq_true c11
                try have c11b2 : (9223372036854775807 < a0.size + 1 + a1.size) = False := eq_false (Nat.not_lt.2 c11)
                replace H := Option.bind_eq_some_iff.mp H
                obtain ⟨t293, A120, H⟩ := H
                replace H : ((some (([] : List (S36)) : List (S36))).bind fun y296 => ((impl_ArgsOf.f a0).bind fun t299 => (if y296.length + t299.length < 3518437208883 then ((some (y296 ++ t299 : List (S36))).bind fun y302 => ((impl_ArgsOf.f a1).bind fun t305 => (if y302.length + t305.length < 3518437208883 then ((laws_sameArgs.f kj2 t293 (y302 ++ t305)).bind fun t311 => (some t311)) else (none)))) else (none)))) = some r := H
                have A12 := Aside0.mk A120
                clear A120
                obtain ⟨y296, hy296⟩ : ∃ y_ : List (S36), y_ = (([] : List (S36))) := ⟨_, rfl⟩
                replace H : ((impl_ArgsOf.f a0).bind fun t299 => (if y296.length + t299.length < 3518437208883 then ((some (y296 ++ t299 : List (S36))).bind fun y302 => ((impl_ArgsOf.f a1).bind fun t305 => (if y302.length + t305.length < 3518437208883 then ((laws_sameArgs.f kj2 t293 (y302 ++ t305)).bind fun t311 => (some t311)) else (none)))) else (none))) = some r := by first | (rw [hy296]; with_reducible exact H) | (have H2_ := (Option.bind_some _ _).symm.trans H; rw [hy296]; with_reducible exact H2_) | (have H2_ := (Option.bind_some _ _).symm.trans H; with_reducible exact H2_) | with_reducible exact H | (rw [hy296]; exact H) | exact H
                have Ny296 := Aside0.mk hy296
                clear hy296
                replace H := Option.bind_eq_some_iff.mp H
                obtain ⟨t299, A130, H⟩ := H
                replace H : (if y296.length + t299.length < 3518437208883 then ((some (y296 ++ t299 : List (S36))).bind fun y302 => ((impl_ArgsOf.f a1).bind fun t305 => (if y302.length + t305.length < 3518437208883 then ((laws_sameArgs.f kj2 t293 (y302 ++ t305)).bind fun t311 => (some t311)) else (none)))) else (none)) = some r := H
                have A13 := Aside0.mk A130
                clear A130
                by_cases c14 : y296.length + t299.length < 3518437208883
                · rw [if_pos c14] at H
                  have LMc14 := Aside0.mk c14
                  clear c14
                  obtain ⟨y302, hy302⟩ : ∃ y_ : List (S36), y_ = (y296 ++ t299) := ⟨_, rfl⟩
                  replace H : ((impl_ArgsOf.f a1).bind fun t305 => (if y302.length + t305.length < 3518437208883 then ((laws_sameArgs.f kj2 t293 (y302 ++ t305)).bind fun t311 => (some t311)) else (none))) = some r := by first | (rw [hy302]; with_reducible exact H) | (have H2_ := (Option.bind_some _ _).symm.trans H; rw [hy302]; with_reducible exact H2_) | (have H2_ := (Option.bind_some _ _).symm.trans H; with_reducible exact H2_) | with_reducible exact H | (rw [hy302]; exact H) | exact H
                  have Ny302 := Aside0.mk hy302
                  clear hy302
                  replace H := Option.bind_eq_some_iff.mp H
                  obtain ⟨t305, A150, H⟩ := H
                  replace H : (if y302.length + t305.length < 3518437208883 then ((laws_sameArgs.f kj2 t293 (y302 ++ t305)).bind fun t311 => (some t311)) else (none)) = some r := H
                  have A15 := Aside0.mk A150
                  clear A150
                  by_cases c16 : y302.length + t305.length < 3518437208883
                  · rw [if_pos c16] at H
                    have LMc16 := Aside0.mk c16
                    clear c16
                    obtain ⟨y308, hy308⟩ : ∃ y_ : List (S36), y_ = (y302 ++ t305) := ⟨_, rfl⟩
                    replace H : ((laws_sameArgs.f kj2 t293 y308).bind fun t311 => (some t311)) = some r := by first | (rw [hy308]; with_reducible exact H) | (have H2_ := (Option.bind_some _ _).symm.trans H; rw [hy308]; with_reducible exact H2_) | (have H2_ := (Option.bind_some _ _).symm.trans H; with_reducible exact H2_) | with_reducible exact H | (rw [hy308]; exact H) | exact H
                    have Ny308 := Aside0.mk hy308
                    clear hy308
                    replace H := Option.bind_eq_some_iff.mp H
                    obtain ⟨t311, A170, H⟩ := H
                    replace H : (some t311) = some r := H
                    have A17 := Aside0.mk A170
                    clear A170
                    obtain rfl := Option.some.inj H
                    go_wp2_with (first | ((with_reducible refine gate_callee (f := 22) rfl ?_); refine goesL_ (some 13) rfl rfl Try.func22 (by kernel_rfl) rfl #[] rfl (by (try simp only [List.map_toArray, List.map_cons, List.map_nil]); first | done | rfl | (simp only [List.length_drop, List.length_take]; rfl)) ?_; (with_reducible refine (laws_reads.calls kj2  true _ A6.out).mono ?_); rintro e w18 ⟨rfl, hb⟩; refine ⟨_, rfl, ?_⟩; have n0_ := Aside0.mk (below_step (by repeat (first | (with_reducible first | exact HB.out | apply below_alloc | apply pw_below_drewN | apply below_drew1) | exact HB.out)) hb); clear HB; have HB := n0_; clear n0_; (try clear hb); (try clear hb2); (try clear hk); (try clear hi)) | ((with_reducible refine gate_dst (N := 17) rfl ?_); (try (refine gate_guard (by rfl) ?_; dsimp only)); refine Kd.R_lit Kd.string _ 9 ?hg (N := 17) ?hd (xs := ([a0, a1] : List ByteArray)) (inner := [.string a0, .string a1]) (ok := fun _ => True) (okp := fun _ => True) ?hr ?hp (fun _ hk => hk) trivial (Below.refl _ _) (Nat.le_refl _) (by simp) ?_; (case hd => rfl); (case hg => rfl); (case hr => first | (go_simp; done) | (go_simp; rfl)); (case hp => exact (Reps.one (show Kd.M Kd.string _ _ _ a0 [.string a0] from rfl) (Reps.one (show Kd.M Kd.string _ _ _ a1 [.string a1] from rfl) (Reps.none _ _)))); intro v290 w19 ho20 hb hg_ hnew_; clear hg_ hnew_; (first | rw [← Ny289.out] at ho20 | (simp only [Int.reduceToNat] at ho20; rw [← Ny289.out] at ho20)); have n0_ := Aside0.mk (Kd.R_lower ho20 (below_size (by repeat (first | (with_reducible first | exact HB.out | apply below_alloc | apply pw_below_drewN | apply below_drew1) | exact HB.out)))); have n1_ := Aside0.mk (below_step (by repeat (first | (with_reducible first | exact HB.out | apply below_alloc | apply pw_below_drewN | apply below_drew1) | exact HB.out)) hb); clear HB; have HO291 := n0_; have HB := n1_; clear n0_ n1_; clear hb ho20; obtain ⟨Ao21, co21, eo21⟩ := Kd.R_slice HO291.out; subst eo21) | ((with_reducible refine gate_callee (f := 14) rfl ?_); refine goesL_ (some 18) rfl rfl Try.func14 (by kernel_rfl) rfl #[.slice Ao21 y289.length co21] rfl (by (try simp only [List.map_toArray, List.map_cons, List.map_nil]); first | done | rfl | (simp only [List.length_drop, List.length_take]; rfl)) ?_; (with_reducible refine (laws_short.calls kj2 _ _ y289 true _ ?side1 ?side2 A8.out).mono ?_); (case side1 => repeat (first | exact (Kd.R_reads' HO291.out).2.2 | (with_reducible refine Kd.C_alloc ?_ _) | (with_reducible refine Kd.C_drewN ?_ _) | (with_reducible refine Kd.C_drew ?_))); (case side2 => exact (Kd.R_reads' HO291.out).2.1); rintro e w' ⟨rfl, ⟨nd, rfl⟩⟩; refine ⟨_, rfl, ?_⟩) | ((with_reducible refine gate_callee (f := 23) rfl ?_); refine goesL_ (some 24) rfl rfl Try.func23 (by kernel_rfl) rfl #[.string ((a0 ++ (⟨#[38]⟩ : ByteArray)) ++ a1)] rfl (by (try simp only [List.map_toArray, List.map_cons, List.map_nil]); first | done | rfl | (simp only [List.length_drop, List.length_take]; rfl)) ?_; (with_reducible refine (impl_ArgsOf.calls ((a0 ++ (⟨#[38]⟩ : ByteArray)) ++ a1) t293 _ A12.out).mono ?_); rintro e w22 ⟨v294, rfl, ho0, hb⟩; refine ⟨_, rfl, ?_⟩; have n0_ := Aside0.mk (Kd.R_below (by (with_reducible repeat (first | apply Kd.R_alloc | apply Kd.R_drewN | apply Kd.R_drew)); exact HO291.out) hb); have n1_ := Aside0.mk (Kd.R_lower ho0 (below_size (by repeat (first | (with_reducible first | exact HB.out | apply below_alloc | apply pw_below_drewN | apply below_drew1) | exact HB.out)))); have n2_ := Aside0.mk (below_step (by repeat (first | (with_reducible first | exact HB.out | apply below_alloc | apply pw_below_drewN | apply below_drew1) | exact HB.out)) hb); clear HO291; clear HB; have HO291 := n0_; have HO295 := n1_; have HB := n2_; clear n0_ n1_ n2_; (try clear hb); (try clear hb2); (try clear hk); (try clear hi); (try clear ho0)) | ((with_reducible refine gate_dst (N := 25) rfl ?_); (try (refine gate_guard (by rfl) ?_; dsimp only)); refine Kd.R_lit k36 _ 36 ?hg (N := 25) ?hd (xs := ([] : List (S36))) (inner := []) (ok := fun _ => True) (okp := fun _ => True) ?hr ?hp (fun _ hk => hk) trivial (Below.refl _ _) (Nat.le_refl _) (by simp) ?_; (case hd => rfl); (case hg => rfl); (case hr => first | (go_simp; done) | (go_simp; rfl)); (case hp => exact (Reps.none _ _)); intro v297 w23 ho24 hb hg_ hnew_; clear hg_ hnew_; (first | rw [← Ny296.out] at ho24 | (simp only [Int.reduceToNat] at ho24; rw [← Ny296.out] at ho24)); have n0_ := Aside0.mk (Kd.R_below (by (with_reducible repeat (first | apply Kd.R_alloc | apply Kd.R_drewN | apply Kd.R_drew)); exact HO291.out) hb); have n1_ := Aside0.mk (Kd.R_elder' (by (with_reducible repeat (first | apply Kd.R_alloc | apply Kd.R_drewN | apply Kd.R_drew)); exact HO295.out) (Kd.R_base ho24) hb); have n2_ := Aside0.mk (Kd.R_lower (Kd.R_new' ho24 (Kd.R_lt (by (with_reducible repeat (first | apply Kd.R_alloc | apply Kd.R_drewN | apply Kd.R_drew)); exact HO295.out))) (below_size (by repeat (first | (with_reducible first | exact HB.out | apply below_alloc | apply pw_below_drewN | apply below_drew1) | exact HB.out)))); have n3_ := Aside0.mk (below_step (by repeat (first | (with_reducible first | exact HB.out | apply below_alloc | apply pw_below_drewN | apply below_drew1) | exact HB.out)) hb); clear HO291; clear HO295; clear HB; have HO291 := n0_; have HO295 := n1_; have HO298 := n2_; have HB := n3_; clear n0_ n1_ n2_ n3_; clear hb ho24) | ((with_reducible refine gate_callee (f := 23) rfl ?_); refine goesL_ (some 27) rfl rfl Try.func23 (by kernel_rfl) rfl #[.string a0] rfl (by (try simp only [List.map_toArray, List.map_cons, List.map_nil]); first | done | rfl | (simp only [List.length_drop, List.length_take]; rfl)) ?_; (with_reducible refine (impl_ArgsOf.calls a0 t299 _ A13.out).mono ?_); rintro e w25 ⟨v300, rfl, ho0, hb⟩; refine ⟨_, rfl, ?_⟩; have n0_ := Aside0.mk (Kd.R_below (by (with_reducible repeat (first | apply Kd.R_alloc | apply Kd.R_drewN | apply Kd.R_drew)); exact HO291.out) hb); have n1_ := Aside0.mk (Kd.R_elder' (by (with_reducible repeat (first | apply Kd.R_alloc | apply Kd.R_drewN | apply Kd.R_drew)); exact HO295.out) (Kd.R_base ho0) hb); have n2_ := Aside0.mk (Kd.R_elder' (by (with_reducible repeat (first | apply Kd.R_alloc | apply Kd.R_drewN | apply Kd.R_drew)); exact HO298.out) (Kd.R_base ho0) hb); have n3_ := Aside0.mk (Kd.R_lower (Kd.R_new' (Kd.R_new' ho0 (Kd.R_lt (by (with_reducible repeat (first | apply Kd.R_alloc | apply Kd.R_drewN | apply Kd.R_drew)); exact HO295.out))) (Kd.R_lt (by (with_reducible repeat (first | apply Kd.R_alloc | apply Kd.R_drewN | apply Kd.R_drew)); exact HO298.out))) (below_size (by repeat (first | (with_reducible first | exact HB.out | apply below_alloc | apply pw_below_drewN | apply below_drew1) | exact HB.out)))); have n4_ := Aside0.mk (below_step (by repeat (first | (with_reducible first | exact HB.out | apply below_alloc | apply pw_below_drewN | apply below_drew1) | exact HB.out)) hb); clear HO291; clear HO295; clear HO298; clear HB; have HO291 := n0_; have HO295 := n1_; have HO298 := n2_; have HO301 := n3_; have HB := n4_; clear n0_ n1_ n2_ n3_ n4_; (try clear hb); (try clear hb2); (try clear hk); (try clear hi); (try clear ho0); obtain ⟨Ao27, co27, eo27⟩ := Kd.R_slice HO301.out; subst eo27) | ((with_reducible refine gate_builtin (b := .append) (xs := #[.tmp 25, .tmp 27]) rfl ?_); (try (refine gate_guard (by rfl) ?_; dsimp only)); at_builtin; refine Kd.R_append_rows k36 (w0 := w) w.heap.size rfl (.tmp 25) (.tmp 27) 33 36 (.agg #[(.string ⟨#[]⟩), (.string ⟨#[]⟩), (.bool false)]) 40 rfl Try.underlying33 info36 rfl (by decide) (by omega) v297 y296 t299 _ _ _ (fun k_ => some k_ ≠ (v294 : Value).ownBlock ∧ some k_ ≠ (.slice Ao27 t299.length co27 : Value).ownBlock) (fun _ => False) rfl rfl ?aO ?aR (fun _ _ h => h) (fun _ h => h.elim) ?aF ?aB ?aS ?aL ?_; (case aR => repeat (first | exact (Kd.R_reads' HO301.out).2.2 | (with_reducible refine Kd.C_alloc ?_ _) | (with_reducible refine Kd.C_drewN ?_ _) | (with_reducible refine Kd.C_drew ?_))); (case aB => exact (by repeat (first | (with_reducible first | exact HB.out | apply below_alloc | apply pw_below_drewN | apply below_drew1) | exact HB.out))); (case aF => exact (fun k_ hk => ⟨Kd.fresh' (Kd.R_lt (by (with_reducible repeat (first | apply Kd.R_alloc | apply Kd.R_drewN | apply Kd.R_drew)); exact HO295.out)) k_ hk, Kd.fresh' (Kd.R_lt (by (with_reducible repeat (first | apply Kd.R_alloc | apply Kd.R_drewN | apply Kd.R_drew)); exact HO301.out)) k_ hk⟩)); (case aO => exact (by (with_reducible repeat (first | apply Kd.R_alloc | apply Kd.R_drewN | apply Kd.R_drew)); exact Kd.R_mono HO298.out (fun _ hk => ⟨hk.1.2, hk.2⟩))); (case aS => exact (below_size (by repeat (first | (with_reducible first | exact HB.out | apply below_alloc | apply pw_below_drewN | apply below_drew1) | exact HB.out)))); (case aL => have := LMc14.out; omega); intro v303 w26 ho hb hg hat; rw [← Ny302.out] at ho; have n0_ := Aside0.mk (Kd.R_over' (by (with_reducible repeat (first | apply Kd.R_alloc | apply Kd.R_drewN | apply Kd.R_drew)); exact HO291.out) (Kd.R_typed (by (with_reducible repeat (first | apply Kd.R_alloc | apply Kd.R_drewN | apply Kd.R_drew)); exact HO298.out)) (by decide) hg); have n1_ := Aside0.mk (Kd.R_after (ok := (fun k_ => some k_ ≠ (.slice Ao27 t299.length co27 : Value).ownBlock)) (by (with_reducible repeat (first | apply Kd.R_alloc | apply Kd.R_drewN | apply Kd.R_drew)); exact Kd.R_mono HO295.out (fun _ hk => ⟨hk.2, hk.1.2⟩)) hg hat); have n2_ := Aside0.mk (Kd.R_after (ok := (fun k_ => some k_ ≠ (v294 : Value).ownBlock)) (by (with_reducible repeat (first | apply Kd.R_alloc | apply Kd.R_drewN | apply Kd.R_drew)); exact Kd.R_mono HO301.out (fun _ hk => ⟨hk.1.2, hk.2⟩)) hg hat); have n3_ := Aside0.mk (hb); have n4_ := Aside0.mk (ho); clear HO291; clear HO295; clear HO301; clear HB; clear HO298; have HO291 := n0_; have HO295 := n1_; have HO301 := n2_; have HB := n3_; have HO304 := n4_; clear n0_ n1_ n2_ n3_ n4_; clear ho hb hg hat) | ((with_reducible refine gate_callee (f := 23) rfl ?_); refine goesL_ (some 30) rfl rfl Try.func23 (by kernel_rfl) rfl #[.string a1] rfl (by (try simp only [List.map_toArray, List.map_cons, List.map_nil]); first | done | rfl | (simp only [List.length_drop, List.length_take]; rfl)) ?_; (with_reducible refine (impl_ArgsOf.calls a1 t305 _ A15.out).mono ?_); rintro e w28 ⟨v306, rfl, ho0, hb⟩; refine ⟨_, rfl, ?_⟩; have n0_ := Aside0.mk (Kd.R_below (by (with_reducible repeat (first | apply Kd.R_alloc | apply Kd.R_drewN | apply Kd.R_drew)); exact HO291.out) hb); have n1_ := Aside0.mk (Kd.R_elder' (by (with_reducible repeat (first | apply Kd.R_alloc | apply Kd.R_drewN | apply Kd.R_drew)); exact HO295.out) (Kd.R_base ho0) hb); have n2_ := Aside0.mk (Kd.R_elder' (by (with_reducible repeat (first | apply Kd.R_alloc | apply Kd.R_drewN | apply Kd.R_drew)); exact HO301.out) (Kd.R_base ho0) hb); have n3_ := Aside0.mk (Kd.R_elder' (by (with_reducible repeat (first | apply Kd.R_alloc | apply Kd.R_drewN | apply Kd.R_drew)); exact HO304.out) (Kd.R_base ho0) hb); have n4_ := Aside0.mk (Kd.R_lower (Kd.R_new' (Kd.R_new' (Kd.R_new' ho0 (Kd.R_lt (by (with_reducible repeat (first | apply Kd.R_alloc | apply Kd.R_drewN | apply Kd.R_drew)); exact HO295.out))) (Kd.R_lt (by (with_reducible repeat (first | apply Kd.R_alloc | apply Kd.R_drewN | apply Kd.R_drew)); exact HO301.out))) (Kd.R_lt (by (with_reducible repeat (first | apply Kd.R_alloc | apply Kd.R_drewN | apply Kd.R_drew)); exact HO304.out))) (below_size (by repeat (first | (with_reducible first | exact HB.out | apply below_alloc | apply pw_below_drewN | apply below_drew1) | exact HB.out)))); have n5_ := Aside0.mk (below_step (by repeat (first | (with_reducible first | exact HB.out | apply below_alloc | apply pw_below_drewN | apply below_drew1) | exact HB.out)) hb); clear HO291; clear HO295; clear HO301; clear HO304; clear HB; have HO291 := n0_; have HO295 := n1_; have HO301 := n2_; have HO304 := n3_; have HO307 := n4_; have HB := n5_; clear n0_ n1_ n2_ n3_ n4_ n5_; (try clear hb); (try clear hb2); (try clear hk); (try clear hi); (try clear ho0); obtain ⟨Ao30, co30, eo30⟩ := Kd.R_slice HO307.out; subst eo30) | ((with_reducible refine gate_builtin (b := .append) (xs := #[.tmp 28, .tmp 30]) rfl ?_); (try (refine gate_guard (by rfl) ?_; dsimp only)); at_builtin; refine Kd.R_append_rows k36 (w0 := w) w.heap.size rfl (.tmp 28) (.tmp 30) 33 36 (.agg #[(.string ⟨#[]⟩), (.string ⟨#[]⟩), (.bool false)]) 40 rfl Try.underlying33 info36 rfl (by decide) (by omega) v303 y302 t305 _ _ _ (fun k_ => some k_ ≠ (v294 : Value).ownBlock ∧ some k_ ≠ (.slice Ao27 t299.length co27 : Value).ownBlock ∧ some k_ ≠ (.slice Ao30 t305.length co30 : Value).ownBlock) (fun _ => False) rfl rfl ?aO ?aR (fun _ _ h => h) (fun _ h => h.elim) ?aF ?aB ?aS ?aL ?_; (case aR => repeat (first | exact (Kd.R_reads' HO307.out).2.2 | (with_reducible refine Kd.C_alloc ?_ _) | (with_reducible refine Kd.C_drewN ?_ _) | (with_reducible refine Kd.C_drew ?_))); (case aB => exact (by repeat (first | (with_reducible first | exact HB.out | apply below_alloc | apply pw_below_drewN | apply below_drew1) | exact HB.out))); (case aF => exact (fun k_ hk => ⟨Kd.fresh' (Kd.R_lt (by (with_reducible repeat (first | apply Kd.R_alloc | apply Kd.R_drewN | apply Kd.R_drew)); exact HO295.out)) k_ hk, Kd.fresh' (Kd.R_lt (by (with_reducible repeat (first | apply Kd.R_alloc | apply Kd.R_drewN | apply Kd.R_drew)); exact HO301.out)) k_ hk, Kd.fresh' (Kd.R_lt (by (with_reducible repeat (first | apply Kd.R_alloc | apply Kd.R_drewN | apply Kd.R_drew)); exact HO307.out)) k_ hk⟩)); (case aO => exact (by (with_reducible repeat (first | apply Kd.R_alloc | apply Kd.R_drewN | apply Kd.R_drew)); exact Kd.R_mono HO304.out (fun _ hk => ⟨hk.1.1, ⟨hk.1.2, hk.2⟩⟩))); (case aS => exact (below_size (by repeat (first | (with_reducible first | exact HB.out | apply below_alloc | apply pw_below_drewN | apply below_drew1) | exact HB.out)))); (case aL => have := LMc16.out; omega); intro v309 w29 ho hb hg hat; rw [← Ny308.out] at ho; have n0_ := Aside0.mk (Kd.R_over' (by (with_reducible repeat (first | apply Kd.R_alloc | apply Kd.R_drewN | apply Kd.R_drew)); exact HO291.out) (Kd.R_typed (by (with_reducible repeat (first | apply Kd.R_alloc | apply Kd.R_drewN | apply Kd.R_drew)); exact HO304.out)) (by decide) hg); have n1_ := Aside0.mk (Kd.R_after (ok := (fun k_ => some k_ ≠ (.slice Ao27 t299.length co27 : Value).ownBlock ∧ some k_ ≠ (.slice Ao30 t305.length co30 : Value).ownBlock)) (by (with_reducible repeat (first | apply Kd.R_alloc | apply Kd.R_drewN | apply Kd.R_drew)); exact Kd.R_mono HO295.out (fun _ hk => ⟨⟨hk.1.1, hk.2⟩, hk.1.2⟩)) hg hat); have n2_ := Aside0.mk (Kd.R_after (ok := (fun k_ => some k_ ≠ (v294 : Value).ownBlock ∧ some k_ ≠ (.slice Ao30 t305.length co30 : Value).ownBlock)) (by (with_reducible repeat (first | apply Kd.R_alloc | apply Kd.R_drewN | apply Kd.R_drew)); exact Kd.R_mono HO301.out (fun _ hk => ⟨⟨hk.1.1, hk.2⟩, hk.1.2⟩)) hg hat); have n3_ := Aside0.mk (Kd.R_after (ok := (fun k_ => some k_ ≠ (v294 : Value).ownBlock ∧ some k_ ≠ (.slice Ao27 t299.length co27 : Value).ownBlock)) (by (with_reducible repeat (first | apply Kd.R_alloc | apply Kd.R_drewN | apply Kd.R_drew)); exact Kd.R_mono HO307.out (fun _ hk => ⟨⟨hk.1.1.2, hk.1.2⟩, hk.2⟩)) hg hat); have n4_ := Aside0.mk (hb); have n5_ := Aside0.mk (ho); clear HO291; clear HO295; clear HO301; clear HO307; clear HB; clear HO304; have HO291 := n0_; have HO295 := n1_; have HO301 := n2_; have HO307 := n3_; have HB := n4_; have HO310 := n5_; clear n0_ n1_ n2_ n3_ n4_ n5_; clear ho hb hg hat; obtain ⟨Ao31, co31, eo31⟩ := Kd.R_slice HO295.out; subst eo31; obtain ⟨Ao32, co32, eo32⟩ := Kd.R_slice HO310.out; subst eo32) | ((with_reducible refine gate_callee (f := 24) rfl ?_); refine goesL_ (some 32) rfl rfl Try.func24 (by kernel_rfl) rfl #[.slice Ao31 t293.length co31, .slice Ao32 y308.length co32] rfl (by (try simp only [List.map_toArray, List.map_cons, List.map_nil]); first | done | rfl | (simp only [List.length_drop, List.length_take]; rfl)) ?_; (with_reducible refine (laws_sameArgs.calls kj2 _ _ t293 _ _ y308 t311 _ ?side1 ?side2 ?side3 ?side4 A17.out).mono ?_); (case side1 => repeat (first | exact (Kd.R_reads' HO295.out).2.2 | (with_reducible refine Kd.C_alloc ?_ _) | (with_reducible refine Kd.C_drewN ?_ _) | (with_reducible refine Kd.C_drew ?_))); (case side2 => exact (Kd.R_reads' HO295.out).2.1); (case side3 => repeat (first | exact (Kd.R_reads' HO310.out).2.2 | (with_reducible refine Kd.C_alloc ?_ _) | (with_reducible refine Kd.C_drewN ?_ _) | (with_reducible refine Kd.C_drew ?_))); (case side4 => exact (Kd.R_reads' HO310.out).2.1); rintro e w' ⟨rfl, ⟨nd, rfl⟩⟩; refine ⟨_, rfl, ?_⟩))
                    any_goals (try (exfalso; have zc10b1 := of_decide_eq_true c10b1; have zc11b1 := of_decide_eq_true c11b1; omega))
                    go_ret
                    exact ⟨by first | rfl | (simp [errW_none, errW_some] <;> rfl) | (simp [*, errW_none, errW_some] <;> rfl), by repeat (first | (with_reducible first | exact HB.out | apply below_alloc | apply pw_below_drewN | apply below_drew1) | exact HB.out)⟩
                  · rw [if_neg c16] at H
                    exact absurd H (by simp)
                · rw [if_neg c14] at H
                  exact absurd H (by simp)
              · rw [if_neg c11] at H
                exact absurd H (by simp)
            · rw [if_neg c10] at H
              exact absurd H (by simp)
          · replace c9 := Bool.eq_false_iff.mpr c9
            subst c9
            have H1 : (some true) = some r := by rw [if_neg (show ¬ (false = true) by decide)] at H; exact H
            clear H
            have H := H1
            clear H1
            obtain rfl := Option.some.inj H
            go_wp2_with (first | ((with_reducible refine gate_callee (f := 22) rfl ?_); refine goesL_ (some 13) rfl rfl Try.func22 (by kernel_rfl) rfl #[] rfl (by (try simp only [List.map_toArray, List.map_cons, List.map_nil]); first | done | rfl | (simp only [List.length_drop, List.length_take]; rfl)) ?_; (with_reducible refine (laws_reads.calls kj2  true _ A6.out).mono ?_); rintro e w33 ⟨rfl, hb⟩; refine ⟨_, rfl, ?_⟩; have n0_ := Aside0.mk (below_step (by repeat (first | (with_reducible first | exact HB.out | apply below_alloc | apply pw_below_drewN | apply below_drew1) | exact HB.out)) hb); clear HB; have HB := n0_; clear n0_; (try clear hb); (try clear hb2); (try clear hk); (try clear hi)) | ((with_reducible refine gate_dst (N := 17) rfl ?_); (try (refine gate_guard (by rfl) ?_; dsimp only)); refine Kd.R_lit Kd.string _ 9 ?hg (N := 17) ?hd (xs := ([a0, a1] : List ByteArray)) (inner := [.string a0, .string a1]) (ok := fun _ => True) (okp := fun _ => True) ?hr ?hp (fun _ hk => hk) trivial (Below.refl _ _) (Nat.le_refl _) (by simp) ?_; (case hd => rfl); (case hg => rfl); (case hr => first | (go_simp; done) | (go_simp; rfl)); (case hp => exact (Reps.one (show Kd.M Kd.string _ _ _ a0 [.string a0] from rfl) (Reps.one (show Kd.M Kd.string _ _ _ a1 [.string a1] from rfl) (Reps.none _ _)))); intro v290 w34 ho35 hb hg_ hnew_; clear hg_ hnew_; (first | rw [← Ny289.out] at ho35 | (simp only [Int.reduceToNat] at ho35; rw [← Ny289.out] at ho35)); have n0_ := Aside0.mk (Kd.R_lower ho35 (below_size (by repeat (first | (with_reducible first | exact HB.out | apply below_alloc | apply pw_below_drewN | apply below_drew1) | exact HB.out)))); have n1_ := Aside0.mk (below_step (by repeat (first | (with_reducible first | exact HB.out | apply below_alloc | apply pw_below_drewN | apply below_drew1) | exact HB.out)) hb); clear HB; have HO291 := n0_; have HB := n1_; clear n0_ n1_; clear hb ho35; obtain ⟨Ao36, co36, eo36⟩ := Kd.R_slice HO291.out; subst eo36) | ((with_reducible refine gate_callee (f := 14) rfl ?_); refine goesL_ (some 18) rfl rfl Try.func14 (by kernel_rfl) rfl #[.slice Ao36 y289.length co36] rfl (by (try simp only [List.map_toArray, List.map_cons, List.map_nil]); first | done | rfl | (simp only [List.length_drop, List.length_take]; rfl)) ?_; (with_reducible refine (laws_short.calls kj2 _ _ y289 false _ ?side1 ?side2 A8.out).mono ?_); (case side1 => repeat (first | exact (Kd.R_reads' HO291.out).2.2 | (with_reducible refine Kd.C_alloc ?_ _) | (with_reducible refine Kd.C_drewN ?_ _) | (with_reducible refine Kd.C_drew ?_))); (case side2 => exact (Kd.R_reads' HO291.out).2.1); rintro e w' ⟨rfl, ⟨nd, rfl⟩⟩; refine ⟨_, rfl, ?_⟩))
            go_ret
            exact ⟨by first | rfl | (simp [errW_none, errW_some] <;> rfl) | (simp [*, errW_none, errW_some] <;> rfl), by repeat (first | (with_reducible first | exact HB.out | apply below_alloc | apply pw_below_drewN | apply below_drew1) | exact HB.out)⟩
        · replace c7 := Bool.eq_false_iff.mpr c7
          subst c7
          have H1 : (some false) = some r := by rw [if_neg (show ¬ (false = true) by decide)] at H; exact H
          clear H
          have H := H1
          clear H1
          obtain rfl := Option.some.inj H
          go_wp2_with (first | ((with_reducible refine gate_callee (f := 22) rfl ?_); refine goesL_ (some 13) rfl rfl Try.func22 (by kernel_rfl) rfl #[] rfl (by (try simp only [List.map_toArray, List.map_cons, List.map_nil]); first | done | rfl | (simp only [List.length_drop, List.length_take]; rfl)) ?_; (with_reducible refine (laws_reads.calls kj2  false _ A6.out).mono ?_); rintro e w37 ⟨rfl, hb⟩; refine ⟨_, rfl, ?_⟩; have n0_ := Aside0.mk (below_step (by repeat (first | (with_reducible first | exact HB.out | apply below_alloc | apply pw_below_drewN | apply below_drew1) | exact HB.out)) hb); clear HB; have HB := n0_; clear n0_; (try clear hb); (try clear hb2); (try clear hk); (try clear hi)))
          go_ret
          exact ⟨by first | rfl | (simp [errW_none, errW_some] <;> rfl) | (simp [*, errW_none, errW_some] <;> rfl), by repeat (first | (with_reducible first | exact HB.out | apply below_alloc | apply pw_below_drewN | apply below_drew1) | exact HB.out)⟩

/-- THE ONE PURE STATEMENT of laws_FnArgsJoined: yours. -/
def laws_FnArgsJoined.Pure : Prop := ∀ (a0 : ByteArray) (a1 : ByteArray), a0.size ≤ 140737488351232 → a1.size ≤ 140737488351232 → ∃ k, laws_FnArgsJoined.f k a0 a1 = some true
theorem laws_FnArgsJoined.walk (P : laws_FnArgsJoined.Pure) (a0 : ByteArray) (a1 : ByteArray) (w : World) (w0 : a0.size ≤ 140737488351232) (w1 : a1.size ≤ 140737488351232) :
    Calls Try.prog 9 #[.string a0, .string a1] w fun e w' => e = .returned (.bool true) ∧ Below w.heap.size w w' := by
  obtain ⟨k, h⟩ := P a0 a1 w0 w1
  refine (laws_FnArgsJoined.calls k a0 a1 true w h).mono ?_
  rintro e w' ⟨rfl, hd⟩
  exact ⟨rfl, hd⟩

end Go.Proofs.Ytjklempjljikpaa.Q

-- Written by a program of this session out of the translation, with the kit's printer. Not trusted: Lean checks it.
namespace Go.Proofs.Ytjklempjljikpaa.Q
open Go.RowKit Go.Proofs.YtjklempjljikpaaW.PrintWords Go.Proofs.YtjklempjljikpaaW.PrintLast Go.Proofs.YtjklempjljikpaaW.PrintMore
attribute [local go_sem] max2_int min2_int max_two min_two max_three min_three max_four min_four   -- for this text's walks alone
set_option linter.unusedVariables false
set_option linter.unusedSimpArgs false

/-! ### laws_FnArgsAgain: function 7 -/
def laws_FnArgsAgain.l0 : Nat → List (S36) → List (S36) → Int → Int → Option (Bool)
  | 0, _, _, _, _ => none
  | k + 1, x3, x17, x18, x19 => if x19 < x18 then (if 0 ≤ x19 then (if x19 < (x17.length : Int) then (if ((rd_T36 x17 x19).f0).toList = ([] : List UInt8) then (some true) else (laws_FnArgsAgain.l0 k x3 x17 x18 (wrap64 (x19 + 1)))) else (none)) else (none)) else ((impl_ArgsText.f x3).bind fun t322 => ((impl_ArgsOf.f t322).bind fun t323 => ((laws_sameArgs.f k t323 x3).bind fun t326 => (some t326))))
def laws_FnArgsAgain.f (k : Nat) (a0 : ByteArray) : Option (Bool) := if (a0.size : Int) > 2147483647 then (some true) else ((laws_reads.f k).bind fun t312 => (if t312 = true then ((laws_short.f k (([a0] : List ByteArray))).bind fun t316 => (if t316 = true then ((impl_ArgsOf.f a0).bind fun t317 => (laws_FnArgsAgain.l0 k t317 t317 (t317.length : Int) 0)) else (some true))) else (some false)))
theorem laws_FnArgsAgain.mono_l : ∀ k, (∀ y0 y1 y2 y3, LeO (laws_FnArgsAgain.l0 k y0 y1 y2 y3) (laws_FnArgsAgain.l0 (k + 1) y0 y1 y2 y3))
  | 0 => fun _ _ _ _ r h => by simp [laws_FnArgsAgain.l0] at h
  | k + 1 => by
    have ih0 := laws_FnArgsAgain.mono_l k
    · intro y0 y1 y2 y3
      unfold laws_FnArgsAgain.l0
      repeat' first
      | (with_reducible exact ih0 _ _ _ _)
      | (with_reducible exact laws_reads.mono _)
      | (with_reducible exact laws_sameArgs.mono _ _ _)
      | (with_reducible exact laws_short.mono _ _)
      | (with_reducible exact LeO.refl _)
      | (with_reducible exact LeO.none _)
      | (with_reducible refine LeO.ite ?_ ?_)
      | (with_reducible refine LeO.bind ?_ (fun _ => ?_))
      | exact ih0 _ _ _ _
      | exact laws_reads.mono _
      | exact laws_sameArgs.mono _ _ _
      | exact laws_short.mono _ _
      | exact LeO.none _
      | refine LeO.ite ?_ ?_
      | refine LeO.bind ?_ (fun _ => ?_)
theorem laws_FnArgsAgain.mono : ∀ a0 k, LeO (laws_FnArgsAgain.f k a0) (laws_FnArgsAgain.f (k + 1) a0) := by
  intro a0 k
  have ih0 := laws_FnArgsAgain.mono_l k
  unfold laws_FnArgsAgain.f
  repeat' first
      | (with_reducible exact ih0 _ _ _ _)
      | (with_reducible exact laws_reads.mono _)
      | (with_reducible exact laws_sameArgs.mono _ _ _)
      | (with_reducible exact laws_short.mono _ _)
      | (with_reducible exact LeO.refl _)
      | (with_reducible exact LeO.none _)
      | (with_reducible refine LeO.ite ?_ ?_)
      | (with_reducible refine LeO.bind ?_ (fun _ => ?_))
      | exact ih0 _ _ _ _
      | exact laws_reads.mono _
      | exact laws_sameArgs.mono _ _ _
      | exact laws_short.mono _ _
      | exact LeO.none _
      | refine LeO.ite ?_ ?_
      | refine LeO.bind ?_ (fun _ => ?_)
set_option maxHeartbeats 8000000 in
set_option maxRecDepth 100000 in
theorem laws_FnArgsAgain.calls (k : Nat) (a0 : ByteArray) (r : Bool) (w : World) (h : laws_FnArgsAgain.f k a0 = some r) :
    Calls Try.prog 7 #[.string a0] w fun e w' => e = .returned (.bool r) ∧ Below w.heap.size w w' := by
  have hu36 := Try.underlying36
  have HB := Aside0.mk (Below.refl w.heap.size w)
  have H : (if (a0.size : Int) > 2147483647 then (some true) else ((laws_reads.f k).bind fun t312 => (if t312 = true then ((laws_short.f k (([a0] : List ByteArray))).bind fun t316 => (if t316 = true then ((impl_ArgsOf.f a0).bind fun t317 => (laws_FnArgsAgain.l0 k t317 t317 (t317.length : Int) 0)) else (some true))) else (some false)))) = some r := h
  clear h
  by_cases c2 : (a0.size : Int) > 2147483647
  · rw [if_pos c2] at H
    have c2b0 : decide (2147483647 < (a0.size : Int)) = true := decide_eq_true c2
    have c2b1 : decide (2147483647 < a0.size) = true := decide_eq_true (by omega)
    clear c2
    obtain rfl := Option.some.inj H
    go_enter Try.func7, Try.ntmps7
    go_wp2
    go_ret
    exact ⟨by first | rfl | (simp [errW_none, errW_some] <;> rfl) | (simp [*, errW_none, errW_some] <;> rfl), by repeat (first | (with_reducible first | exact HB.out | apply below_alloc | apply pw_below_drewN | apply below_drew1) | exact HB.out)⟩
  · rw [if_neg c2] at H
    have c2b0 : decide (2147483647 < (a0.size : Int)) = false := decide_eq_false c2
    have c2b1 : decide (2147483647 < a0.size) = false := decide_eq_false (by omega)
    clear c2
    replace H := Option.bind_eq_some_iff.mp H
    obtain ⟨t312, A30, H⟩ := H
    replace H : (if t312 = true then ((laws_short.f k (([a0] : List ByteArray))).bind fun t316 => (if t316 = true then ((impl_ArgsOf.f a0).bind fun t317 => (laws_FnArgsAgain.l0 k t317 t317 (t317.length : Int) 0)) else (some true))) else (some false)) = some r := H
    have A3 := Aside0.mk A30
    clear A30
    by_cases c4 : t312 = true
    · subst c4
      have H1 : ((laws_short.f k (([a0] : List ByteArray))).bind fun t316 => (if t316 = true then ((impl_ArgsOf.f a0).bind fun t317 => (laws_FnArgsAgain.l0 k t317 t317 (t317.length : Int) 0)) else (some true))) = some r := by rw [if_pos rfl] at H; exact H
      clear H
      have H := H1
      clear H1
      obtain ⟨y313, hy313⟩ : ∃ y_ : List ByteArray, y_ = (([a0] : List ByteArray)) := ⟨_, rfl⟩
      replace H : ((laws_short.f k y313).bind fun t316 => (if t316 = true then ((impl_ArgsOf.f a0).bind fun t317 => (laws_FnArgsAgain.l0 k t317 t317 (t317.length : Int) 0)) else (some true))) = some r := by first | (rw [hy313]; with_reducible exact H) | (have H2_ := (Option.bind_some _ _).symm.trans H; rw [hy313]; with_reducible exact H2_) | (have H2_ := (Option.bind_some _ _).symm.trans H; with_reducible exact H2_) | with_reducible exact H | (rw [hy313]; exact H) | exact H
      have Ny313 := Aside0.mk hy313
      clear hy313
      replace H := Option.bind_eq_some_iff.mp H
      obtain ⟨t316, A50, H⟩ := H
      replace H : (if t316 = true then ((impl_ArgsOf.f a0).bind fun t317 => (laws_FnArgsAgain.l0 k t317 t317 (t317.length : Int) 0)) else (some true)) = some r := H
      have A5 := Aside0.mk A50
      clear A50
      by_cases c6 : t316 = true
      · subst c6
        have H1 : ((impl_ArgsOf.f a0).bind fun t317 => (laws_FnArgsAgain.l0 k t317 t317 (t317.length : Int) 0)) = some r := by rw [if_pos rfl] at H; exact H
        clear H
        have H := H1
        clear H1
        replace H := Option.bind_eq_some_iff.mp H
        obtain ⟨t317, A70, H⟩ := H
        replace H : (laws_FnArgsAgain.l0 k t317 t317 (t317.length : Int) 0) = some r := H
        have A7 := Aside0.mk A70
        clear A70
        have H' := Aside0.mk H
        clear H
        go_enter Try.func7, Try.ntmps7
        go_wp2_with (first | ((with_reducible refine gate_callee (f := 22) rfl ?_); refine goesL_ (some 9) rfl rfl Try.func22 (by kernel_rfl) rfl #[] rfl (by (try simp only [List.map_toArray, List.map_cons, List.map_nil]); first | done | rfl | (simp only [List.length_drop, List.length_take]; rfl)) ?_; (with_reducible refine (laws_reads.calls k  true _ A3.out).mono ?_); rintro e w8 ⟨rfl, hb⟩; refine ⟨_, rfl, ?_⟩; have n0_ := Aside0.mk (below_step (by repeat (first | (with_reducible first | exact HB.out | apply below_alloc | apply pw_below_drewN | apply below_drew1) | exact HB.out)) hb); clear HB; have HB := n0_; clear n0_; (try clear hb); (try clear hb2); (try clear hk); (try clear hi)) | ((with_reducible refine gate_dst (N := 12) rfl ?_); refine Kd.R_lit Kd.string _ 9 ?hg (N := 12) ?hd (xs := ([a0] : List ByteArray)) (inner := [.string a0]) (ok := fun _ => True) (okp := fun _ => True) ?hr ?hp (fun _ hk => hk) trivial (Below.refl _ _) (Nat.le_refl _) (by simp) ?_; (case hd => rfl); (case hg => rfl); (case hr => first | (go_simp; done) | (go_simp; rfl)); (case hp => exact (Reps.one (show Kd.M Kd.string _ _ _ a0 [.string a0] from rfl) (Reps.none _ _))); intro v314 w9 ho10 hb hg_ hnew_; clear hg_ hnew_; (first | rw [← Ny313.out] at ho10 | (simp only [Int.reduceToNat] at ho10; rw [← Ny313.out] at ho10)); have n0_ := Aside0.mk (Kd.R_lower ho10 (below_size (by repeat (first | (with_reducible first | exact HB.out | apply below_alloc | apply pw_below_drewN | apply below_drew1) | exact HB.out)))); have n1_ := Aside0.mk (below_step (by repeat (first | (with_reducible first | exact HB.out | apply below_alloc | apply pw_below_drewN | apply below_drew1) | exact HB.out)) hb); clear HB; have HO315 := n0_; have HB := n1_; clear n0_ n1_; clear hb ho10; obtain ⟨Ao11, co11, eo11⟩ := Kd.R_slice HO315.out; subst eo11) | ((with_reducible refine gate_callee (f := 14) rfl ?_); refine goesL_ (some 13) rfl rfl Try.func14 (by kernel_rfl) rfl #[.slice Ao11 y313.length co11] rfl (by (try simp only [List.map_toArray, List.map_cons, List.map_nil]); first | done | rfl | (simp only [List.length_drop, List.length_take]; rfl)) ?_; (with_reducible refine (laws_short.calls k _ _ y313 true _ ?side1 ?side2 A5.out).mono ?_); (case side1 => repeat (first | exact (Kd.R_reads' HO315.out).2.2 | (with_reducible refine Kd.C_alloc ?_ _) | (with_reducible refine Kd.C_drewN ?_ _) | (with_reducible refine Kd.C_drew ?_))); (case side2 => exact (Kd.R_reads' HO315.out).2.1); rintro e w' ⟨rfl, ⟨nd, rfl⟩⟩; refine ⟨_, rfl, ?_⟩) | ((with_reducible refine gate_callee (f := 23) rfl ?_); refine goesL_ (some 16) rfl rfl Try.func23 (by kernel_rfl) rfl #[.string a0] rfl (by (try simp only [List.map_toArray, List.map_cons, List.map_nil]); first | done | rfl | (simp only [List.length_drop, List.length_take]; rfl)) ?_; (with_reducible refine (impl_ArgsOf.calls a0 t317 _ A7.out).mono ?_); rintro e w12 ⟨v318, rfl, ho0, hb⟩; refine ⟨_, rfl, ?_⟩; have n0_ := Aside0.mk (Kd.R_below (by (with_reducible repeat (first | apply Kd.R_alloc | apply Kd.R_drewN | apply Kd.R_drew)); exact HO315.out) hb); have n1_ := Aside0.mk (Kd.R_lower ho0 (below_size (by repeat (first | (with_reducible first | exact HB.out | apply below_alloc | apply pw_below_drewN | apply below_drew1) | exact HB.out)))); have n2_ := Aside0.mk (below_step (by repeat (first | (with_reducible first | exact HB.out | apply below_alloc | apply pw_below_drewN | apply below_drew1) | exact HB.out)) hb); clear HO315; clear HB; have HO315 := n0_; have HO319 := n1_; have HB := n2_; clear n0_ n1_ n2_; (try clear hb); (try clear hb2); (try clear hk); (try clear hi); (try clear ho0); obtain ⟨Ao13, co13, eo13⟩ := Kd.R_slice HO319.out; subst eo13))
        go_loopg [19] k (fun kq v19 w' => ∃ (x19_1 : Int), v19 = .int .i64 x19_1 ∧ Aside0 (laws_FnArgsAgain.l0 kq t317 t317 (t317.length : Int) x19_1 = some r) ∧ Aside0 (kq ≤ k) ∧ Aside0 (Kd.R k36 36 w' w.heap.size (fun _ => True) (.slice Ao13 t317.length co13) t317) ∧ Aside0 (Kd.R k36 36 w' w.heap.size (fun _ => True) (.slice Ao13 t317.length co13) t317) ∧ Aside0 (Below w.heap.size w w'))
        case atStart => exact ⟨(0), (by first | rfl | (simp; done) | (simp [*]; done) | (simp [Go.Proofs.YtjklempjljikpaaX.isEmpty_ne]; done)), H', ⟨Nat.le_refl _⟩, ⟨by (with_reducible repeat (first | apply Kd.R_alloc | apply Kd.R_drewN | apply Kd.R_drew)); exact HO319.out⟩, ⟨by (with_reducible repeat (first | apply Kd.R_alloc | apply Kd.R_drewN | apply Kd.R_drew)); exact HO319.out⟩, ⟨by repeat (first | (with_reducible first | exact HB.out | apply below_alloc | apply pw_below_drewN | apply below_drew1) | exact HB.out)⟩⟩
        case round =>
          clear H'
          try clear c1
          try clear c2
          try clear c2b0
          try clear c2b1
          try clear p2
          try clear c4
          try clear c6
          try clear c7
          obtain ⟨x19_1, rfl, HA, HK1, HO_3, HO_17, HB⟩ := hrel
          cases gk with
          | zero => exact absurd HA.out (by simp [laws_FnArgsAgain.l0])
          | succ k1 =>
            have H := HA.out
            clear HA
            simp only [laws_FnArgsAgain.l0] at H
            by_cases c14 : x19_1 < (t317.length : Int)
            · rw [if_pos c14] at H
              have c14b0 : decide (x19_1 < (t317.length : Int)) = true := decide_eq_true c14
              clear c14
              by_cases c15 : 0 ≤ x19_1
              · rw [if_pos c15] at H
                have c15b0 : decide (0 ≤ x19_1) = true := decide_eq_true c15
                clear c15
                by_cases c16 : x19_1 < (t317.length : Int)
                · rw [if_pos c16] at H
                  have c16b0 : decide (x19_1 < (t317.length : Int)) = true := decide_eq_true c16
                  clear c16
                  by_cases c17 : ((rd_T36 t317 x19_1).f0).toList = ([] : List UInt8)
                  · rw [if_pos c17] at H
                    have c17b0 : (((rd_T36 t317 x19_1).f0).toList == ([] : List UInt8)) = true := beq_iff_eq.mpr c17
                    have c17b1 : (((rd_T36 t317 x19_1).f0).toList != ([] : List UInt8)) = false := bne_eq_false_iff_eq.mpr c17
                    clear c17
                    obtain rfl := Option.some.inj H
                    have p320 : 0 ≤ (x19_1 : Int) := of_decide_eq_true (by first | (with_reducible assumption) | assumption)
                    have q320 : x19_1 < (t317.length : Int) := of_decide_eq_true (by first | (with_reducible assumption) | assumption)
                    obtain ⟨ad320, e320, hx320_0, hx320_1, hx320_2⟩ := at_T36 (Kd.R_reads' HO_17.out).2.2 x19_1 p320 q320
                    cases e320
                    replace p320 := eq_true p320
                    replace q320 := eq_true q320
                    go_wp2_with (first | ((with_reducible refine gate_dst (N := 5) rfl ?_); refine box_event ?hg (N := 5) ?hd (cs := #[.string (⟨#[]⟩ : ByteArray), .string (⟨#[]⟩ : ByteArray), .bool false]) (t := 36) ?hr ?_; (case hd => rfl); (case hg => rfl); (case hr => first | (go_simp; done) | (go_simp; rfl)); intro gb321 hg w18 hbox hb; have n0_ := Aside0.mk (Kd.R_below (Kd.R_elderB (by (with_reducible repeat (first | apply Kd.R_alloc | apply Kd.R_drewN | apply Kd.R_drew)); exact HO_3.out) gb321 (Nat.le_of_eq hg.symm)) hb); have n1_ := Aside0.mk (Kd.R_below (Kd.R_elderB (by (with_reducible repeat (first | apply Kd.R_alloc | apply Kd.R_drewN | apply Kd.R_drew)); exact HO_17.out) gb321 (Nat.le_of_eq hg.symm)) hb); have n2_ := Aside0.mk (below_step (by repeat (first | (with_reducible first | exact HB.out | apply below_alloc | apply pw_below_drewN | apply below_drew1) | exact HB.out)) hb); have n3_ := Aside0.mk (hbox); have n4_ := Aside0.mk ((by rw [hg]; exact (below_size (by repeat (first | (with_reducible first | exact HB.out | apply below_alloc | apply pw_below_drewN | apply below_drew1) | exact HB.out))) : w.heap.size ≤ gb321)); have n5_ := Aside0.mk ((by rw [hg]; exact (below_size (by repeat (first | (with_reducible first | exact HB.out | apply below_alloc | apply pw_below_drewN | apply below_drew1) | exact HB.out))) : w.heap.size ≤ gb321)); clear HO_3; clear HO_17; clear HB; have HO_3 := n0_; have HO_17 := n1_; have HB := n2_; have BK321 := n3_; have GW321 := n4_; have GE321 := n5_; clear n0_ n1_ n2_ n3_ n4_ n5_; clear hb hbox hg; have hcz19_0 : w18.cell? ⟨gb321, 0, none⟩ = some (.string (⟨#[]⟩ : ByteArray)) := (blk_cell BK321.out 0).trans rfl; have hcz19_1 : w18.cell? ⟨gb321, 1, none⟩ = some (.string (⟨#[]⟩ : ByteArray)) := (blk_cell BK321.out 1).trans rfl; have hcz19_2 : w18.cell? ⟨gb321, 2, none⟩ = some (.bool false) := (blk_cell BK321.out 2).trans rfl; have hfz19_0 := blk_frozen BK321.out 0; have hfz19_1 := blk_frozen BK321.out 1; have hfz19_2 := blk_frozen BK321.out 2))
                    go_ret
                    exact ⟨by first | rfl | (simp [errW_none, errW_some] <;> rfl) | (simp [*, errW_none, errW_some] <;> rfl), by repeat (first | (with_reducible first | exact HB.out | apply below_alloc | apply pw_below_drewN | apply below_drew1 | refine below_set ?_ GE321.out) | exact HB.out)⟩
                  · rw [if_neg c17] at H
                    have c17b0 : (((rd_T36 t317 x19_1).f0).toList == ([] : List UInt8)) = false := beq_eq_false_iff_ne.mpr c17
                    have c17b1 : (((rd_T36 t317 x19_1).f0).toList != ([] : List UInt8)) = true := bne_iff_ne.mpr c17
                    have H' := Aside0.mk H
                    clear H
                    have p320 : 0 ≤ (x19_1 : Int) := of_decide_eq_true (by first | (with_reducible assumption) | assumption)
                    have q320 : x19_1 < (t317.length : Int) := of_decide_eq_true (by first | (with_reducible assumption) | assumption)
                    obtain ⟨ad320, e320, hx320_0, hx320_1, hx320_2⟩ := at_T36 (Kd.R_reads' HO_17.out).2.2 x19_1 p320 q320
                    cases e320
                    replace p320 := eq_true p320
                    replace q320 := eq_true q320
                    go_wp2_with (first | ((with_reducible refine gate_dst (N := 5) rfl ?_); refine box_event ?hg (N := 5) ?hd (cs := #[.string (⟨#[]⟩ : ByteArray), .string (⟨#[]⟩ : ByteArray), .bool false]) (t := 36) ?hr ?_; (case hd => rfl); (case hg => rfl); (case hr => first | (go_simp; done) | (go_simp; rfl)); intro gb321 hg w20 hbox hb; have n0_ := Aside0.mk (Kd.R_below (Kd.R_elderB (by (with_reducible repeat (first | apply Kd.R_alloc | apply Kd.R_drewN | apply Kd.R_drew)); exact HO_3.out) gb321 (Nat.le_of_eq hg.symm)) hb); have n1_ := Aside0.mk (Kd.R_below (Kd.R_elderB (by (with_reducible repeat (first | apply Kd.R_alloc | apply Kd.R_drewN | apply Kd.R_drew)); exact HO_17.out) gb321 (Nat.le_of_eq hg.symm)) hb); have n2_ := Aside0.mk (below_step (by repeat (first | (with_reducible first | exact HB.out | apply below_alloc | apply pw_below_drewN | apply below_drew1) | exact HB.out)) hb); have n3_ := Aside0.mk (hbox); have n4_ := Aside0.mk ((by rw [hg]; exact (below_size (by repeat (first | (with_reducible first | exact HB.out | apply below_alloc | apply pw_below_drewN | apply below_drew1) | exact HB.out))) : w.heap.size ≤ gb321)); have n5_ := Aside0.mk ((by rw [hg]; exact (below_size (by repeat (first | (with_reducible first | exact HB.out | apply below_alloc | apply pw_below_drewN | apply below_drew1) | exact HB.out))) : w.heap.size ≤ gb321)); clear HO_3; clear HO_17; clear HB; have HO_3 := n0_; have HO_17 := n1_; have HB := n2_; have BK321 := n3_; have GW321 := n4_; have GE321 := n5_; clear n0_ n1_ n2_ n3_ n4_ n5_; clear hb hbox hg; have hcz21_0 : w20.cell? ⟨gb321, 0, none⟩ = some (.string (⟨#[]⟩ : ByteArray)) := (blk_cell BK321.out 0).trans rfl; have hcz21_1 : w20.cell? ⟨gb321, 1, none⟩ = some (.string (⟨#[]⟩ : ByteArray)) := (blk_cell BK321.out 1).trans rfl; have hcz21_2 : w20.cell? ⟨gb321, 2, none⟩ = some (.bool false) := (blk_cell BK321.out 2).trans rfl; have hfz21_0 := blk_frozen BK321.out 0; have hfz21_1 := blk_frozen BK321.out 1; have hfz21_2 := blk_frozen BK321.out 2))
                    go_roundg k1
                    case measure => have := HK1.out; omega
                    case rel => exact ⟨(wrap64 (x19_1 + 1)), (by first | rfl | (simp; done) | (simp [*]; done) | (simp [Go.Proofs.YtjklempjljikpaaX.isEmpty_ne]; done)), H', ⟨by have := HK1.out; omega⟩, ⟨by (with_reducible repeat (first | apply Kd.R_alloc | apply Kd.R_drewN | apply Kd.R_drew)); exact Kd.R_mono (Kd.R_far (p := ⟨gb321, 2, none⟩) (Kd.R_far (p := ⟨gb321, 1, none⟩) (Kd.R_far (p := ⟨gb321, 0, none⟩) (Kd.R_mono HO_3.out (fun k_ hk => (⟨hk, hk.2⟩ : _ ∧ k_ ≠ gb321))) (fun _ hk => hk.2) (.string ((rd_T36 t317 x19_1).f0))) (fun _ hk => hk.2) (.string ((rd_T36 t317 x19_1).f1))) (fun _ hk => hk.2) (.bool ((rd_T36 t317 x19_1).f2))) (fun _ hk => trivial)⟩, ⟨by (with_reducible repeat (first | apply Kd.R_alloc | apply Kd.R_drewN | apply Kd.R_drew)); exact Kd.R_mono (Kd.R_far (p := ⟨gb321, 2, none⟩) (Kd.R_far (p := ⟨gb321, 1, none⟩) (Kd.R_far (p := ⟨gb321, 0, none⟩) (Kd.R_mono HO_17.out (fun k_ hk => (⟨hk, hk.2⟩ : _ ∧ k_ ≠ gb321))) (fun _ hk => hk.2) (.string ((rd_T36 t317 x19_1).f0))) (fun _ hk => hk.2) (.string ((rd_T36 t317 x19_1).f1))) (fun _ hk => hk.2) (.bool ((rd_T36 t317 x19_1).f2))) (fun _ hk => trivial)⟩, ⟨by repeat (first | (with_reducible first | exact HB.out | apply below_alloc | apply pw_below_drewN | apply below_drew1 | refine below_set ?_ GE321.out) | exact HB.out)⟩⟩
                · rw [if_neg c16] at H
                  exact absurd H (by simp)
              · rw [if_neg c15] at H
                exact absurd H (by simp)
            · rw [if_neg c14] at H
              have c14b0 : decide (x19_1 < (t317.length : Int)) = false := decide_eq_false c14
              clear c14
              replace H := Option.bind_eq_some_iff.mp H
              obtain ⟨t322, A220, H⟩ := H
              replace H : ((impl_ArgsOf.f t322).bind fun t323 => ((laws_sameArgs.f k1 t323 t317).bind fun t326 => (some t326))) = some r := H
              have A22 := Aside0.mk A220
              clear A220
              replace H := Option.bind_eq_some_iff.mp H
              obtain ⟨t323, A230, H⟩ := H
              replace H : ((laws_sameArgs.f k1 t323 t317).bind fun t326 => (some t326)) = some r := H
              have A23 := Aside0.mk A230
              clear A230
              replace H := Option.bind_eq_some_iff.mp H
              obtain ⟨t326, A240, H⟩ := H
              replace H : (some t326) = some r := H
              have A24 := Aside0.mk A240
              clear A240
              obtain rfl := Option.some.inj H
              go_wp2_with (first | ((with_reducible refine gate_callee (f := 25) rfl ?_); refine goesL_ (some 28) rfl rfl Try.func25 (by kernel_rfl) rfl #[.slice Ao13 t317.length co13] rfl (by (try simp only [List.map_toArray, List.map_cons, List.map_nil]); first | done | rfl | (simp only [List.length_drop, List.length_take]; rfl)) ?_; (with_reducible refine (impl_ArgsText.calls _ _ t317 t322 _ ?side1 ?side2 A22.out).mono ?_); (case side1 => repeat (first | exact (Kd.R_reads' HO_3.out).2.2 | (with_reducible refine Kd.C_alloc ?_ _) | (with_reducible refine Kd.C_drewN ?_ _) | (with_reducible refine Kd.C_drew ?_))); (case side2 => exact (Kd.R_reads' HO_3.out).2.1); rintro e w25 ⟨rfl, hb⟩; refine ⟨_, rfl, ?_⟩; have n0_ := Aside0.mk (Kd.R_below (by (with_reducible repeat (first | apply Kd.R_alloc | apply Kd.R_drewN | apply Kd.R_drew)); exact HO_3.out) hb); have n1_ := Aside0.mk (Kd.R_below (by (with_reducible repeat (first | apply Kd.R_alloc | apply Kd.R_drewN | apply Kd.R_drew)); exact HO_17.out) hb); have n2_ := Aside0.mk (below_step (by repeat (first | (with_reducible first | exact HB.out | apply below_alloc | apply pw_below_drewN | apply below_drew1) | exact HB.out)) hb); clear HO_3; clear HO_17; clear HB; have HO_3 := n0_; have HO_17 := n1_; have HB := n2_; clear n0_ n1_ n2_; (try clear hb); (try clear hb2); (try clear hk); (try clear hi)) | ((with_reducible refine gate_callee (f := 23) rfl ?_); refine goesL_ (some 29) rfl rfl Try.func23 (by kernel_rfl) rfl #[.string t322] rfl (by (try simp only [List.map_toArray, List.map_cons, List.map_nil]); first | done | rfl | (simp only [List.length_drop, List.length_take]; rfl)) ?_; (with_reducible refine (impl_ArgsOf.calls t322 t323 _ A23.out).mono ?_); rintro e w26 ⟨v324, rfl, ho0, hb⟩; refine ⟨_, rfl, ?_⟩; have n0_ := Aside0.mk (Kd.R_elder' (by (with_reducible repeat (first | apply Kd.R_alloc | apply Kd.R_drewN | apply Kd.R_drew)); exact HO_3.out) (Kd.R_base ho0) hb); have n1_ := Aside0.mk (Kd.R_elder' (by (with_reducible repeat (first | apply Kd.R_alloc | apply Kd.R_drewN | apply Kd.R_drew)); exact HO_17.out) (Kd.R_base ho0) hb); have n2_ := Aside0.mk (Kd.R_lower (Kd.R_new' (Kd.R_new' ho0 (Kd.R_lt (by (with_reducible repeat (first | apply Kd.R_alloc | apply Kd.R_drewN | apply Kd.R_drew)); exact HO_3.out))) (Kd.R_lt (by (with_reducible repeat (first | apply Kd.R_alloc | apply Kd.R_drewN | apply Kd.R_drew)); exact HO_17.out))) (below_size (by repeat (first | (with_reducible first | exact HB.out | apply below_alloc | apply pw_below_drewN | apply below_drew1) | exact HB.out)))); have n3_ := Aside0.mk (below_step (by repeat (first | (with_reducible first | exact HB.out | apply below_alloc | apply pw_below_drewN | apply below_drew1) | exact HB.out)) hb); clear HO_3; clear HO_17; clear HB; have HO_3 := n0_; have HO_17 := n1_; have HO325 := n2_; have HB := n3_; clear n0_ n1_ n2_ n3_; (try clear hb); (try clear hb2); (try clear hk); (try clear hi); (try clear ho0); obtain ⟨Ao27, co27, eo27⟩ := Kd.R_slice HO325.out; subst eo27) | ((with_reducible refine gate_callee (f := 24) rfl ?_); refine goesL_ (some 31) rfl rfl Try.func24 (by kernel_rfl) rfl #[.slice Ao27 t323.length co27, .slice Ao13 t317.length co13] rfl (by (try simp only [List.map_toArray, List.map_cons, List.map_nil]); first | done | rfl | (simp only [List.length_drop, List.length_take]; rfl)) ?_; (with_reducible refine (laws_sameArgs.calls k1 _ _ t323 _ _ t317 t326 _ ?side1 ?side2 ?side3 ?side4 A24.out).mono ?_); (case side1 => repeat (first | exact (Kd.R_reads' HO325.out).2.2 | (with_reducible refine Kd.C_alloc ?_ _) | (with_reducible refine Kd.C_drewN ?_ _) | (with_reducible refine Kd.C_drew ?_))); (case side2 => exact (Kd.R_reads' HO325.out).2.1); (case side3 => repeat (first | exact (Kd.R_reads' HO_3.out).2.2 | (with_reducible refine Kd.C_alloc ?_ _) | (with_reducible refine Kd.C_drewN ?_ _) | (with_reducible refine Kd.C_drew ?_))); (case side4 => exact (Kd.R_reads' HO_3.out).2.1); rintro e w' ⟨rfl, ⟨nd, rfl⟩⟩; refine ⟨_, rfl, ?_⟩))
              go_ret
              exact ⟨by first | rfl | (simp [errW_none, errW_some] <;> rfl) | (simp [*, errW_none, errW_some] <;> rfl), by repeat (first | (with_reducible first | exact HB.out | apply below_alloc | apply pw_below_drewN | apply below_drew1) | exact HB.out)⟩
      · replace c6 := Bool.eq_false_iff.mpr c6
        subst c6
        have H1 : (some true) = some r := by rw [if_neg (show ¬ (false = true) by decide)] at H; exact H
        clear H
        have H := H1
        clear H1
        obtain rfl := Option.some.inj H
        go_enter Try.func7, Try.ntmps7
        go_wp2_with (first | ((with_reducible refine gate_callee (f := 22) rfl ?_); refine goesL_ (some 9) rfl rfl Try.func22 (by kernel_rfl) rfl #[] rfl (by (try simp only [List.map_toArray, List.map_cons, List.map_nil]); first | done | rfl | (simp only [List.length_drop, List.length_take]; rfl)) ?_; (with_reducible refine (laws_reads.calls k  true _ A3.out).mono ?_); rintro e w28 ⟨rfl, hb⟩; refine ⟨_, rfl, ?_⟩; have n0_ := Aside0.mk (below_step (by repeat (first | (with_reducible first | exact HB.out | apply below_alloc | apply pw_below_drewN | apply below_drew1) | exact HB.out)) hb); clear HB; have HB := n0_; clear n0_; (try clear hb); (try clear hb2); (try clear hk); (try clear hi)) | ((with_reducible refine gate_dst (N := 12) rfl ?_); refine Kd.R_lit Kd.string _ 9 ?hg (N := 12) ?hd (xs := ([a0] : List ByteArray)) (inner := [.string a0]) (ok := fun _ => True) (okp := fun _ => True) ?hr ?hp (fun _ hk => hk) trivial (Below.refl _ _) (Nat.le_refl _) (by simp) ?_; (case hd => rfl); (case hg => rfl); (case hr => first | (go_simp; done) | (go_simp; rfl)); (case hp => exact (Reps.one (show Kd.M Kd.string _ _ _ a0 [.string a0] from rfl) (Reps.none _ _))); intro v314 w29 ho30 hb hg_ hnew_; clear hg_ hnew_; (first | rw [← Ny313.out] at ho30 | (simp only [Int.reduceToNat] at ho30; rw [← Ny313.out] at ho30)); have n0_ := Aside0.mk (Kd.R_lower ho30 (below_size (by repeat (first | (with_reducible first | exact HB.out | apply below_alloc | apply pw_below_drewN | apply below_drew1) | exact HB.out)))); have n1_ := Aside0.mk (below_step (by repeat (first | (with_reducible first | exact HB.out | apply below_alloc | apply pw_below_drewN | apply below_drew1) | exact HB.out)) hb); clear HB; have HO315 := n0_; have HB := n1_; clear n0_ n1_; clear hb ho30; obtain ⟨Ao31, co31, eo31⟩ := Kd.R_slice HO315.out; subst eo31) | ((with_reducible refine gate_callee (f := 14) rfl ?_); refine goesL_ (some 13) rfl rfl Try.func14 (by kernel_rfl) rfl #[.slice Ao31 y313.length co31] rfl (by (try simp only [List.map_toArray, List.map_cons, List.map_nil]); first | done | rfl | (simp only [List.length_drop, List.length_take]; rfl)) ?_; (with_reducible refine (laws_short.calls k _ _ y313 false _ ?side1 ?side2 A5.out).mono ?_); (case side1 => repeat (first | exact (Kd.R_reads' HO315.out).2.2 | (with_reducible refine Kd.C_alloc ?_ _) | (with_reducible refine Kd.C_drewN ?_ _) | (with_reducible refine Kd.C_drew ?_))); (case side2 => exact (Kd.R_reads' HO315.out).2.1); rintro e w' ⟨rfl, ⟨nd, rfl⟩⟩; refine ⟨_, rfl, ?_⟩))
        go_ret
        exact ⟨by first | rfl | (simp [errW_none, errW_some] <;> rfl) | (simp [*, errW_none, errW_some] <;> rfl), by repeat (first | (with_reducible first | exact HB.out | apply below_alloc | apply pw_below_drewN | apply below_drew1) | exact HB.out)⟩
    · replace c4 := Bool.eq_false_iff.mpr c4
      subst c4
      have H1 : (some false) = some r := by rw [if_neg (show ¬ (false = true) by decide)] at H; exact H
      clear H
      have H := H1
      clear H1
      obtain rfl := Option.some.inj H
      go_enter Try.func7, Try.ntmps7
      go_wp2_with (first | ((with_reducible refine gate_callee (f := 22) rfl ?_); refine goesL_ (some 9) rfl rfl Try.func22 (by kernel_rfl) rfl #[] rfl (by (try simp only [List.map_toArray, List.map_cons, List.map_nil]); first | done | rfl | (simp only [List.length_drop, List.length_take]; rfl)) ?_; (with_reducible refine (laws_reads.calls k  false _ A3.out).mono ?_); rintro e w32 ⟨rfl, hb⟩; refine ⟨_, rfl, ?_⟩; have n0_ := Aside0.mk (below_step (by repeat (first | (with_reducible first | exact HB.out | apply below_alloc | apply pw_below_drewN | apply below_drew1) | exact HB.out)) hb); clear HB; have HB := n0_; clear n0_; (try clear hb); (try clear hb2); (try clear hk); (try clear hi)))
      go_ret
      exact ⟨by first | rfl | (simp [errW_none, errW_some] <;> rfl) | (simp [*, errW_none, errW_some] <;> rfl), by repeat (first | (with_reducible first | exact HB.out | apply below_alloc | apply pw_below_drewN | apply below_drew1) | exact HB.out)⟩

/-- THE ONE PURE STATEMENT of laws_FnArgsAgain: yours. -/
def laws_FnArgsAgain.Pure : Prop := ∀ (a0 : ByteArray), a0.size ≤ 140737488351232 → ∃ k, laws_FnArgsAgain.f k a0 = some true
theorem laws_FnArgsAgain.walk (P : laws_FnArgsAgain.Pure) (a0 : ByteArray) (w : World) (w0 : a0.size ≤ 140737488351232) :
    Calls Try.prog 7 #[.string a0] w fun e w' => e = .returned (.bool true) ∧ Below w.heap.size w w' := by
  obtain ⟨k, h⟩ := P a0 w0
  refine (laws_FnArgsAgain.calls k a0 true w h).mono ?_
  rintro e w' ⟨rfl, hd⟩
  exact ⟨rfl, hd⟩

end Go.Proofs.Ytjklempjljikpaa.Q
