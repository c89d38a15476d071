/- FnUriLast: the law's function, called with any arguments, returns true and leaves its arguments as they were: every input, no condition. Part 10 of 11. -/
import Derived.Test.YtbkeakeldegkeaaZFnUriLast1
import Derived.Test.YtbkeakeldegkeaaZFnUriLast6
import Derived.Test.YtbkeakeldegkeaaZFnUriLast7
import Derived.Test.YtbkeakeldegkeaaZFnUriLast8
section
namespace Go.Proofs.Ytbkeakeldegkeaa.Q
open Go.RowKit Go.Proofs.YtbkeakeldegkeaaW.PrintWords Go.Proofs.YtbkeakeldegkeaaW.PrintLast Go.Proofs.YtbkeakeldegkeaaW.PrintMore
attribute [local go_sem] max2_int min2_int max_two min_two max_three min_three max_four min_four
set_option linter.unusedVariables false
set_option linter.unusedSimpArgs false
mutual
def laws_FnUriLast.j0 : Nat → ByteArray → ByteArray → Bool → Bool → Option (Bool)
  | 0, _, _, _, _ => none
  | k + 1, x0, x1, x2, x23 => if x23 = true then (some true) else ((laws_parses.f).bind fun t468 => (if t468 = true then ((laws_word.f k x0).bind fun t469 => (if t469 = true then ((laws_short.f k (([x1] : List ByteArray))).bind fun t473 => (if t473 = true then ((laws_calm.f k (([x1] : List ByteArray))).bind fun t477 => (if t477 = true then ((laws_begins.f x1 (⟨#[47]⟩ : ByteArray)).bind fun t478 => (if t478 = true then ((laws_begins.f x1 (⟨#[47, 47]⟩ : ByteArray)).bind fun t479 => (if t479 = true then (laws_FnUriLast.j1 k x0 x1 x2 true) else ((laws_stands.f k x1 (⟨#[58, 47, 47]⟩ : ByteArray)).bind fun t480 => (laws_FnUriLast.j1 k x0 x1 x2 t480)))) else (laws_FnUriLast.j1 k x0 x1 x2 true))) else (laws_FnUriLast.j1 k x0 x1 x2 true))) else (laws_FnUriLast.j1 k x0 x1 x2 true))) else (laws_FnUriLast.j1 k x0 x1 x2 true))) else (some false)))
def laws_FnUriLast.j1 : Nat → ByteArray → ByteArray → Bool → Bool → Option (Bool)
  | 0, _, _, _, _ => none
  | k + 1, x0, x1, x2, x53 => if x53 = true then (some true) else ((impl_UriOf.f x0 x1).bind fun bt481 => ((impl_UriText.f x0 x1 x2).bind fun bt491 => (if bt481.2.2.2.2.2.2.2.2 = true then (laws_FnUriLast.j2 k x2 bt491.1 bt491.2.1 bt491.2.2.1 (!bt491.2.2.2) bt481.1 bt481.2.1 bt481.2.2.1 bt481.2.2.2.1 bt481.2.2.2.2.1 bt481.2.2.2.2.2.1 bt481.2.2.2.2.2.2.1 bt481.2.2.2.2.2.2.2.1) else (laws_FnUriLast.j2 k x2 bt491.1 bt491.2.1 bt491.2.2.1 true bt481.1 bt481.2.1 bt481.2.2.1 bt481.2.2.2.1 bt481.2.2.2.2.1 bt481.2.2.2.2.2.1 bt481.2.2.2.2.2.2.1 bt481.2.2.2.2.2.2.2.1))))
def laws_FnUriLast.j2 : Nat → Bool → ByteArray → ByteArray → ByteArray → Bool → ByteArray → ByteArray → ByteArray → ByteArray → ByteArray → ByteArray → ByteArray → ByteArray → Option (Bool)
  | 0, _, _, _, _, _, _, _, _, _, _, _, _, _ => none
  | k + 1, x2, x9, x10, x11, x74, x491000, x491001, x491002, x491003, x491004, x491005, x491006, x491007 => if x74 = true then (some false) else (laws_FnUriLast.l0 k x2 x9 x10 x11 (x491002.size : Int) x491000 x491001 x491002 x491003 x491004 x491005 x491006 x491007)
def laws_FnUriLast.j4 : Nat → Bool → ByteArray → ByteArray → ByteArray → Int → ByteArray → ByteArray → ByteArray → ByteArray → ByteArray → ByteArray → ByteArray → ByteArray → Option (Bool)
  | 0, _, _, _, _, _, _, _, _, _, _, _, _, _ => none
  | k + 1, x2, x9, x10, x11, x13, x491000, x491001, x491002, x491003, x491004, x491005, x491006, x491007 => if x491005.toList = ([] : List UInt8) then (laws_FnUriLast.j5 k x2 x9 x10 x11 x13 (⟨#[]⟩ : ByteArray) x491000 x491001 x491002 x491003 x491004 x491005 x491006 x491007) else (if 1 + x491005.size ≤ 9223372036854775807 then (laws_FnUriLast.j5 k x2 x9 x10 x11 x13 ((⟨#[35]⟩ : ByteArray) ++ x491005) x491000 x491001 x491002 x491003 x491004 x491005 x491006 x491007) else (none))
def laws_FnUriLast.j5 : Nat → Bool → ByteArray → ByteArray → ByteArray → Int → ByteArray → ByteArray → ByteArray → ByteArray → ByteArray → ByteArray → ByteArray → ByteArray → ByteArray → Option (Bool)
  | 0, _, _, _, _, _, _, _, _, _, _, _, _, _, _ => none
  | k + 1, x2, x9, x10, x11, x13, x14, x491000, x491001, x491002, x491003, x491004, x491005, x491006, x491007 => (impl_QuotedPath.f k x491002).bind fun t495 => (if x2 = true then (if 0 ≤ x13 then (if x13 ≤ (x491002.size : Int) then (if x11.toList = (x491002.extract (x13 : Int).toNat x491002.size).toList then (if x491000.size + 3 ≤ 9223372036854775807 then (if x491000.size + 3 + x491001.size ≤ 9223372036854775807 then (if x491000.size + 3 + x491001.size + x10.size ≤ 9223372036854775807 then (if x491000.size + 3 + x491001.size + x10.size + x14.size ≤ 9223372036854775807 then (if x9.toList = ((((x491000 ++ (⟨#[58, 47, 47]⟩ : ByteArray)) ++ x491001) ++ x10) ++ x14).toList then ((laws_begins.f x10 x491003).bind fun t496 => (some t496)) else (some false)) else (none)) else (none)) else (none)) else (none)) else (some false)) else (none)) else (none)) else (if 0 ≤ x13 then (if x13 ≤ (x491002.size : Int) then (if x11.toList = (x491002.extract (x13 : Int).toNat x491002.size).toList then (if x491000.size + 3 ≤ 9223372036854775807 then (if x491000.size + 3 + x491001.size ≤ 9223372036854775807 then (if x491000.size + 3 + x491001.size + x10.size ≤ 9223372036854775807 then (if x491000.size + 3 + x491001.size + x10.size + x14.size ≤ 9223372036854775807 then (if x9.toList = ((((x491000 ++ (⟨#[58, 47, 47]⟩ : ByteArray)) ++ x491001) ++ x10) ++ x14).toList then ((laws_begins.f x10 t495).bind fun t497 => (some t497)) else (some false)) else (none)) else (none)) else (none)) else (none)) else (some false)) else (none)) else (none)))
def laws_FnUriLast.l0 : Nat → Bool → ByteArray → ByteArray → ByteArray → Int → ByteArray → ByteArray → ByteArray → ByteArray → ByteArray → ByteArray → ByteArray → ByteArray → Option (Bool)
  | 0, _, _, _, _, _, _, _, _, _, _, _, _, _ => none
  | k + 1, x2, x9, x10, x11, x13, x491000, x491001, x491002, x491003, x491004, x491005, x491006, x491007 => if x13 > 0 then (if 0 ≤ (wrap64 (x13 - 1)) then (if (wrap64 (x13 - 1)) < (x491002.size : Int) then (if (bt x491002 (wrap64 (x13 - 1))) = 47 then (laws_FnUriLast.j4 k x2 x9 x10 x11 x13 x491000 x491001 x491002 x491003 x491004 x491005 x491006 x491007) else (laws_FnUriLast.l0 k x2 x9 x10 x11 (wrap64 (x13 - 1)) x491000 x491001 x491002 x491003 x491004 x491005 x491006 x491007)) else (none)) else (none)) else (laws_FnUriLast.j4 k x2 x9 x10 x11 x13 x491000 x491001 x491002 x491003 x491004 x491005 x491006 x491007)
end
def laws_FnUriLast.f (k : Nat) (a0 : ByteArray) (a1 : ByteArray) (a2 : Bool) : Option (Bool) := if (a0.size : Int) > 2147483647 then (laws_FnUriLast.j0 k a0 a1 a2 true) else (laws_FnUriLast.j0 k a0 a1 a2 (decide ((a1.size : Int) > 2147483647)))
set_option maxHeartbeats 8000000 in
set_option maxRecDepth 100000 in
theorem laws_FnUriLast.calls (k : Nat) (a0 : ByteArray) (a1 : ByteArray) (a2 : Bool) (r : Bool) (w : World) (h : laws_FnUriLast.f k a0 a1 a2 = some r) :
    Calls Try.prog 8 #[.string a0, .string a1, .bool a2] w fun e w' => e = .returned (.bool r) ∧ Below w.heap.size w w' := by
  have hu27 := Try.underlying27
  have HB := Aside0.mk (Below.refl w.heap.size w)
  have H : (if (a0.size : Int) > 2147483647 then (laws_FnUriLast.j0 k a0 a1 a2 true) else (laws_FnUriLast.j0 k a0 a1 a2 (decide ((a1.size : Int) > 2147483647)))) = some r := h
  clear h
  have HC4 := Aside0.mk H
  clear H
  go_enter Try.func8, Try.ntmps8
  go_upto_region 1 with (fail)
  go_cut [23] (fun v23 wc => ∃ (kq : Nat) (x23_3 : Bool), v23 = .bool x23_3 ∧ Aside0 (laws_FnUriLast.j0 kq a0 a1 a2 x23_3 = some r) ∧ Aside0 (kq ≤ k) ∧ Aside0 (Below w.heap.size w wc))
  case first =>
    have H := HC4.out
    clear HC4
    by_cases c5 : (a0.size : Int) > 2147483647
    · rw [if_pos c5] at H
      have c5b0 : decide (2147483647 < (a0.size : Int)) = true := decide_eq_true c5
      have c5b1 : decide (2147483647 < a0.size) = true := decide_eq_true (by omega)
      clear c5
      (first | rw [c5b0] | (simp only [i64_w, i32_w]; rw [c5b0]) | (rw [Go.Proofs.YtbkeakeldegkeaaX.isEmpty_eq]; rw [c5b0]) | skip)
      have H' := Aside0.mk H
      clear H
      go_wp2
      go_meet
      case rel => exact ⟨_, (true), (by first | rfl | (simp; done) | (simp [*]; done) | (simp [Go.Proofs.YtbkeakeldegkeaaX.isEmpty_ne]; done)), H', ⟨by first | omega | exact Nat.le_refl _⟩, ⟨by repeat (first | (with_reducible first | exact HB.out | apply below_alloc | apply pw_below_drewN | apply below_drew1) | exact HB.out)⟩⟩
    · rw [if_neg c5] at H
      have c5b0 : decide (2147483647 < (a0.size : Int)) = false := decide_eq_false c5
      have c5b1 : decide (2147483647 < a0.size) = false := decide_eq_false (by omega)
      clear c5
      (first | rw [c5b0] | (simp only [i64_w, i32_w]; rw [c5b0]) | (rw [Go.Proofs.YtbkeakeldegkeaaX.isEmpty_eq]; rw [c5b0]) | skip)
      have H' := Aside0.mk H
      clear H
      go_wp2
      go_meet
      case rel => exact ⟨_, (decide ((a1.size : Int) > 2147483647)), (by first | rfl | (simp; done) | (simp [*]; done) | (simp [Go.Proofs.YtbkeakeldegkeaaX.isEmpty_ne]; done)), H', ⟨by first | omega | exact Nat.le_refl _⟩, ⟨by repeat (first | (with_reducible first | exact HB.out | apply below_alloc | apply pw_below_drewN | apply below_drew1) | exact HB.out)⟩⟩
  case rest =>
    clear HC4
    try clear p2
    try clear c5
    try clear c5b0
    try clear c5b1
    obtain ⟨kq, x23_3, rfl, HA, HJ3, HB⟩ := hcut
    cases kq with
    | zero => exact absurd HA.out (by simp [laws_FnUriLast.j0])
    | succ kj3 =>
      have H := HA.out
      clear HA
      simp only [laws_FnUriLast.j0] at H
      by_cases c6 : x23_3 = true
      · subst c6
        have H1 : (some true) = some r := by rw [if_pos rfl] at H; exact H
        clear H
        have H := H1
        clear H1
        obtain rfl := Option.some.inj H
        go_wp2
        go_ret
        exact ⟨by first | rfl | (simp [errW_none, errW_some] <;> rfl) | (simp [*, errW_none, errW_some] <;> rfl), by repeat (first | (with_reducible first | exact HB.out | apply below_alloc | apply pw_below_drewN | apply below_drew1) | exact HB.out)⟩
      · replace c6 := Bool.eq_false_iff.mpr c6
        subst c6
        have H1 : ((laws_parses.f).bind fun t468 => (if t468 = true then ((laws_word.f kj3 a0).bind fun t469 => (if t469 = true then ((laws_short.f kj3 (([a1] : List ByteArray))).bind fun t473 => (if t473 = true then ((laws_calm.f kj3 (([a1] : List ByteArray))).bind fun t477 => (if t477 = true then ((laws_begins.f a1 (⟨#[47]⟩ : ByteArray)).bind fun t478 => (if t478 = true then ((laws_begins.f a1 (⟨#[47, 47]⟩ : ByteArray)).bind fun t479 => (if t479 = true then (laws_FnUriLast.j1 kj3 a0 a1 a2 true) else ((laws_stands.f kj3 a1 (⟨#[58, 47, 47]⟩ : ByteArray)).bind fun t480 => (laws_FnUriLast.j1 kj3 a0 a1 a2 t480)))) else (laws_FnUriLast.j1 kj3 a0 a1 a2 true))) else (laws_FnUriLast.j1 kj3 a0 a1 a2 true))) else (laws_FnUriLast.j1 kj3 a0 a1 a2 true))) else (laws_FnUriLast.j1 kj3 a0 a1 a2 true))) else (some false))) = some r := by rw [if_neg (show ¬ (false = true) by decide)] at H; exact H
        clear H
        have H := H1
        clear H1
        replace H := Option.bind_eq_some_iff.mp H
        obtain ⟨t468, A70, H⟩ := H
        replace H : (if t468 = true then ((laws_word.f kj3 a0).bind fun t469 => (if t469 = true then ((laws_short.f kj3 (([a1] : List ByteArray))).bind fun t473 => (if t473 = true then ((laws_calm.f kj3 (([a1] : List ByteArray))).bind fun t477 => (if t477 = true then ((laws_begins.f a1 (⟨#[47]⟩ : ByteArray)).bind fun t478 => (if t478 = true then ((laws_begins.f a1 (⟨#[47, 47]⟩ : ByteArray)).bind fun t479 => (if t479 = true then (laws_FnUriLast.j1 kj3 a0 a1 a2 true) else ((laws_stands.f kj3 a1 (⟨#[58, 47, 47]⟩ : ByteArray)).bind fun t480 => (laws_FnUriLast.j1 kj3 a0 a1 a2 t480)))) else (laws_FnUriLast.j1 kj3 a0 a1 a2 true))) else (laws_FnUriLast.j1 kj3 a0 a1 a2 true))) else (laws_FnUriLast.j1 kj3 a0 a1 a2 true))) else (laws_FnUriLast.j1 kj3 a0 a1 a2 true))) else (some false)) = some r := H
        have A7 := Aside0.mk A70
        clear A70
        by_cases c8 : t468 = true
        · subst c8
          have H1 : ((laws_word.f kj3 a0).bind fun t469 => (if t469 = true then ((laws_short.f kj3 (([a1] : List ByteArray))).bind fun t473 => (if t473 = true then ((laws_calm.f kj3 (([a1] : List ByteArray))).bind fun t477 => (if t477 = true then ((laws_begins.f a1 (⟨#[47]⟩ : ByteArray)).bind fun t478 => (if t478 = true then ((laws_begins.f a1 (⟨#[47, 47]⟩ : ByteArray)).bind fun t479 => (if t479 = true then (laws_FnUriLast.j1 kj3 a0 a1 a2 true) else ((laws_stands.f kj3 a1 (⟨#[58, 47, 47]⟩ : ByteArray)).bind fun t480 => (laws_FnUriLast.j1 kj3 a0 a1 a2 t480)))) else (laws_FnUriLast.j1 kj3 a0 a1 a2 true))) else (laws_FnUriLast.j1 kj3 a0 a1 a2 true))) else (laws_FnUriLast.j1 kj3 a0 a1 a2 true))) else (laws_FnUriLast.j1 kj3 a0 a1 a2 true))) = some r := by rw [if_pos rfl] at H; exact H
          clear H
          have H := H1
          clear H1
          have HC9 := Aside0.mk H
          clear H
          go_upto_region 5 with (first | ((with_reducible refine gate_callee (f := 12) rfl ?_); refine goesL_ (some 24) rfl rfl Try.func12 (by kernel_rfl) rfl #[] rfl (by (try simp only [List.map_toArray, List.map_cons, List.map_nil]); first | done | rfl | (simp only [List.length_drop, List.length_take]; rfl)) ?_; (with_reducible refine (laws_parses.calls  true _ A7.out).mono ?_); rintro e w10 ⟨rfl, hb⟩; refine ⟨_, rfl, ?_⟩; have n0_ := Aside0.mk (below_step (by repeat (first | (with_reducible first | exact HB.out | apply below_alloc | apply pw_below_drewN | apply below_drew1) | exact HB.out)) hb); clear HB; have HB := n0_; clear n0_; (try clear hb); (try clear hb2); (try clear hk); (try clear hi)))
          (try simp only [Act.put, List.setIfInBounds_toArray, List.set_cons_zero, List.set_cons_succ])
          go_cut [53] (fun v53 wc => ∃ (kq : Nat) (x53_8 : Bool), v53 = .bool x53_8 ∧ Aside0 (laws_FnUriLast.j1 kq a0 a1 a2 x53_8 = some r) ∧ Aside0 (kq ≤ kj3) ∧ Aside0 (Below w.heap.size w wc))
          case first =>
            have H := HC9.out
            clear HC9
            replace H := Option.bind_eq_some_iff.mp H
            obtain ⟨t469, A110, H⟩ := H
            replace H : (if t469 = true then ((laws_short.f kj3 (([a1] : List ByteArray))).bind fun t473 => (if t473 = true then ((laws_calm.f kj3 (([a1] : List ByteArray))).bind fun t477 => (if t477 = true then ((laws_begins.f a1 (⟨#[47]⟩ : ByteArray)).bind fun t478 => (if t478 = true then ((laws_begins.f a1 (⟨#[47, 47]⟩ : ByteArray)).bind fun t479 => (if t479 = true then (laws_FnUriLast.j1 kj3 a0 a1 a2 true) else ((laws_stands.f kj3 a1 (⟨#[58, 47, 47]⟩ : ByteArray)).bind fun t480 => (laws_FnUriLast.j1 kj3 a0 a1 a2 t480)))) else (laws_FnUriLast.j1 kj3 a0 a1 a2 true))) else (laws_FnUriLast.j1 kj3 a0 a1 a2 true))) else (laws_FnUriLast.j1 kj3 a0 a1 a2 true))) else (laws_FnUriLast.j1 kj3 a0 a1 a2 true)) = some r := H
            have A11 := Aside0.mk A110
            clear A110
            by_cases c12 : t469 = true
            · subst c12
              have H1 : ((laws_short.f kj3 (([a1] : List ByteArray))).bind fun t473 => (if t473 = true then ((laws_calm.f kj3 (([a1] : List ByteArray))).bind fun t477 => (if t477 = true then ((laws_begins.f a1 (⟨#[47]⟩ : ByteArray)).bind fun t478 => (if t478 = true then ((laws_begins.f a1 (⟨#[47, 47]⟩ : ByteArray)).bind fun t479 => (if t479 = true then (laws_FnUriLast.j1 kj3 a0 a1 a2 true) else ((laws_stands.f kj3 a1 (⟨#[58, 47, 47]⟩ : ByteArray)).bind fun t480 => (laws_FnUriLast.j1 kj3 a0 a1 a2 t480)))) else (laws_FnUriLast.j1 kj3 a0 a1 a2 true))) else (laws_FnUriLast.j1 kj3 a0 a1 a2 true))) else (laws_FnUriLast.j1 kj3 a0 a1 a2 true))) = some r := by rw [if_pos rfl] at H; exact H
              clear H
              have H := H1
              clear H1
              obtain ⟨y470, hy470⟩ : ∃ y_ : List ByteArray, y_ = (([a1] : List ByteArray)) := ⟨_, rfl⟩
              replace H : ((laws_short.f kj3 y470).bind fun t473 => (if t473 = true then ((laws_calm.f kj3 (([a1] : List ByteArray))).bind fun t477 => (if t477 = true then ((laws_begins.f a1 (⟨#[47]⟩ : ByteArray)).bind fun t478 => (if t478 = true then ((laws_begins.f a1 (⟨#[47, 47]⟩ : ByteArray)).bind fun t479 => (if t479 = true then (laws_FnUriLast.j1 kj3 a0 a1 a2 true) else ((laws_stands.f kj3 a1 (⟨#[58, 47, 47]⟩ : ByteArray)).bind fun t480 => (laws_FnUriLast.j1 kj3 a0 a1 a2 t480)))) else (laws_FnUriLast.j1 kj3 a0 a1 a2 true))) else (laws_FnUriLast.j1 kj3 a0 a1 a2 true))) else (laws_FnUriLast.j1 kj3 a0 a1 a2 true))) = some r := by first | (rw [hy470]; with_reducible exact H) | (have H2_ := (Option.bind_some _ _).symm.trans H; rw [hy470]; with_reducible exact H2_) | (have H2_ := (Option.bind_some _ _).symm.trans H; with_reducible exact H2_) | with_reducible exact H | (rw [hy470]; exact H) | exact H
              have Ny470 := Aside0.mk hy470
              clear hy470
              replace H := Option.bind_eq_some_iff.mp H
              obtain ⟨t473, A130, H⟩ := H
              replace H : (if t473 = true then ((laws_calm.f kj3 (([a1] : List ByteArray))).bind fun t477 => (if t477 = true then ((laws_begins.f a1 (⟨#[47]⟩ : ByteArray)).bind fun t478 => (if t478 = true then ((laws_begins.f a1 (⟨#[47, 47]⟩ : ByteArray)).bind fun t479 => (if t479 = true then (laws_FnUriLast.j1 kj3 a0 a1 a2 true) else ((laws_stands.f kj3 a1 (⟨#[58, 47, 47]⟩ : ByteArray)).bind fun t480 => (laws_FnUriLast.j1 kj3 a0 a1 a2 t480)))) else (laws_FnUriLast.j1 kj3 a0 a1 a2 true))) else (laws_FnUriLast.j1 kj3 a0 a1 a2 true))) else (laws_FnUriLast.j1 kj3 a0 a1 a2 true)) = some r := H
              have A13 := Aside0.mk A130
              clear A130
              by_cases c14 : t473 = true
              · subst c14
                have H1 : ((laws_calm.f kj3 (([a1] : List ByteArray))).bind fun t477 => (if t477 = true then ((laws_begins.f a1 (⟨#[47]⟩ : ByteArray)).bind fun t478 => (if t478 = true then ((laws_begins.f a1 (⟨#[47, 47]⟩ : ByteArray)).bind fun t479 => (if t479 = true then (laws_FnUriLast.j1 kj3 a0 a1 a2 true) else ((laws_stands.f kj3 a1 (⟨#[58, 47, 47]⟩ : ByteArray)).bind fun t480 => (laws_FnUriLast.j1 kj3 a0 a1 a2 t480)))) else (laws_FnUriLast.j1 kj3 a0 a1 a2 true))) else (laws_FnUriLast.j1 kj3 a0 a1 a2 true))) = some r := by rw [if_pos rfl] at H; exact H
                clear H
                have H := H1
                clear H1
                obtain ⟨y474, hy474⟩ : ∃ y_ : List ByteArray, y_ = (([a1] : List ByteArray)) := ⟨_, rfl⟩
                replace H : ((laws_calm.f kj3 y474).bind fun t477 => (if t477 = true then ((laws_begins.f a1 (⟨#[47]⟩ : ByteArray)).bind fun t478 => (if t478 = true then ((laws_begins.f a1 (⟨#[47, 47]⟩ : ByteArray)).bind fun t479 => (if t479 = true then (laws_FnUriLast.j1 kj3 a0 a1 a2 true) else ((laws_stands.f kj3 a1 (⟨#[58, 47, 47]⟩ : ByteArray)).bind fun t480 => (laws_FnUriLast.j1 kj3 a0 a1 a2 t480)))) else (laws_FnUriLast.j1 kj3 a0 a1 a2 true))) else (laws_FnUriLast.j1 kj3 a0 a1 a2 true))) = some r := by first | (rw [hy474]; with_reducible exact H) | (have H2_ := (Option.bind_some _ _).symm.trans H; rw [hy474]; with_reducible exact H2_) | (have H2_ := (Option.bind_some _ _).symm.trans H; with_reducible exact H2_) | with_reducible exact H | (rw [hy474]; exact H) | exact H
                have Ny474 := Aside0.mk hy474
                clear hy474
                replace H := Option.bind_eq_some_iff.mp H
                obtain ⟨t477, A150, H⟩ := H
                replace H : (if t477 = true then ((laws_begins.f a1 (⟨#[47]⟩ : ByteArray)).bind fun t478 => (if t478 = true then ((laws_begins.f a1 (⟨#[47, 47]⟩ : ByteArray)).bind fun t479 => (if t479 = true then (laws_FnUriLast.j1 kj3 a0 a1 a2 true) else ((laws_stands.f kj3 a1 (⟨#[58, 47, 47]⟩ : ByteArray)).bind fun t480 => (laws_FnUriLast.j1 kj3 a0 a1 a2 t480)))) else (laws_FnUriLast.j1 kj3 a0 a1 a2 true))) else (laws_FnUriLast.j1 kj3 a0 a1 a2 true)) = some r := H
                have A15 := Aside0.mk A150
                clear A150
                by_cases c16 : t477 = true
                · subst c16
                  have H1 : ((laws_begins.f a1 (⟨#[47]⟩ : ByteArray)).bind fun t478 => (if t478 = true then ((laws_begins.f a1 (⟨#[47, 47]⟩ : ByteArray)).bind fun t479 => (if t479 = true then (laws_FnUriLast.j1 kj3 a0 a1 a2 true) else ((laws_stands.f kj3 a1 (⟨#[58, 47, 47]⟩ : ByteArray)).bind fun t480 => (laws_FnUriLast.j1 kj3 a0 a1 a2 t480)))) else (laws_FnUriLast.j1 kj3 a0 a1 a2 true))) = some r := by rw [if_pos rfl] at H; exact H
                  clear H
                  have H := H1
                  clear H1
                  replace H := Option.bind_eq_some_iff.mp H
                  obtain ⟨t478, A170, H⟩ := H
                  replace H : (if t478 = true then ((laws_begins.f a1 (⟨#[47, 47]⟩ : ByteArray)).bind fun t479 => (if t479 = true then (laws_FnUriLast.j1 kj3 a0 a1 a2 true) else ((laws_stands.f kj3 a1 (⟨#[58, 47, 47]⟩ : ByteArray)).bind fun t480 => (laws_FnUriLast.j1 kj3 a0 a1 a2 t480)))) else (laws_FnUriLast.j1 kj3 a0 a1 a2 true)) = some r := H
                  have A17 := Aside0.mk A170
                  clear A170
                  by_cases c18 : t478 = true
                  · subst c18
                    have H1 : ((laws_begins.f a1 (⟨#[47, 47]⟩ : ByteArray)).bind fun t479 => (if t479 = true then (laws_FnUriLast.j1 kj3 a0 a1 a2 true) else ((laws_stands.f kj3 a1 (⟨#[58, 47, 47]⟩ : ByteArray)).bind fun t480 => (laws_FnUriLast.j1 kj3 a0 a1 a2 t480)))) = some r := by rw [if_pos rfl] at H; exact H
                    clear H
                    have H := H1
                    clear H1
                    replace H := Option.bind_eq_some_iff.mp H
                    obtain ⟨t479, A190, H⟩ := H
                    replace H : (if t479 = true then (laws_FnUriLast.j1 kj3 a0 a1 a2 true) else ((laws_stands.f kj3 a1 (⟨#[58, 47, 47]⟩ : ByteArray)).bind fun t480 => (laws_FnUriLast.j1 kj3 a0 a1 a2 t480))) = some r := H
                    have A19 := Aside0.mk A190
                    clear A190
                    by_cases c20 : t479 = true
                    · subst c20
                      have H1 : (laws_FnUriLast.j1 kj3 a0 a1 a2 true) = some r := by rw [if_pos rfl] at H; exact H
                      clear H
                      have H := H1
                      clear H1
                      have H' := Aside0.mk H
                      clear H
                      go_wp2_with (first | ((with_reducible refine gate_callee (f := 13) rfl ?_); refine goesL_ (some 27) rfl rfl Try.func13 (by kernel_rfl) rfl #[.string a0] rfl (by (try simp only [List.map_toArray, List.map_cons, List.map_nil]); first | done | rfl | (simp only [List.length_drop, List.length_take]; rfl)) ?_; (with_reducible refine (laws_word.calls kj3 a0 true _ A11.out).mono ?_); rintro e w' ⟨rfl, ⟨nd, rfl⟩⟩; refine ⟨_, rfl, ?_⟩) | ((with_reducible refine gate_dst (N := 31) rfl ?_); (try (refine gate_guard (by rfl) ?_; dsimp only)); refine Kd.R_lit Kd.string _ 9 ?hg (N := 31) ?hd (xs := ([a1] : List ByteArray)) (inner := [.string a1]) (ok := fun _ => True) (okp := fun _ => True) ?hr ?hp (fun _ hk => hk) trivial (Below.refl _ _) (Nat.le_refl _) (by simp) ?_; (case hd => rfl); (case hg => rfl); (case hr => first | (go_simp; done) | (go_simp; rfl)); (case hp => exact (Reps.one (show Kd.M Kd.string _ _ _ a1 [.string a1] from rfl) (Reps.none _ _))); intro v471 w21 ho22 hb hg_ hnew_; clear hg_ hnew_; (first | rw [← Ny470.out] at ho22 | (simp only [Int.reduceToNat] at ho22; rw [← Ny470.out] at ho22)); have n0_ := Aside0.mk (Kd.R_lower ho22 (below_size (by repeat (first | (with_reducible first | exact HB.out | apply below_alloc | apply pw_below_drewN | apply below_drew1) | exact HB.out)))); have n1_ := Aside0.mk (below_step (by repeat (first | (with_reducible first | exact HB.out | apply below_alloc | apply pw_below_drewN | apply below_drew1) | exact HB.out)) hb); clear HB; have HO472 := n0_; have HB := n1_; clear n0_ n1_; clear hb ho22; obtain ⟨Ao23, co23, eo23⟩ := Kd.R_slice HO472.out; subst eo23) | (go_at_call 14; (with_reducible refine (laws_short.calls kj3 _ _ y470 true _ ?side1 ?side2 A13.out).mono ?_); (case side1 => repeat (first | exact (Kd.R_reads' HO472.out).2.2 | (with_reducible refine Kd.C_alloc ?_ _) | (with_reducible refine Kd.C_drewN ?_ _) | (with_reducible refine Kd.C_drew ?_))); (case side2 => exact (Kd.R_reads' HO472.out).2.1); rintro e w' ⟨rfl, ⟨nd, rfl⟩⟩) | ((with_reducible refine gate_dst (N := 37) rfl ?_); (try (refine gate_guard (by rfl) ?_; dsimp only)); refine Kd.R_lit Kd.string _ 9 ?hg (N := 37) ?hd (xs := ([a1] : List ByteArray)) (inner := [.string a1]) (ok := fun _ => True) (okp := fun _ => True) ?hr ?hp (fun _ hk => hk) trivial (Below.refl _ _) (Nat.le_refl _) (by simp) ?_; (case hd => rfl); (case hg => rfl); (case hr => first | (go_simp; done) | (go_simp; rfl)); (case hp => exact (Reps.one (show Kd.M Kd.string _ _ _ a1 [.string a1] from rfl) (Reps.none _ _))); intro v475 w24 ho25 hb hg_ hnew_; clear hg_ hnew_; (first | rw [← Ny474.out] at ho25 | (simp only [Int.reduceToNat] at ho25; rw [← Ny474.out] at ho25)); have n0_ := Aside0.mk (Kd.R_elder' (by (with_reducible repeat (first | apply Kd.R_alloc | apply Kd.R_drewN | apply Kd.R_drew)); exact HO472.out) (Kd.R_base ho25) hb); have n1_ := Aside0.mk (Kd.R_lower (Kd.R_new' ho25 (Kd.R_lt (by (with_reducible repeat (first | apply Kd.R_alloc | apply Kd.R_drewN | apply Kd.R_drew)); exact HO472.out))) (below_size (by repeat (first | (with_reducible first | exact HB.out | apply below_alloc | apply pw_below_drewN | apply below_drew1) | exact HB.out)))); have n2_ := Aside0.mk (below_step (by repeat (first | (with_reducible first | exact HB.out | apply below_alloc | apply pw_below_drewN | apply below_drew1) | exact HB.out)) hb); clear HO472; clear HB; have HO472 := n0_; have HO476 := n1_; have HB := n2_; clear n0_ n1_ n2_; clear hb ho25; obtain ⟨Ao26, co26, eo26⟩ := Kd.R_slice HO476.out; subst eo26) | (go_at_call 15; (with_reducible refine (laws_calm.calls kj3 _ _ y474 true _ ?side1 ?side2 A15.out).mono ?_); (case side1 => repeat (first | exact (Kd.R_reads' HO476.out).2.2 | (with_reducible refine Kd.C_alloc ?_ _) | (with_reducible refine Kd.C_drewN ?_ _) | (with_reducible refine Kd.C_drew ?_))); (case side2 => exact (Kd.R_reads' HO476.out).2.1); rintro e w' ⟨rfl, ⟨nd, rfl⟩⟩) | (go_at_call 16; (with_reducible refine (laws_begins.calls a1 (⟨#[47]⟩ : ByteArray) true _ A17.out).mono ?_); rintro e w' ⟨rfl, ⟨nd, rfl⟩⟩) | (go_at_call 16; (with_reducible refine (laws_begins.calls a1 (⟨#[47, 47]⟩ : ByteArray) true _ A19.out).mono ?_); rintro e w' ⟨rfl, ⟨nd, rfl⟩⟩))
                      go_meet
                      case rel => exact ⟨_, (true), (by first | rfl | (simp; done) | (simp [*]; done) | (simp [Go.Proofs.YtbkeakeldegkeaaX.isEmpty_ne]; done)), H', ⟨by have := HJ3.out; first | omega | exact Nat.le_refl _⟩, ⟨by repeat (first | (with_reducible first | exact HB.out | apply below_alloc | apply pw_below_drewN | apply below_drew1) | exact HB.out)⟩⟩
                    · replace c20 := Bool.eq_false_iff.mpr c20
                      subst c20
                      have H1 : ((laws_stands.f kj3 a1 (⟨#[58, 47, 47]⟩ : ByteArray)).bind fun t480 => (laws_FnUriLast.j1 kj3 a0 a1 a2 t480)) = some r := by rw [if_neg (show ¬ (false = true) by decide)] at H; exact H
                      clear H
                      have H := H1
                      clear H1
                      replace H := Option.bind_eq_some_iff.mp H
                      obtain ⟨t480, A270, H⟩ := H
                      replace H : (laws_FnUriLast.j1 kj3 a0 a1 a2 t480) = some r := H
                      have A27 := Aside0.mk A270
                      clear A270
                      have H' := Aside0.mk H
                      clear H
                      go_wp2_with (first | ((with_reducible refine gate_callee (f := 13) rfl ?_); refine goesL_ (some 27) rfl rfl Try.func13 (by kernel_rfl) rfl #[.string a0] rfl (by (try simp only [List.map_toArray, List.map_cons, List.map_nil]); first | done | rfl | (simp only [List.length_drop, List.length_take]; rfl)) ?_; (with_reducible refine (laws_word.calls kj3 a0 true _ A11.out).mono ?_); rintro e w' ⟨rfl, ⟨nd, rfl⟩⟩; refine ⟨_, rfl, ?_⟩) | ((with_reducible refine gate_dst (N := 31) rfl ?_); (try (refine gate_guard (by rfl) ?_; dsimp only)); refine Kd.R_lit Kd.string _ 9 ?hg (N := 31) ?hd (xs := ([a1] : List ByteArray)) (inner := [.string a1]) (ok := fun _ => True) (okp := fun _ => True) ?hr ?hp (fun _ hk => hk) trivial (Below.refl _ _) (Nat.le_refl _) (by simp) ?_; (case hd => rfl); (case hg => rfl); (case hr => first | (go_simp; done) | (go_simp; rfl)); (case hp => exact (Reps.one (show Kd.M Kd.string _ _ _ a1 [.string a1] from rfl) (Reps.none _ _))); intro v471 w28 ho29 hb hg_ hnew_; clear hg_ hnew_; (first | rw [← Ny470.out] at ho29 | (simp only [Int.reduceToNat] at ho29; rw [← Ny470.out] at ho29)); have n0_ := Aside0.mk (Kd.R_lower ho29 (below_size (by repeat (first | (with_reducible first | exact HB.out | apply below_alloc | apply pw_below_drewN | apply below_drew1) | exact HB.out)))); have n1_ := Aside0.mk (below_step (by repeat (first | (with_reducible first | exact HB.out | apply below_alloc | apply pw_below_drewN | apply below_drew1) | exact HB.out)) hb); clear HB; have HO472 := n0_; have HB := n1_; clear n0_ n1_; clear hb ho29; obtain ⟨Ao30, co30, eo30⟩ := Kd.R_slice HO472.out; subst eo30) | (go_at_call 14; (with_reducible refine (laws_short.calls kj3 _ _ y470 true _ ?side1 ?side2 A13.out).mono ?_); (case side1 => repeat (first | exact (Kd.R_reads' HO472.out).2.2 | (with_reducible refine Kd.C_alloc ?_ _) | (with_reducible refine Kd.C_drewN ?_ _) | (with_reducible refine Kd.C_drew ?_))); (case side2 => exact (Kd.R_reads' HO472.out).2.1); rintro e w' ⟨rfl, ⟨nd, rfl⟩⟩) | ((with_reducible refine gate_dst (N := 37) rfl ?_); (try (refine gate_guard (by rfl) ?_; dsimp only)); refine Kd.R_lit Kd.string _ 9 ?hg (N := 37) ?hd (xs := ([a1] : List ByteArray)) (inner := [.string a1]) (ok := fun _ => True) (okp := fun _ => True) ?hr ?hp (fun _ hk => hk) trivial (Below.refl _ _) (Nat.le_refl _) (by simp) ?_; (case hd => rfl); (case hg => rfl); (case hr => first | (go_simp; done) | (go_simp; rfl)); (case hp => exact (Reps.one (show Kd.M Kd.string _ _ _ a1 [.string a1] from rfl) (Reps.none _ _))); intro v475 w31 ho32 hb hg_ hnew_; clear hg_ hnew_; (first | rw [← Ny474.out] at ho32 | (simp only [Int.reduceToNat] at ho32; rw [← Ny474.out] at ho32)); have n0_ := Aside0.mk (Kd.R_elder' (by (with_reducible repeat (first | apply Kd.R_alloc | apply Kd.R_drewN | apply Kd.R_drew)); exact HO472.out) (Kd.R_base ho32) hb); have n1_ := Aside0.mk (Kd.R_lower (Kd.R_new' ho32 (Kd.R_lt (by (with_reducible repeat (first | apply Kd.R_alloc | apply Kd.R_drewN | apply Kd.R_drew)); exact HO472.out))) (below_size (by repeat (first | (with_reducible first | exact HB.out | apply below_alloc | apply pw_below_drewN | apply below_drew1) | exact HB.out)))); have n2_ := Aside0.mk (below_step (by repeat (first | (with_reducible first | exact HB.out | apply below_alloc | apply pw_below_drewN | apply below_drew1) | exact HB.out)) hb); clear HO472; clear HB; have HO472 := n0_; have HO476 := n1_; have HB := n2_; clear n0_ n1_ n2_; clear hb ho32; obtain ⟨Ao33, co33, eo33⟩ := Kd.R_slice HO476.out; subst eo33) | (go_at_call 15; (with_reducible refine (laws_calm.calls kj3 _ _ y474 true _ ?side1 ?side2 A15.out).mono ?_); (case side1 => repeat (first | exact (Kd.R_reads' HO476.out).2.2 | (with_reducible refine Kd.C_alloc ?_ _) | (with_reducible refine Kd.C_drewN ?_ _) | (with_reducible refine Kd.C_drew ?_))); (case side2 => exact (Kd.R_reads' HO476.out).2.1); rintro e w' ⟨rfl, ⟨nd, rfl⟩⟩) | (go_at_call 16; (with_reducible refine (laws_begins.calls a1 (⟨#[47]⟩ : ByteArray) true _ A17.out).mono ?_); rintro e w' ⟨rfl, ⟨nd, rfl⟩⟩) | (go_at_call 16; (with_reducible refine (laws_begins.calls a1 (⟨#[47, 47]⟩ : ByteArray) false _ A19.out).mono ?_); rintro e w' ⟨rfl, ⟨nd, rfl⟩⟩) | (go_at_call 17; (with_reducible refine (laws_stands.calls kj3 a1 (⟨#[58, 47, 47]⟩ : ByteArray) t480 _ A27.out).mono ?_); rintro e w' ⟨rfl, ⟨nd, rfl⟩⟩))
                      go_meet
                      case rel => exact ⟨_, (t480), (by first | rfl | (simp; done) | (simp [*]; done) | (simp [Go.Proofs.YtbkeakeldegkeaaX.isEmpty_ne]; done)), H', ⟨by have := HJ3.out; first | omega | exact Nat.le_refl _⟩, ⟨by repeat (first | (with_reducible first | exact HB.out | apply below_alloc | apply pw_below_drewN | apply below_drew1) | exact HB.out)⟩⟩
                  · replace c18 := Bool.eq_false_iff.mpr c18
                    subst c18
                    have H1 : (laws_FnUriLast.j1 kj3 a0 a1 a2 true) = some r := by rw [if_neg (show ¬ (false = true) by decide)] at H; exact H
                    clear H
                    have H := H1
                    clear H1
                    have H' := Aside0.mk H
                    clear H
                    go_wp2_with (first | ((with_reducible refine gate_callee (f := 13) rfl ?_); refine goesL_ (some 27) rfl rfl Try.func13 (by kernel_rfl) rfl #[.string a0] rfl (by (try simp only [List.map_toArray, List.map_cons, List.map_nil]); first | done | rfl | (simp only [List.length_drop, List.length_take]; rfl)) ?_; (with_reducible refine (laws_word.calls kj3 a0 true _ A11.out).mono ?_); rintro e w' ⟨rfl, ⟨nd, rfl⟩⟩; refine ⟨_, rfl, ?_⟩) | ((with_reducible refine gate_dst (N := 31) rfl ?_); (try (refine gate_guard (by rfl) ?_; dsimp only)); refine Kd.R_lit Kd.string _ 9 ?hg (N := 31) ?hd (xs := ([a1] : List ByteArray)) (inner := [.string a1]) (ok := fun _ => True) (okp := fun _ => True) ?hr ?hp (fun _ hk => hk) trivial (Below.refl _ _) (Nat.le_refl _) (by simp) ?_; (case hd => rfl); (case hg => rfl); (case hr => first | (go_simp; done) | (go_simp; rfl)); (case hp => exact (Reps.one (show Kd.M Kd.string _ _ _ a1 [.string a1] from rfl) (Reps.none _ _))); intro v471 w34 ho35 hb hg_ hnew_; clear hg_ hnew_; (first | rw [← Ny470.out] at ho35 | (simp only [Int.reduceToNat] at ho35; rw [← Ny470.out] at ho35)); have n0_ := Aside0.mk (Kd.R_lower ho35 (below_size (by repeat (first | (with_reducible first | exact HB.out | apply below_alloc | apply pw_below_drewN | apply below_drew1) | exact HB.out)))); have n1_ := Aside0.mk (below_step (by repeat (first | (with_reducible first | exact HB.out | apply below_alloc | apply pw_below_drewN | apply below_drew1) | exact HB.out)) hb); clear HB; have HO472 := n0_; have HB := n1_; clear n0_ n1_; clear hb ho35; obtain ⟨Ao36, co36, eo36⟩ := Kd.R_slice HO472.out; subst eo36) | (go_at_call 14; (with_reducible refine (laws_short.calls kj3 _ _ y470 true _ ?side1 ?side2 A13.out).mono ?_); (case side1 => repeat (first | exact (Kd.R_reads' HO472.out).2.2 | (with_reducible refine Kd.C_alloc ?_ _) | (with_reducible refine Kd.C_drewN ?_ _) | (with_reducible refine Kd.C_drew ?_))); (case side2 => exact (Kd.R_reads' HO472.out).2.1); rintro e w' ⟨rfl, ⟨nd, rfl⟩⟩) | ((with_reducible refine gate_dst (N := 37) rfl ?_); (try (refine gate_guard (by rfl) ?_; dsimp only)); refine Kd.R_lit Kd.string _ 9 ?hg (N := 37) ?hd (xs := ([a1] : List ByteArray)) (inner := [.string a1]) (ok := fun _ => True) (okp := fun _ => True) ?hr ?hp (fun _ hk => hk) trivial (Below.refl _ _) (Nat.le_refl _) (by simp) ?_; (case hd => rfl); (case hg => rfl); (case hr => first | (go_simp; done) | (go_simp; rfl)); (case hp => exact (Reps.one (show Kd.M Kd.string _ _ _ a1 [.string a1] from rfl) (Reps.none _ _))); intro v475 w37 ho38 hb hg_ hnew_; clear hg_ hnew_; (first | rw [← Ny474.out] at ho38 | (simp only [Int.reduceToNat] at ho38; rw [← Ny474.out] at ho38)); have n0_ := Aside0.mk (Kd.R_elder' (by (with_reducible repeat (first | apply Kd.R_alloc | apply Kd.R_drewN | apply Kd.R_drew)); exact HO472.out) (Kd.R_base ho38) hb); have n1_ := Aside0.mk (Kd.R_lower (Kd.R_new' ho38 (Kd.R_lt (by (with_reducible repeat (first | apply Kd.R_alloc | apply Kd.R_drewN | apply Kd.R_drew)); exact HO472.out))) (below_size (by repeat (first | (with_reducible first | exact HB.out | apply below_alloc | apply pw_below_drewN | apply below_drew1) | exact HB.out)))); have n2_ := Aside0.mk (below_step (by repeat (first | (with_reducible first | exact HB.out | apply below_alloc | apply pw_below_drewN | apply below_drew1) | exact HB.out)) hb); clear HO472; clear HB; have HO472 := n0_; have HO476 := n1_; have HB := n2_; clear n0_ n1_ n2_; clear hb ho38; obtain ⟨Ao39, co39, eo39⟩ := Kd.R_slice HO476.out; subst eo39) | (go_at_call 15; (with_reducible refine (laws_calm.calls kj3 _ _ y474 true _ ?side1 ?side2 A15.out).mono ?_); (case side1 => repeat (first | exact (Kd.R_reads' HO476.out).2.2 | (with_reducible refine Kd.C_alloc ?_ _) | (with_reducible refine Kd.C_drewN ?_ _) | (with_reducible refine Kd.C_drew ?_))); (case side2 => exact (Kd.R_reads' HO476.out).2.1); rintro e w' ⟨rfl, ⟨nd, rfl⟩⟩) | (go_at_call 16; (with_reducible refine (laws_begins.calls a1 (⟨#[47]⟩ : ByteArray) false _ A17.out).mono ?_); rintro e w' ⟨rfl, ⟨nd, rfl⟩⟩))
                    go_meet
                    case rel => exact ⟨_, (true), (by first | rfl | (simp; done) | (simp [*]; done) | (simp [Go.Proofs.YtbkeakeldegkeaaX.isEmpty_ne]; done)), H', ⟨by have := HJ3.out; first | omega | exact Nat.le_refl _⟩, ⟨by repeat (first | (with_reducible first | exact HB.out | apply below_alloc | apply pw_below_drewN | apply below_drew1) | exact HB.out)⟩⟩
                · replace c16 := Bool.eq_false_iff.mpr c16
                  subst c16
                  have H1 : (laws_FnUriLast.j1 kj3 a0 a1 a2 true) = some r := by rw [if_neg (show ¬ (false = true) by decide)] at H; exact H
                  clear H
                  have H := H1
                  clear H1
                  have H' := Aside0.mk H
                  clear H
                  go_wp2_with (first | ((with_reducible refine gate_callee (f := 13) rfl ?_); refine goesL_ (some 27) rfl rfl Try.func13 (by kernel_rfl) rfl #[.string a0] rfl (by (try simp only [List.map_toArray, List.map_cons, List.map_nil]); first | done | rfl | (simp only [List.length_drop, List.length_take]; rfl)) ?_; (with_reducible refine (laws_word.calls kj3 a0 true _ A11.out).mono ?_); rintro e w' ⟨rfl, ⟨nd, rfl⟩⟩; refine ⟨_, rfl, ?_⟩) | ((with_reducible refine gate_dst (N := 31) rfl ?_); (try (refine gate_guard (by rfl) ?_; dsimp only)); refine Kd.R_lit Kd.string _ 9 ?hg (N := 31) ?hd (xs := ([a1] : List ByteArray)) (inner := [.string a1]) (ok := fun _ => True) (okp := fun _ => True) ?hr ?hp (fun _ hk => hk) trivial (Below.refl _ _) (Nat.le_refl _) (by simp) ?_; (case hd => rfl); (case hg => rfl); (case hr => first | (go_simp; done) | (go_simp; rfl)); (case hp => exact (Reps.one (show Kd.M Kd.string _ _ _ a1 [.string a1] from rfl) (Reps.none _ _))); intro v471 w40 ho41 hb hg_ hnew_; clear hg_ hnew_; (first | rw [← Ny470.out] at ho41 | (simp only [Int.reduceToNat] at ho41; rw [← Ny470.out] at ho41)); have n0_ := Aside0.mk (Kd.R_lower ho41 (below_size (by repeat (first | (with_reducible first | exact HB.out | apply below_alloc | apply pw_below_drewN | apply below_drew1) | exact HB.out)))); have n1_ := Aside0.mk (below_step (by repeat (first | (with_reducible first | exact HB.out | apply below_alloc | apply pw_below_drewN | apply below_drew1) | exact HB.out)) hb); clear HB; have HO472 := n0_; have HB := n1_; clear n0_ n1_; clear hb ho41; obtain ⟨Ao42, co42, eo42⟩ := Kd.R_slice HO472.out; subst eo42) | (go_at_call 14; (with_reducible refine (laws_short.calls kj3 _ _ y470 true _ ?side1 ?side2 A13.out).mono ?_); (case side1 => repeat (first | exact (Kd.R_reads' HO472.out).2.2 | (with_reducible refine Kd.C_alloc ?_ _) | (with_reducible refine Kd.C_drewN ?_ _) | (with_reducible refine Kd.C_drew ?_))); (case side2 => exact (Kd.R_reads' HO472.out).2.1); rintro e w' ⟨rfl, ⟨nd, rfl⟩⟩) | ((with_reducible refine gate_dst (N := 37) rfl ?_); (try (refine gate_guard (by rfl) ?_; dsimp only)); refine Kd.R_lit Kd.string _ 9 ?hg (N := 37) ?hd (xs := ([a1] : List ByteArray)) (inner := [.string a1]) (ok := fun _ => True) (okp := fun _ => True) ?hr ?hp (fun _ hk => hk) trivial (Below.refl _ _) (Nat.le_refl _) (by simp) ?_; (case hd => rfl); (case hg => rfl); (case hr => first | (go_simp; done) | (go_simp; rfl)); (case hp => exact (Reps.one (show Kd.M Kd.string _ _ _ a1 [.string a1] from rfl) (Reps.none _ _))); intro v475 w43 ho44 hb hg_ hnew_; clear hg_ hnew_; (first | rw [← Ny474.out] at ho44 | (simp only [Int.reduceToNat] at ho44; rw [← Ny474.out] at ho44)); have n0_ := Aside0.mk (Kd.R_elder' (by (with_reducible repeat (first | apply Kd.R_alloc | apply Kd.R_drewN | apply Kd.R_drew)); exact HO472.out) (Kd.R_base ho44) hb); have n1_ := Aside0.mk (Kd.R_lower (Kd.R_new' ho44 (Kd.R_lt (by (with_reducible repeat (first | apply Kd.R_alloc | apply Kd.R_drewN | apply Kd.R_drew)); exact HO472.out))) (below_size (by repeat (first | (with_reducible first | exact HB.out | apply below_alloc | apply pw_below_drewN | apply below_drew1) | exact HB.out)))); have n2_ := Aside0.mk (below_step (by repeat (first | (with_reducible first | exact HB.out | apply below_alloc | apply pw_below_drewN | apply below_drew1) | exact HB.out)) hb); clear HO472; clear HB; have HO472 := n0_; have HO476 := n1_; have HB := n2_; clear n0_ n1_ n2_; clear hb ho44; obtain ⟨Ao45, co45, eo45⟩ := Kd.R_slice HO476.out; subst eo45) | (go_at_call 15; (with_reducible refine (laws_calm.calls kj3 _ _ y474 false _ ?side1 ?side2 A15.out).mono ?_); (case side1 => repeat (first | exact (Kd.R_reads' HO476.out).2.2 | (with_reducible refine Kd.C_alloc ?_ _) | (with_reducible refine Kd.C_drewN ?_ _) | (with_reducible refine Kd.C_drew ?_))); (case side2 => exact (Kd.R_reads' HO476.out).2.1); rintro e w' ⟨rfl, ⟨nd, rfl⟩⟩))
                  go_meet
                  case rel => exact ⟨_, (true), (by first | rfl | (simp; done) | (simp [*]; done) | (simp [Go.Proofs.YtbkeakeldegkeaaX.isEmpty_ne]; done)), H', ⟨by have := HJ3.out; first | omega | exact Nat.le_refl _⟩, ⟨by repeat (first | (with_reducible first | exact HB.out | apply below_alloc | apply pw_below_drewN | apply below_drew1) | exact HB.out)⟩⟩
              · replace c14 := Bool.eq_false_iff.mpr c14
                subst c14
                have H1 : (laws_FnUriLast.j1 kj3 a0 a1 a2 true) = some r := by rw [if_neg (show ¬ (false = true) by decide)] at H; exact H
                clear H
                have H := H1
                clear H1
                have H' := Aside0.mk H
                clear H
                go_wp2_with (first | ((with_reducible refine gate_callee (f := 13) rfl ?_); refine goesL_ (some 27) rfl rfl Try.func13 (by kernel_rfl) rfl #[.string a0] rfl (by (try simp only [List.map_toArray, List.map_cons, List.map_nil]); first | done | rfl | (simp only [List.length_drop, List.length_take]; rfl)) ?_; (with_reducible refine (laws_word.calls kj3 a0 true _ A11.out).mono ?_); rintro e w' ⟨rfl, ⟨nd, rfl⟩⟩; refine ⟨_, rfl, ?_⟩) | ((with_reducible refine gate_dst (N := 31) rfl ?_); (try (refine gate_guard (by rfl) ?_; dsimp only)); refine Kd.R_lit Kd.string _ 9 ?hg (N := 31) ?hd (xs := ([a1] : List ByteArray)) (inner := [.string a1]) (ok := fun _ => True) (okp := fun _ => True) ?hr ?hp (fun _ hk => hk) trivial (Below.refl _ _) (Nat.le_refl _) (by simp) ?_; (case hd => rfl); (case hg => rfl); (case hr => first | (go_simp; done) | (go_simp; rfl)); (case hp => exact (Reps.one (show Kd.M Kd.string _ _ _ a1 [.string a1] from rfl) (Reps.none _ _))); intro v471 w46 ho47 hb hg_ hnew_; clear hg_ hnew_; (first | rw [← Ny470.out] at ho47 | (simp only [Int.reduceToNat] at ho47; rw [← Ny470.out] at ho47)); have n0_ := Aside0.mk (Kd.R_lower ho47 (below_size (by repeat (first | (with_reducible first | exact HB.out | apply below_alloc | apply pw_below_drewN | apply below_drew1) | exact HB.out)))); have n1_ := Aside0.mk (below_step (by repeat (first | (with_reducible first | exact HB.out | apply below_alloc | apply pw_below_drewN | apply below_drew1) | exact HB.out)) hb); clear HB; have HO472 := n0_; have HB := n1_; clear n0_ n1_; clear hb ho47; obtain ⟨Ao48, co48, eo48⟩ := Kd.R_slice HO472.out; subst eo48) | (go_at_call 14; (with_reducible refine (laws_short.calls kj3 _ _ y470 false _ ?side1 ?side2 A13.out).mono ?_); (case side1 => repeat (first | exact (Kd.R_reads' HO472.out).2.2 | (with_reducible refine Kd.C_alloc ?_ _) | (with_reducible refine Kd.C_drewN ?_ _) | (with_reducible refine Kd.C_drew ?_))); (case side2 => exact (Kd.R_reads' HO472.out).2.1); rintro e w' ⟨rfl, ⟨nd, rfl⟩⟩))
                go_meet
                case rel => exact ⟨_, (true), (by first | rfl | (simp; done) | (simp [*]; done) | (simp [Go.Proofs.YtbkeakeldegkeaaX.isEmpty_ne]; done)), H', ⟨by have := HJ3.out; first | omega | exact Nat.le_refl _⟩, ⟨by repeat (first | (with_reducible first | exact HB.out | apply below_alloc | apply pw_below_drewN | apply below_drew1) | exact HB.out)⟩⟩
            · replace c12 := Bool.eq_false_iff.mpr c12
              subst c12
              have H1 : (laws_FnUriLast.j1 kj3 a0 a1 a2 true) = some r := by rw [if_neg (show ¬ (false = true) by decide)] at H; exact H
              clear H
              have H := H1
              clear H1
              have H' := Aside0.mk H
              clear H
              go_wp2_with (first | ((with_reducible refine gate_callee (f := 13) rfl ?_); refine goesL_ (some 27) rfl rfl Try.func13 (by kernel_rfl) rfl #[.string a0] rfl (by (try simp only [List.map_toArray, List.map_cons, List.map_nil]); first | done | rfl | (simp only [List.length_drop, List.length_take]; rfl)) ?_; (with_reducible refine (laws_word.calls kj3 a0 false _ A11.out).mono ?_); rintro e w' ⟨rfl, ⟨nd, rfl⟩⟩; refine ⟨_, rfl, ?_⟩))
              go_meet
              case rel => exact ⟨_, (true), (by first | rfl | (simp; done) | (simp [*]; done) | (simp [Go.Proofs.YtbkeakeldegkeaaX.isEmpty_ne]; done)), H', ⟨by have := HJ3.out; first | omega | exact Nat.le_refl _⟩, ⟨by repeat (first | (with_reducible first | exact HB.out | apply below_alloc | apply pw_below_drewN | apply below_drew1) | exact HB.out)⟩⟩
          case rest =>
            clear HC9
            try clear c1
            try clear c2
            try clear p2
            try clear c5
            try clear c5b0
            try clear c5b1
            try clear c6
            try clear c8
            try clear c12
            try clear c13
            try clear c14
            try clear c16
            try clear c18
            try clear c20
            try clear p2
            obtain ⟨kq, x53_8, rfl, HA, HJ8, HB⟩ := hcut
            cases kq with
            | zero => exact absurd HA.out (by simp [laws_FnUriLast.j1])
            | succ kj8 =>
              have H := HA.out
              clear HA
              simp only [laws_FnUriLast.j1] at H
              by_cases c49 : x53_8 = true
              · subst c49
                have H1 : (some true) = some r := by rw [if_pos rfl] at H; exact H
                clear H
                have H := H1
                clear H1
                obtain rfl := Option.some.inj H
                go_wp2
                go_ret
                exact ⟨by first | rfl | (simp [errW_none, errW_some] <;> rfl) | (simp [*, errW_none, errW_some] <;> rfl), by repeat (first | (with_reducible first | exact HB.out | apply below_alloc | apply pw_below_drewN | apply below_drew1) | exact HB.out)⟩
              · replace c49 := Bool.eq_false_iff.mpr c49
                subst c49
                have H1 : ((impl_UriOf.f a0 a1).bind fun bt481 => ((impl_UriText.f a0 a1 a2).bind fun bt491 => (if bt481.2.2.2.2.2.2.2.2 = true then (laws_FnUriLast.j2 kj8 a2 bt491.1 bt491.2.1 bt491.2.2.1 (!bt491.2.2.2) bt481.1 bt481.2.1 bt481.2.2.1 bt481.2.2.2.1 bt481.2.2.2.2.1 bt481.2.2.2.2.2.1 bt481.2.2.2.2.2.2.1 bt481.2.2.2.2.2.2.2.1) else (laws_FnUriLast.j2 kj8 a2 bt491.1 bt491.2.1 bt491.2.2.1 true bt481.1 bt481.2.1 bt481.2.2.1 bt481.2.2.2.1 bt481.2.2.2.2.1 bt481.2.2.2.2.2.1 bt481.2.2.2.2.2.2.1 bt481.2.2.2.2.2.2.2.1)))) = some r := by rw [if_neg (show ¬ (false = true) by decide)] at H; exact H
                clear H
                have H := H1
                clear H1
                replace H := Option.bind_eq_some_iff.mp H
                obtain ⟨⟨t481, t482, t483, t484, t485, t486, t487, t488, t489⟩, A500, H⟩ := H
                replace H : ((impl_UriText.f a0 a1 a2).bind fun bt491 => (if t489 = true then (laws_FnUriLast.j2 kj8 a2 bt491.1 bt491.2.1 bt491.2.2.1 (!bt491.2.2.2) t481 t482 t483 t484 t485 t486 t487 t488) else (laws_FnUriLast.j2 kj8 a2 bt491.1 bt491.2.1 bt491.2.2.1 true t481 t482 t483 t484 t485 t486 t487 t488))) = some r := H
                have A50 := Aside0.mk A500
                clear A500
                replace H := Option.bind_eq_some_iff.mp H
                obtain ⟨⟨t491, t492, t493, t494⟩, A510, H⟩ := H
                replace H : (if t489 = true then (laws_FnUriLast.j2 kj8 a2 t491 t492 t493 (!t494) t481 t482 t483 t484 t485 t486 t487 t488) else (laws_FnUriLast.j2 kj8 a2 t491 t492 t493 true t481 t482 t483 t484 t485 t486 t487 t488)) = some r := H
                have A51 := Aside0.mk A510
                clear A510
                have HC52 := Aside0.mk H
                clear H
                go_upto_region 9 with (first | ((with_reducible refine gate_callee (f := 18) rfl ?_); refine goesL_ (some 57) rfl rfl Try.func18 (by kernel_rfl) rfl #[.string a0, .string a1] rfl (by (try simp only [List.map_toArray, List.map_cons, List.map_nil]); first | done | rfl | (simp only [List.length_drop, List.length_take]; rfl)) ?_; (with_reducible refine (impl_UriOf.calls a0 a1 t481 t482 t483 t484 t485 t486 t487 t488 t489 _ A50.out).mono ?_); rintro e w53 ⟨rfl, hb⟩; refine ⟨_, rfl, ?_⟩; have n0_ := Aside0.mk (below_step (by repeat (first | (with_reducible first | exact HB.out | apply below_alloc | apply pw_below_drewN | apply below_drew1) | exact HB.out)) hb); clear HB; have HB := n0_; clear n0_; (try clear hb); (try clear hb2); (try clear hk); (try clear hi)) | ((with_reducible refine gate_dst (N := 7) rfl ?_); (try (refine gate_guard (by rfl) ?_; dsimp only)); refine box_event ?hg (N := 7) ?hd (cs := #[.string (⟨#[]⟩ : ByteArray), .string (⟨#[]⟩ : ByteArray), .string (⟨#[]⟩ : ByteArray), .string (⟨#[]⟩ : ByteArray), .string (⟨#[]⟩ : ByteArray), .string (⟨#[]⟩ : ByteArray), .string (⟨#[]⟩ : ByteArray), .string (⟨#[]⟩ : ByteArray)]) (t := 27) ?hr ?_; (case hd => rfl); (case hg => rfl); (case hr => first | (go_simp; done) | (go_simp; rfl)); intro gb490 hg w54 hbox hb; have n0_ := Aside0.mk (below_step (by repeat (first | (with_reducible first | exact HB.out | apply below_alloc | apply pw_below_drewN | apply below_drew1) | exact HB.out)) hb); have n1_ := Aside0.mk (hbox); have n2_ := Aside0.mk ((by rw [hg]; exact (below_size (by repeat (first | (with_reducible first | exact HB.out | apply below_alloc | apply pw_below_drewN | apply below_drew1) | exact HB.out))) : w.heap.size ≤ gb490)); have n3_ := Aside0.mk ((by rw [hg]; exact (below_size (by repeat (first | (with_reducible first | exact HB.out | apply below_alloc | apply pw_below_drewN | apply below_drew1) | exact HB.out))) : w.heap.size ≤ gb490)); clear HB; have HB := n0_; have BK490 := n1_; have GW490 := n2_; have GE490 := n3_; clear n0_ n1_ n2_ n3_; clear hb hbox hg; have hcz55_0 : w54.cell? ⟨gb490, 0, none⟩ = some (.string (⟨#[]⟩ : ByteArray)) := (blk_cell BK490.out 0).trans rfl; have hcz55_1 : w54.cell? ⟨gb490, 1, none⟩ = some (.string (⟨#[]⟩ : ByteArray)) := (blk_cell BK490.out 1).trans rfl; have hcz55_2 : w54.cell? ⟨gb490, 2, none⟩ = some (.string (⟨#[]⟩ : ByteArray)) := (blk_cell BK490.out 2).trans rfl; have hcz55_3 : w54.cell? ⟨gb490, 3, none⟩ = some (.string (⟨#[]⟩ : ByteArray)) := (blk_cell BK490.out 3).trans rfl; have hcz55_4 : w54.cell? ⟨gb490, 4, none⟩ = some (.string (⟨#[]⟩ : ByteArray)) := (blk_cell BK490.out 4).trans rfl; have hcz55_5 : w54.cell? ⟨gb490, 5, none⟩ = some (.string (⟨#[]⟩ : ByteArray)) := (blk_cell BK490.out 5).trans rfl; have hcz55_6 : w54.cell? ⟨gb490, 6, none⟩ = some (.string (⟨#[]⟩ : ByteArray)) := (blk_cell BK490.out 6).trans rfl; have hcz55_7 : w54.cell? ⟨gb490, 7, none⟩ = some (.string (⟨#[]⟩ : ByteArray)) := (blk_cell BK490.out 7).trans rfl; have hfz55_0 := blk_frozen BK490.out 0; have hfz55_1 := blk_frozen BK490.out 1; have hfz55_2 := blk_frozen BK490.out 2; have hfz55_3 := blk_frozen BK490.out 3; have hfz55_4 := blk_frozen BK490.out 4; have hfz55_5 := blk_frozen BK490.out 5; have hfz55_6 := blk_frozen BK490.out 6; have hfz55_7 := blk_frozen BK490.out 7) | ((with_reducible refine gate_callee (f := 23) rfl ?_); refine goesL_ (some 64) rfl rfl Try.func23 (by kernel_rfl) rfl #[.string a0, .string a1, .bool a2] rfl (by (try simp only [List.map_toArray, List.map_cons, List.map_nil]); first | done | rfl | (simp only [List.length_drop, List.length_take]; rfl)) ?_; (with_reducible refine (impl_UriText.calls a0 a1 a2 t491 t492 t493 t494 _ A51.out).mono ?_); rintro e w56 ⟨rfl, hb⟩; refine ⟨_, rfl, ?_⟩; have n0_ := Aside0.mk (blk_below (g := gb490) (o := .cells #[.string t481, .string t482, .string t483, .string t484, .string t485, .string t486, .string t487, .string t488] 27 (0, 0)) (by (with_reducible repeat (first | refine blk_drewN ?_ _ | refine blk_drew ?_ | refine blk_alloc ?_ _)); refine blk_put (cs := #[.string t481, .string t482, .string t483, .string t484, .string t485, .string t486, .string t487, .string (⟨#[]⟩ : ByteArray)]) ?_ 7 _ rfl; (with_reducible repeat (first | refine blk_drewN ?_ _ | refine blk_drew ?_ | refine blk_alloc ?_ _)); refine blk_put (cs := #[.string t481, .string t482, .string t483, .string t484, .string t485, .string t486, .string (⟨#[]⟩ : ByteArray), .string (⟨#[]⟩ : ByteArray)]) ?_ 6 _ rfl; (with_reducible repeat (first | refine blk_drewN ?_ _ | refine blk_drew ?_ | refine blk_alloc ?_ _)); refine blk_put (cs := #[.string t481, .string t482, .string t483, .string t484, .string t485, .string (⟨#[]⟩ : ByteArray), .string (⟨#[]⟩ : ByteArray), .string (⟨#[]⟩ : ByteArray)]) ?_ 5 _ rfl; (with_reducible repeat (first | refine blk_drewN ?_ _ | refine blk_drew ?_ | refine blk_alloc ?_ _)); refine blk_put (cs := #[.string t481, .string t482, .string t483, .string t484, .string (⟨#[]⟩ : ByteArray), .string (⟨#[]⟩ : ByteArray), .string (⟨#[]⟩ : ByteArray), .string (⟨#[]⟩ : ByteArray)]) ?_ 4 _ rfl; (with_reducible repeat (first | refine blk_drewN ?_ _ | refine blk_drew ?_ | refine blk_alloc ?_ _)); refine blk_put (cs := #[.string t481, .string t482, .string t483, .string (⟨#[]⟩ : ByteArray), .string (⟨#[]⟩ : ByteArray), .string (⟨#[]⟩ : ByteArray), .string (⟨#[]⟩ : ByteArray), .string (⟨#[]⟩ : ByteArray)]) ?_ 3 _ rfl; (with_reducible repeat (first | refine blk_drewN ?_ _ | refine blk_drew ?_ | refine blk_alloc ?_ _)); refine blk_put (cs := #[.string t481, .string t482, .string (⟨#[]⟩ : ByteArray), .string (⟨#[]⟩ : ByteArray), .string (⟨#[]⟩ : ByteArray), .string (⟨#[]⟩ : ByteArray), .string (⟨#[]⟩ : ByteArray), .string (⟨#[]⟩ : ByteArray)]) ?_ 2 _ rfl; (with_reducible repeat (first | refine blk_drewN ?_ _ | refine blk_drew ?_ | refine blk_alloc ?_ _)); refine blk_put (cs := #[.string t481, .string (⟨#[]⟩ : ByteArray), .string (⟨#[]⟩ : ByteArray), .string (⟨#[]⟩ : ByteArray), .string (⟨#[]⟩ : ByteArray), .string (⟨#[]⟩ : ByteArray), .string (⟨#[]⟩ : ByteArray), .string (⟨#[]⟩ : ByteArray)]) ?_ 1 _ rfl; (with_reducible repeat (first | refine blk_drewN ?_ _ | refine blk_drew ?_ | refine blk_alloc ?_ _)); refine blk_put (cs := #[.string (⟨#[]⟩ : ByteArray), .string (⟨#[]⟩ : ByteArray), .string (⟨#[]⟩ : ByteArray), .string (⟨#[]⟩ : ByteArray), .string (⟨#[]⟩ : ByteArray), .string (⟨#[]⟩ : ByteArray), .string (⟨#[]⟩ : ByteArray), .string (⟨#[]⟩ : ByteArray)]) ?_ 0 _ rfl; (with_reducible repeat (first | refine blk_drewN ?_ _ | refine blk_drew ?_ | refine blk_alloc ?_ _)); exact BK490.out) hb); have n1_ := Aside0.mk (below_step (by repeat (first | (with_reducible first | exact HB.out | apply below_alloc | apply pw_below_drewN | apply below_drew1 | refine below_set ?_ GE490.out) | exact HB.out)) hb); clear BK490; clear HB; have BK490 := n0_; have HB := n1_; clear n0_ n1_; (try clear hb); (try clear hb2); (try clear hk); (try clear hi)))
                (try simp only [Act.put, List.setIfInBounds_toArray, List.set_cons_zero, List.set_cons_succ])
                go_cut [74] (fun v74 wc => ∃ (kq : Nat) (x74_51 : Bool), v74 = .bool x74_51 ∧ Aside0 (laws_FnUriLast.j2 kq a2 t491 t492 t493 x74_51 t481 t482 t483 t484 t485 t486 t487 t488 = some r) ∧ Aside0 (kq ≤ kj8) ∧ Aside0 (wc.heap[gb490]? = some (.cells #[.string t481, .string t482, .string t483, .string t484, .string t485, .string t486, .string t487, .string t488] 27 (0, 0))) ∧ Aside0 (Below w.heap.size w wc))
                case first =>
                  have H := HC52.out
                  clear HC52
                  by_cases c57 : t489 = true
                  · subst c57
                    have H1 : (laws_FnUriLast.j2 kj8 a2 t491 t492 t493 (!t494) t481 t482 t483 t484 t485 t486 t487 t488) = some r := by rw [if_pos rfl] at H; exact H
                    clear H
                    have H := H1
                    clear H1
                    have H' := Aside0.mk H
                    clear H
                    go_wp2
                    go_meet
                    case rel => exact ⟨_, (!t494), (by first | rfl | (simp; done) | (simp [*]; done) | (simp [Go.Proofs.YtbkeakeldegkeaaX.isEmpty_ne]; done)), H', ⟨by have := HJ3.out; have := HJ8.out; first | omega | exact Nat.le_refl _⟩, ⟨by (with_reducible repeat (first | refine blk_drewN ?_ _ | refine blk_drew ?_ | refine blk_alloc ?_ _)); exact BK490.out⟩, ⟨by repeat (first | (with_reducible first | exact HB.out | apply below_alloc | apply pw_below_drewN | apply below_drew1 | refine below_set ?_ GE490.out) | exact HB.out)⟩⟩
                  · replace c57 := Bool.eq_false_iff.mpr c57
                    subst c57
                    have H1 : (laws_FnUriLast.j2 kj8 a2 t491 t492 t493 true t481 t482 t483 t484 t485 t486 t487 t488) = some r := by rw [if_neg (show ¬ (false = true) by decide)] at H; exact H
                    clear H
                    have H := H1
                    clear H1
                    have H' := Aside0.mk H
                    clear H
                    go_wp2
                    go_meet
                    case rel => exact ⟨_, (true), (by first | rfl | (simp; done) | (simp [*]; done) | (simp [Go.Proofs.YtbkeakeldegkeaaX.isEmpty_ne]; done)), H', ⟨by have := HJ3.out; have := HJ8.out; first | omega | exact Nat.le_refl _⟩, ⟨by (with_reducible repeat (first | refine blk_drewN ?_ _ | refine blk_drew ?_ | refine blk_alloc ?_ _)); exact BK490.out⟩, ⟨by repeat (first | (with_reducible first | exact HB.out | apply below_alloc | apply pw_below_drewN | apply below_drew1 | refine below_set ?_ GE490.out) | exact HB.out)⟩⟩
                case rest =>
                  clear HC52
                  try clear c1
                  try clear c2
                  try clear p2
                  try clear c4
                  try clear c5
                  try clear c5b0
                  try clear c5b1
                  try clear c6
                  try clear c8
                  try clear c12
                  try clear c13
                  try clear c14
                  try clear c16
                  try clear c18
                  try clear c20
                  try clear c23
                  try clear c49
                  try clear c57
                  try clear hcz55_0
                  try clear hcz55_1
                  try clear hcz55_2
                  try clear hcz55_3
                  try clear hcz55_4
                  try clear hcz55_5
                  try clear hcz55_6
                  try clear hcz55_7
                  try clear hfz55_0
                  try clear hfz55_1
                  try clear hfz55_2
                  try clear hfz55_3
                  try clear hfz55_4
                  try clear hfz55_5
                  try clear hfz55_6
                  try clear hfz55_7
                  try clear p2
                  obtain ⟨kq, x74_51, rfl, HA, HJ51, BK490, HB⟩ := hcut
                  cases kq with
                  | zero => exact absurd HA.out (by simp [laws_FnUriLast.j2])
                  | succ kj51 =>
                    have H := HA.out
                    clear HA
                    simp only [laws_FnUriLast.j2] at H
                    by_cases c58 : x74_51 = true
                    · subst c58
                      have H1 : (some false) = some r := by rw [if_pos rfl] at H; exact H
                      clear H
                      have H := H1
                      clear H1
                      obtain rfl := Option.some.inj H
                      go_wp2
                      go_ret
                      exact ⟨by first | rfl | (simp [errW_none, errW_some] <;> rfl) | (simp [*, errW_none, errW_some] <;> rfl), by repeat (first | (with_reducible first | exact HB.out | apply below_alloc | apply pw_below_drewN | apply below_drew1 | refine below_set ?_ GE490.out) | exact HB.out)⟩
                    · replace c58 := Bool.eq_false_iff.mpr c58
                      subst c58
                      have H1 : (laws_FnUriLast.l0 kj51 a2 t491 t492 t493 (t483.size : Int) t481 t482 t483 t484 t485 t486 t487 t488) = some r := by rw [if_neg (show ¬ (false = true) by decide)] at H; exact H
                      clear H
                      have H := H1
                      clear H1
                      have HC59 := Aside0.mk H
                      clear H
                      have hcz60_0 : wc.cell? ⟨gb490, 0, none⟩ = some (.string t481) := (blk_cell BK490.out 0).trans rfl
                      have hcz60_1 : wc.cell? ⟨gb490, 1, none⟩ = some (.string t482) := (blk_cell BK490.out 1).trans rfl
                      have hcz60_2 : wc.cell? ⟨gb490, 2, none⟩ = some (.string t483) := (blk_cell BK490.out 2).trans rfl
                      have hcz60_3 : wc.cell? ⟨gb490, 3, none⟩ = some (.string t484) := (blk_cell BK490.out 3).trans rfl
                      have hcz60_4 : wc.cell? ⟨gb490, 4, none⟩ = some (.string t485) := (blk_cell BK490.out 4).trans rfl
                      have hcz60_5 : wc.cell? ⟨gb490, 5, none⟩ = some (.string t486) := (blk_cell BK490.out 5).trans rfl
                      have hcz60_6 : wc.cell? ⟨gb490, 6, none⟩ = some (.string t487) := (blk_cell BK490.out 6).trans rfl
                      have hcz60_7 : wc.cell? ⟨gb490, 7, none⟩ = some (.string t488) := (blk_cell BK490.out 7).trans rfl
                      have hfz60_0 := blk_frozen BK490.out 0
                      have hfz60_1 := blk_frozen BK490.out 1
                      have hfz60_2 := blk_frozen BK490.out 2
                      have hfz60_3 := blk_frozen BK490.out 3
                      have hfz60_4 := blk_frozen BK490.out 4
                      have hfz60_5 := blk_frozen BK490.out 5
                      have hfz60_6 := blk_frozen BK490.out 6
                      have hfz60_7 := blk_frozen BK490.out 7
                      go_upto_block 0 with (fail)
                      go_cut [13] (fun v13 wc => ∃ (kq : Nat) (x13_58 : Int), v13 = .int .i64 x13_58 ∧ Aside0 (laws_FnUriLast.j4 kq a2 t491 t492 t493 x13_58 t481 t482 t483 t484 t485 t486 t487 t488 = some r) ∧ Aside0 (kq ≤ kj51) ∧ Aside0 (wc.heap[gb490]? = some (.cells #[.string t481, .string t482, .string t483, .string t484, .string t485, .string t486, .string t487, .string t488] 27 (0, 0))) ∧ Aside0 (Below w.heap.size w wc))
                      case first =>
                        have H := HC59.out
                        clear HC59
                        have H' := Aside0.mk H
                        clear H
                        go_wp2
                        go_loopg [13] kj51 (fun kq v13 w' => ∃ (x13_4 : Int), v13 = .int .i64 x13_4 ∧ Aside0 (laws_FnUriLast.l0 kq a2 t491 t492 t493 x13_4 t481 t482 t483 t484 t485 t486 t487 t488 = some r) ∧ Aside0 (kq ≤ kj51) ∧ Aside0 (w'.heap[gb490]? = some (.cells #[.string t481, .string t482, .string t483, .string t484, .string t485, .string t486, .string t487, .string t488] 27 (0, 0))) ∧ Aside0 (Below w.heap.size w w'))
                        case atStart => exact ⟨((t483.size : Int)), (by first | rfl | (simp; done) | (simp [*]; done) | (simp [Go.Proofs.YtbkeakeldegkeaaX.isEmpty_ne]; done)), H', ⟨Nat.le_refl _⟩, ⟨by (with_reducible repeat (first | refine blk_drewN ?_ _ | refine blk_drew ?_ | refine blk_alloc ?_ _)); exact BK490.out⟩, ⟨by repeat (first | (with_reducible first | exact HB.out | apply below_alloc | apply pw_below_drewN | apply below_drew1 | refine below_set ?_ GE490.out) | exact HB.out)⟩⟩
                        case round =>
                          clear H'
                          try clear c1
                          try clear c2
                          try clear p2
                          try clear c4
                          try clear c5
                          try clear c5b0
                          try clear c5b1
                          try clear c6
                          try clear c8
                          try clear c12
                          try clear c13
                          try clear c14
                          try clear c16
                          try clear c18
                          try clear c20
                          try clear c23
                          try clear c49
                          try clear c57
                          try clear c58
                          try clear hcz55_0
                          try clear hcz55_1
                          try clear hcz55_2
                          try clear hcz55_3
                          try clear hcz55_4
                          try clear hcz55_5
                          try clear hcz55_6
                          try clear hcz55_7
                          try clear hcz60_0
                          try clear hcz60_1
                          try clear hcz60_2
                          try clear hcz60_3
                          try clear hcz60_4
                          try clear hcz60_5
                          try clear hcz60_6
                          try clear hcz60_7
                          try clear hfz55_0
                          try clear hfz55_1
                          try clear hfz55_2
                          try clear hfz55_3
                          try clear hfz55_4
                          try clear hfz55_5
                          try clear hfz55_6
                          try clear hfz55_7
                          try clear hfz60_0
                          try clear hfz60_1
                          try clear hfz60_2
                          try clear hfz60_3
                          try clear hfz60_4
                          try clear hfz60_5
                          try clear hfz60_6
                          try clear hfz60_7
                          try clear p2
                          obtain ⟨x13_4, rfl, HA, HK4, BK490, HB⟩ := hrel
                          cases gk with
                          | zero => exact absurd HA.out (by simp [laws_FnUriLast.l0])
                          | succ k4 =>
                            have H := HA.out
                            clear HA
                            simp only [laws_FnUriLast.l0] at H
                            by_cases c61 : x13_4 > 0
                            · rw [if_pos c61] at H
                              have c61b0 : decide (0 < x13_4) = true := decide_eq_true c61
                              clear c61
                              (first | rw [c61b0] | (simp only [i64_w, i32_w]; rw [c61b0]) | (rw [Go.Proofs.YtbkeakeldegkeaaX.isEmpty_eq]; rw [c61b0]) | skip)
                              obtain ⟨ji62, hji62⟩ : ∃ j_ : Int, (wrap64 (x13_4 - 1)) = j_ := ⟨_, rfl⟩
                              replace H : (if 0 ≤ (ji62) then (if (ji62) < (t483.size : Int) then (if (bt t483 (ji62)) = 47 then (laws_FnUriLast.j4 k4 a2 t491 t492 t493 x13_4 t481 t482 t483 t484 t485 t486 t487 t488) else (laws_FnUriLast.l0 k4 a2 t491 t492 t493 ji62 t481 t482 t483 t484 t485 t486 t487 t488)) else (none)) else (none)) = some r := by first | (rw [hji62] at H; exact H) | (simp only [hji62] at H ⊢; exact H)
                              have hji62w : (IntKind.i64.wrap (x13_4 - 1)) = ji62 := (i64_w _).trans hji62
                              by_cases c63 : 0 ≤ (ji62)
                              · rw [if_pos c63] at H
                                have c63b0 : decide (0 ≤ (ji62)) = true := decide_eq_true c63
                                clear c63
                                by_cases c64 : (ji62) < (t483.size : Int)
                                · rw [if_pos c64] at H
                                  have c64b0 : decide ((ji62) < (t483.size : Int)) = true := decide_eq_true c64
                                  clear c64
                                  by_cases c66 : (bt t483 (ji62)) = 47
                                  · rw [if_pos c66] at H
                                    have c66b0 : ((bt t483 (ji62)) == 47) = true := beq_iff_eq.mpr c66
                                    have c66b1 : ((bt t483 (ji62)) != 47) = false := bne_eq_false_iff_eq.mpr c66
                                    clear c66
                                    have H' := Aside0.mk H
                                    clear H
                                    have hcz67_0 : wr.cell? ⟨gb490, 0, none⟩ = some (.string t481) := (blk_cell BK490.out 0).trans rfl
                                    have hcz67_1 : wr.cell? ⟨gb490, 1, none⟩ = some (.string t482) := (blk_cell BK490.out 1).trans rfl
                                    have hcz67_2 : wr.cell? ⟨gb490, 2, none⟩ = some (.string t483) := (blk_cell BK490.out 2).trans rfl
                                    have hcz67_3 : wr.cell? ⟨gb490, 3, none⟩ = some (.string t484) := (blk_cell BK490.out 3).trans rfl
                                    have hcz67_4 : wr.cell? ⟨gb490, 4, none⟩ = some (.string t485) := (blk_cell BK490.out 4).trans rfl
                                    have hcz67_5 : wr.cell? ⟨gb490, 5, none⟩ = some (.string t486) := (blk_cell BK490.out 5).trans rfl
                                    have hcz67_6 : wr.cell? ⟨gb490, 6, none⟩ = some (.string t487) := (blk_cell BK490.out 6).trans rfl
                                    have hcz67_7 : wr.cell? ⟨gb490, 7, none⟩ = some (.string t488) := (blk_cell BK490.out 7).trans rfl
                                    have hfz67_0 := blk_frozen BK490.out 0
                                    have hfz67_1 := blk_frozen BK490.out 1
                                    have hfz67_2 := blk_frozen BK490.out 2
                                    have hfz67_3 := blk_frozen BK490.out 3
                                    have hfz67_4 := blk_frozen BK490.out 4
                                    have hfz67_5 := blk_frozen BK490.out 5
                                    have hfz67_6 := blk_frozen BK490.out 6
                                    have hfz67_7 := blk_frozen BK490.out 7
                                    have p65 : 0 ≤ ((ji62) : Int) := of_decide_eq_true (by first | (with_reducible assumption) | assumption)
                                    have q65 : (ji62) < (t483.size : Int) := of_decide_eq_true (by first | (with_reducible assumption) | assumption)
                                    have hx65 := bt_at t483 (ji62)
                                    replace p65 := eq_true p65
                                    replace q65 := eq_true q65
                                    go_wp2
                                    go_meet
                                    case rel => exact ⟨_, (x13_4), (by first | rfl | (simp; done) | (simp [*]; done) | (simp [Go.Proofs.YtbkeakeldegkeaaX.isEmpty_ne]; done)), H', ⟨by have := HJ3.out; have := HJ8.out; have := HJ51.out; have := HK4.out; first | omega | exact Nat.le_refl _⟩, ⟨by (with_reducible repeat (first | refine blk_drewN ?_ _ | refine blk_drew ?_ | refine blk_alloc ?_ _)); exact BK490.out⟩, ⟨by repeat (first | (with_reducible first | exact HB.out | apply below_alloc | apply pw_below_drewN | apply below_drew1 | refine below_set ?_ GE490.out) | exact HB.out)⟩⟩
                                  · rw [if_neg c66] at H
                                    have c66b0 : ((bt t483 (ji62)) == 47) = false := beq_eq_false_iff_ne.mpr c66
                                    have c66b1 : ((bt t483 (ji62)) != 47) = true := bne_iff_ne.mpr c66
                                    have H' := Aside0.mk H
                                    clear H
                                    have hcz68_0 : wr.cell? ⟨gb490, 0, none⟩ = some (.string t481) := (blk_cell BK490.out 0).trans rfl
                                    have hcz68_1 : wr.cell? ⟨gb490, 1, none⟩ = some (.string t482) := (blk_cell BK490.out 1).trans rfl
                                    have hcz68_2 : wr.cell? ⟨gb490, 2, none⟩ = some (.string t483) := (blk_cell BK490.out 2).trans rfl
                                    have hcz68_3 : wr.cell? ⟨gb490, 3, none⟩ = some (.string t484) := (blk_cell BK490.out 3).trans rfl
                                    have hcz68_4 : wr.cell? ⟨gb490, 4, none⟩ = some (.string t485) := (blk_cell BK490.out 4).trans rfl
                                    have hcz68_5 : wr.cell? ⟨gb490, 5, none⟩ = some (.string t486) := (blk_cell BK490.out 5).trans rfl
                                    have hcz68_6 : wr.cell? ⟨gb490, 6, none⟩ = some (.string t487) := (blk_cell BK490.out 6).trans rfl
                                    have hcz68_7 : wr.cell? ⟨gb490, 7, none⟩ = some (.string t488) := (blk_cell BK490.out 7).trans rfl
                                    have hfz68_0 := blk_frozen BK490.out 0
                                    have hfz68_1 := blk_frozen BK490.out 1
                                    have hfz68_2 := blk_frozen BK490.out 2
                                    have hfz68_3 := blk_frozen BK490.out 3
                                    have hfz68_4 := blk_frozen BK490.out 4
                                    have hfz68_5 := blk_frozen BK490.out 5
                                    have hfz68_6 := blk_frozen BK490.out 6
                                    have hfz68_7 := blk_frozen BK490.out 7
                                    have p65 : 0 ≤ ((ji62) : Int) := of_decide_eq_true (by first | (with_reducible assumption) | assumption)
                                    have q65 : (ji62) < (t483.size : Int) := of_decide_eq_true (by first | (with_reducible assumption) | assumption)
                                    have hx65 := bt_at t483 (ji62)
                                    replace p65 := eq_true p65
                                    replace q65 := eq_true q65
                                    go_wp2
                                    go_roundg k4
                                    case measure => have := HJ3.out; have := HJ8.out; have := HJ51.out; have := HK4.out; omega
                                    case rel => exact ⟨(ji62), (by first | rfl | (simp; done) | (simp only [← hji62] <;> (first | rfl | simp)) | (simp [*]; done) | (simp [Go.Proofs.YtbkeakeldegkeaaX.isEmpty_ne]; done)), H', ⟨by have := HJ3.out; have := HJ8.out; have := HJ51.out; have := HK4.out; omega⟩, ⟨by (with_reducible repeat (first | refine blk_drewN ?_ _ | refine blk_drew ?_ | refine blk_alloc ?_ _)); exact BK490.out⟩, ⟨by repeat (first | (with_reducible first | exact HB.out | apply below_alloc | apply pw_below_drewN | apply below_drew1 | refine below_set ?_ GE490.out) | exact HB.out)⟩⟩
                                · rw [if_neg c64] at H
                                  exact absurd H (by simp)
                              · rw [if_neg c63] at H
                                exact absurd H (by simp)
                            · rw [if_neg c61] at H
                              have c61b0 : decide (0 < x13_4) = false := decide_eq_false c61
                              clear c61
                              (first | rw [c61b0] | (simp only [i64_w, i32_w]; rw [c61b0]) | (rw [Go.Proofs.YtbkeakeldegkeaaX.isEmpty_eq]; rw [c61b0]) | skip)
                              have H' := Aside0.mk H
                              clear H
                              go_wp2
                              go_meet
                              case rel => exact ⟨_, (x13_4), (by first | rfl | (simp; done) | (simp [*]; done) | (simp [Go.Proofs.YtbkeakeldegkeaaX.isEmpty_ne]; done)), H', ⟨by have := HJ3.out; have := HJ8.out; have := HJ51.out; have := HK4.out; first | omega | exact Nat.le_refl _⟩, ⟨by (with_reducible repeat (first | refine blk_drewN ?_ _ | refine blk_drew ?_ | refine blk_alloc ?_ _)); exact BK490.out⟩, ⟨by repeat (first | (with_reducible first | exact HB.out | apply below_alloc | apply pw_below_drewN | apply below_drew1 | refine below_set ?_ GE490.out) | exact HB.out)⟩⟩
                      case rest =>
                        clear HC59
                        try clear c1
                        try clear c2
                        try clear p2
                        try clear c4
                        try clear c5
                        try clear c5b0
                        try clear c5b1
                        try clear c6
                        try clear p6
                        try clear q6
                        try clear hx6
                        try clear c8
                        try clear c12
                        try clear c13
                        try clear c14
                        try clear c16
                        try clear c18
                        try clear c20
                        try clear c23
                        try clear c49
                        try clear c57
                        try clear c58
                        try clear c61
                        try clear c61b0
                        try clear c63
                        try clear c63b0
                        try clear c64
                        try clear c64b0
                        try clear p64
                        try clear p65
                        try clear q65
                        try clear hx65
                        try clear c66
                        try clear c66b0
                        try clear c66b1
                        try clear hcz55_0
                        try clear hcz55_1
                        try clear hcz55_2
                        try clear hcz55_3
                        try clear hcz55_4
                        try clear hcz55_5
                        try clear hcz55_6
                        try clear hcz55_7
                        try clear hcz60_0
                        try clear hcz60_1
                        try clear hcz60_2
                        try clear hcz60_3
                        try clear hcz60_4
                        try clear hcz60_5
                        try clear hcz60_6
                        try clear hcz60_7
                        try clear hcz67_0
                        try clear hcz67_1
                        try clear hcz67_2
                        try clear hcz67_3
                        try clear hcz67_4
                        try clear hcz67_5
                        try clear hcz67_6
                        try clear hcz67_7
                        try clear hcz68_0
                        try clear hcz68_1
                        try clear hcz68_2
                        try clear hcz68_3
                        try clear hcz68_4
                        try clear hcz68_5
                        try clear hcz68_6
                        try clear hcz68_7
                        try clear hfz55_0
                        try clear hfz55_1
                        try clear hfz55_2
                        try clear hfz55_3
                        try clear hfz55_4
                        try clear hfz55_5
                        try clear hfz55_6
                        try clear hfz55_7
                        try clear hfz60_0
                        try clear hfz60_1
                        try clear hfz60_2
                        try clear hfz60_3
                        try clear hfz60_4
                        try clear hfz60_5
                        try clear hfz60_6
                        try clear hfz60_7
                        try clear hfz67_0
                        try clear hfz67_1
                        try clear hfz67_2
                        try clear hfz67_3
                        try clear hfz67_4
                        try clear hfz67_5
                        try clear hfz67_6
                        try clear hfz67_7
                        try clear hfz68_0
                        try clear hfz68_1
                        try clear hfz68_2
                        try clear hfz68_3
                        try clear hfz68_4
                        try clear hfz68_5
                        try clear hfz68_6
                        try clear hfz68_7
                        try clear p2
                        try clear p65
                        try clear q65
                        obtain ⟨kq, x13_58, rfl, HA, HJ58, BK490, HB⟩ := hcut
                        cases kq with
                        | zero => exact absurd HA.out (by simp [laws_FnUriLast.j4])
                        | succ kj58 =>
                          have H := HA.out
                          clear HA
                          simp only [laws_FnUriLast.j4] at H
                          have HC69 := Aside0.mk H
                          clear H
                          have hcz70_0 : wc.cell? ⟨gb490, 0, none⟩ = some (.string t481) := (blk_cell BK490.out 0).trans rfl
                          have hcz70_1 : wc.cell? ⟨gb490, 1, none⟩ = some (.string t482) := (blk_cell BK490.out 1).trans rfl
                          have hcz70_2 : wc.cell? ⟨gb490, 2, none⟩ = some (.string t483) := (blk_cell BK490.out 2).trans rfl
                          have hcz70_3 : wc.cell? ⟨gb490, 3, none⟩ = some (.string t484) := (blk_cell BK490.out 3).trans rfl
                          have hcz70_4 : wc.cell? ⟨gb490, 4, none⟩ = some (.string t485) := (blk_cell BK490.out 4).trans rfl
                          have hcz70_5 : wc.cell? ⟨gb490, 5, none⟩ = some (.string t486) := (blk_cell BK490.out 5).trans rfl
                          have hcz70_6 : wc.cell? ⟨gb490, 6, none⟩ = some (.string t487) := (blk_cell BK490.out 6).trans rfl
                          have hcz70_7 : wc.cell? ⟨gb490, 7, none⟩ = some (.string t488) := (blk_cell BK490.out 7).trans rfl
                          have hfz70_0 := blk_frozen BK490.out 0
                          have hfz70_1 := blk_frozen BK490.out 1
                          have hfz70_2 := blk_frozen BK490.out 2
                          have hfz70_3 := blk_frozen BK490.out 3
                          have hfz70_4 := blk_frozen BK490.out 4
                          have hfz70_5 := blk_frozen BK490.out 5
                          have hfz70_6 := blk_frozen BK490.out 6
                          have hfz70_7 := blk_frozen BK490.out 7
                          go_upto_if 92 with (fail)
                          go_cut [14] (fun v14 wc => ∃ (kq : Nat) (x14_68 : ByteArray), v14 = .string x14_68 ∧ Aside0 (laws_FnUriLast.j5 kq a2 t491 t492 t493 x13_58 x14_68 t481 t482 t483 t484 t485 t486 t487 t488 = some r) ∧ Aside0 (kq ≤ kj58) ∧ Aside0 (wc.heap[gb490]? = some (.cells #[.string t481, .string t482, .string t483, .string t484, .string t485, .string t486, .string t487, .string t488] 27 (0, 0))) ∧ Aside0 (Below w.heap.size w wc))
                          case first =>
                            have H := HC69.out
                            clear HC69
                            by_cases c71 : t486.toList = ([] : List UInt8)
                            · rw [if_pos c71] at H
                              have c71b0 : (t486.toList == ([] : List UInt8)) = true := beq_iff_eq.mpr c71
                              have c71b1 : (t486.toList != ([] : List UInt8)) = false := bne_eq_false_iff_eq.mpr c71
                              clear c71
                              (first | rw [c71b0] | (simp only [i64_w, i32_w]; rw [c71b0]) | (rw [Go.Proofs.YtbkeakeldegkeaaX.isEmpty_eq]; rw [c71b0]) | skip)
                              have H' := Aside0.mk H
                              clear H
                              go_wp2
                              go_meet
                              case rel => exact ⟨_, ((⟨#[]⟩ : ByteArray)), (by first | rfl | (simp; done) | (simp [*]; done) | (simp [Go.Proofs.YtbkeakeldegkeaaX.isEmpty_ne]; done)), H', ⟨by have := HJ3.out; have := HJ8.out; have := HJ51.out; have := HJ58.out; first | omega | exact Nat.le_refl _⟩, ⟨by (with_reducible repeat (first | refine blk_drewN ?_ _ | refine blk_drew ?_ | refine blk_alloc ?_ _)); exact BK490.out⟩, ⟨by repeat (first | (with_reducible first | exact HB.out | apply below_alloc | apply pw_below_drewN | apply below_drew1 | refine below_set ?_ GE490.out) | exact HB.out)⟩⟩
                            · rw [if_neg c71] at H
                              have c71b0 : (t486.toList == ([] : List UInt8)) = false := beq_eq_false_iff_ne.mpr c71
                              have c71b1 : (t486.toList != ([] : List UInt8)) = true := bne_iff_ne.mpr c71
                              (first | rw [c71b0] | (simp only [i64_w, i32_w]; rw [c71b0]) | (rw [Go.Proofs.YtbkeakeldegkeaaX.isEmpty_eq]; rw [c71b0]) | skip)
                              by_cases c72 : 1 + t486.size ≤ 9223372036854775807
                              · rw [if_pos c72] at H
                                have c72b0 := eq_true c72
                                have c72b1 : decide (1 + t486.size ≤ 9223372036854775807) = true := decide_eq_true c72
                                try have c72b2 : (9223372036854775807 < 1 + t486.size) = False := eq_false (Nat.not_lt.2 c72)
                                have H' := Aside0.mk H
                                clear H
                                have hcz73_0 : wc.cell? ⟨gb490, 0, none⟩ = some (.string t481) := (blk_cell BK490.out 0).trans rfl
                                have hcz73_1 : wc.cell? ⟨gb490, 1, none⟩ = some (.string t482) := (blk_cell BK490.out 1).trans rfl
                                have hcz73_2 : wc.cell? ⟨gb490, 2, none⟩ = some (.string t483) := (blk_cell BK490.out 2).trans rfl
                                have hcz73_3 : wc.cell? ⟨gb490, 3, none⟩ = some (.string t484) := (blk_cell BK490.out 3).trans rfl
                                have hcz73_4 : wc.cell? ⟨gb490, 4, none⟩ = some (.string t485) := (blk_cell BK490.out 4).trans rfl
                                have hcz73_5 : wc.cell? ⟨gb490, 5, none⟩ = some (.string t486) := (blk_cell BK490.out 5).trans rfl
                                have hcz73_6 : wc.cell? ⟨gb490, 6, none⟩ = some (.string t487) := (blk_cell BK490.out 6).trans rfl
                                have hcz73_7 : wc.cell? ⟨gb490, 7, none⟩ = some (.string t488) := (blk_cell BK490.out 7).trans rfl
                                have hfz73_0 := blk_frozen BK490.out 0
                                have hfz73_1 := blk_frozen BK490.out 1
                                have hfz73_2 := blk_frozen BK490.out 2
                                have hfz73_3 := blk_frozen BK490.out 3
                                have hfz73_4 := blk_frozen BK490.out 4
                                have hfz73_5 := blk_frozen BK490.out 5
                                have hfz73_6 := blk_frozen BK490.out 6
                                have hfz73_7 := blk_frozen BK490.out 7
                                go_wp2
                                go_meet
                                case rel => exact ⟨_, ((⟨#[35]⟩ : ByteArray) ++ t486), (by first | rfl | (simp; done) | (simp [*]; done) | (simp [Go.Proofs.YtbkeakeldegkeaaX.isEmpty_ne]; done)), H', ⟨by have := HJ3.out; have := HJ8.out; have := HJ51.out; have := HJ58.out; first | omega | exact Nat.le_refl _⟩, ⟨by (with_reducible repeat (first | refine blk_drewN ?_ _ | refine blk_drew ?_ | refine blk_alloc ?_ _)); exact BK490.out⟩, ⟨by repeat (first | (with_reducible first | exact HB.out | apply below_alloc | apply pw_below_drewN | apply below_drew1 | refine below_set ?_ GE490.out) | exact HB.out)⟩⟩
                              · rw [if_neg c72] at H
                                exact absurd H (by simp)
                          case rest =>
                            clear HC69
                            try clear c1
                            try clear c2
                            try clear p2
                            try clear c4
                            try clear c5
                            try clear c5b0
                            try clear c5b1
                            try clear c6
                            try clear p6
                            try clear q6
                            try clear hx6
                            try clear c7
                            try clear c8
                            try clear c12
                            try clear c13
                            try clear c14
                            try clear c16
                            try clear c18
                            try clear c20
                            try clear c23
                            try clear c49
                            try clear c57
                            try clear c58
                            try clear c61
                            try clear c61b0
                            try clear c63
                            try clear c63b0
                            try clear c64
                            try clear c64b0
                            try clear p64
                            try clear p65
                            try clear q65
                            try clear hx65
                            try clear c66
                            try clear c66b0
                            try clear c66b1
                            try clear c71
                            try clear c71b0
                            try clear c71b1
                            try clear c72
                            try clear c72b0
                            try clear c72b1
                            try clear c72b2
                            try clear hcz55_0
                            try clear hcz55_1
                            try clear hcz55_2
                            try clear hcz55_3
                            try clear hcz55_4
                            try clear hcz55_5
                            try clear hcz55_6
                            try clear hcz55_7
                            try clear hcz60_0
                            try clear hcz60_1
                            try clear hcz60_2
                            try clear hcz60_3
                            try clear hcz60_4
                            try clear hcz60_5
                            try clear hcz60_6
                            try clear hcz60_7
                            try clear hcz67_0
                            try clear hcz67_1
                            try clear hcz67_2
                            try clear hcz67_3
                            try clear hcz67_4
                            try clear hcz67_5
                            try clear hcz67_6
                            try clear hcz67_7
                            try clear hcz68_0
                            try clear hcz68_1
                            try clear hcz68_2
                            try clear hcz68_3
                            try clear hcz68_4
                            try clear hcz68_5
                            try clear hcz68_6
                            try clear hcz68_7
                            try clear hcz70_0
                            try clear hcz70_1
                            try clear hcz70_2
                            try clear hcz70_3
                            try clear hcz70_4
                            try clear hcz70_5
                            try clear hcz70_6
                            try clear hcz70_7
                            try clear hcz73_0
                            try clear hcz73_1
                            try clear hcz73_2
                            try clear hcz73_3
                            try clear hcz73_4
                            try clear hcz73_5
                            try clear hcz73_6
                            try clear hcz73_7
                            try clear hfz55_0
                            try clear hfz55_1
                            try clear hfz55_2
                            try clear hfz55_3
                            try clear hfz55_4
                            try clear hfz55_5
                            try clear hfz55_6
                            try clear hfz55_7
                            try clear hfz60_0
                            try clear hfz60_1
                            try clear hfz60_2
                            try clear hfz60_3
                            try clear hfz60_4
                            try clear hfz60_5
                            try clear hfz60_6
                            try clear hfz60_7
                            try clear hfz67_0
                            try clear hfz67_1
                            try clear hfz67_2
                            try clear hfz67_3
                            try clear hfz67_4
                            try clear hfz67_5
                            try clear hfz67_6
                            try clear hfz67_7
                            try clear hfz68_0
                            try clear hfz68_1
                            try clear hfz68_2
                            try clear hfz68_3
                            try clear hfz68_4
                            try clear hfz68_5
                            try clear hfz68_6
                            try clear hfz68_7
                            try clear hfz70_0
                            try clear hfz70_1
                            try clear hfz70_2
                            try clear hfz70_3
                            try clear hfz70_4
                            try clear hfz70_5
                            try clear hfz70_6
                            try clear hfz70_7
                            try clear hfz73_0
                            try clear hfz73_1
                            try clear hfz73_2
                            try clear hfz73_3
                            try clear hfz73_4
                            try clear hfz73_5
                            try clear hfz73_6
                            try clear hfz73_7
                            try clear p2
                            try clear p6
                            try clear p64
                            try clear p65
                            try clear q6
                            try clear q65
                            obtain ⟨kq, x14_68, rfl, HA, HJ68, BK490, HB⟩ := hcut
                            cases kq with
                            | zero => exact absurd HA.out (by simp [laws_FnUriLast.j5])
                            | succ kj68 =>
                              have H := HA.out
                              clear HA
                              simp only [laws_FnUriLast.j5] at H
                              replace H := Option.bind_eq_some_iff.mp H
                              obtain ⟨t495, A740, H⟩ := H
                              replace H : (if a2 = true then (if 0 ≤ x13_58 then (if x13_58 ≤ (t483.size : Int) then (if t493.toList = (t483.extract (x13_58 : Int).toNat t483.size).toList then (if t481.size + 3 ≤ 9223372036854775807 then (if t481.size + 3 + t482.size ≤ 9223372036854775807 then (if t481.size + 3 + t482.size + t492.size ≤ 9223372036854775807 then (if t481.size + 3 + t482.size + t492.size + x14_68.size ≤ 9223372036854775807 then (if t491.toList = ((((t481 ++ (⟨#[58, 47, 47]⟩ : ByteArray)) ++ t482) ++ t492) ++ x14_68).toList then ((laws_begins.f t492 t484).bind fun t496 => (some t496)) else (some false)) else (none)) else (none)) else (none)) else (none)) else (some false)) else (none)) else (none)) else (if 0 ≤ x13_58 then (if x13_58 ≤ (t483.size : Int) then (if t493.toList = (t483.extract (x13_58 : Int).toNat t483.size).toList then (if t481.size + 3 ≤ 9223372036854775807 then (if t481.size + 3 + t482.size ≤ 9223372036854775807 then (if t481.size + 3 + t482.size + t492.size ≤ 9223372036854775807 then (if t481.size + 3 + t482.size + t492.size + x14_68.size ≤ 9223372036854775807 then (if t491.toList = ((((t481 ++ (⟨#[58, 47, 47]⟩ : ByteArray)) ++ t482) ++ t492) ++ x14_68).toList then ((laws_begins.f t492 t495).bind fun t497 => (some t497)) else (some false)) else (none)) else (none)) else (none)) else (none)) else (some false)) else (none)) else (none))) = some r := H
                              have A74 := Aside0.mk A740
                              clear A740
                              by_cases c75 : a2 = true
                              · subst c75
                                have H1 : (if 0 ≤ x13_58 then (if x13_58 ≤ (t483.size : Int) then (if t493.toList = (t483.extract (x13_58 : Int).toNat t483.size).toList then (if t481.size + 3 ≤ 9223372036854775807 then (if t481.size + 3 + t482.size ≤ 9223372036854775807 then (if t481.size + 3 + t482.size + t492.size ≤ 9223372036854775807 then (if t481.size + 3 + t482.size + t492.size + x14_68.size ≤ 9223372036854775807 then (if t491.toList = ((((t481 ++ (⟨#[58, 47, 47]⟩ : ByteArray)) ++ t482) ++ t492) ++ x14_68).toList then ((laws_begins.f t492 t484).bind fun t496 => (some t496)) else (some false)) else (none)) else (none)) else (none)) else (none)) else (some false)) else (none)) else (none)) = some r := by rw [if_pos rfl] at H; exact H
                                clear H
                                have H := H1
                                clear H1
                                by_cases c76 : 0 ≤ x13_58
                                · rw [if_pos c76] at H
                                  have c76b0 := eq_true c76
                                  have c76b1 : decide (0 ≤ x13_58) = true := decide_eq_true c76
                                  clear c76
                                  by_cases c77 : x13_58 ≤ (t483.size : Int)
                                  · rw [if_pos c77] at H
                                    have c77b0 := eq_true c77
                                    have c77b1 : decide (x13_58 ≤ (t483.size : Int)) = true := decide_eq_true c77
                                    clear c77
                                    by_cases c78 : t493.toList = (t483.extract (x13_58 : Int).toNat t483.size).toList
                                    · rw [if_pos c78] at H
                                      have c78b0 : (t493.toList == (t483.extract (x13_58 : Int).toNat t483.size).toList) = true := beq_iff_eq.mpr c78
                                      have c78b1 : (t493.toList != (t483.extract (x13_58 : Int).toNat t483.size).toList) = false := bne_eq_false_iff_eq.mpr c78
                                      clear c78
                                      by_cases c79 : t481.size + 3 ≤ 9223372036854775807
                                      · rw [if_pos c79] at H
                                        have c79b0 := eq_true c79
                                        have c79b1 : decide (t481.size + 3 ≤ 9223372036854775807) = true := decide_eq_true c79
                                        try have c79b2 : (9223372036854775807 < t481.size + 3) = False := eq_false (Nat.not_lt.2 c79)
                                        by_cases c80 : t481.size + 3 + t482.size ≤ 9223372036854775807
                                        · rw [if_pos c80] at H
                                          have c80b0 := eq_true c80
                                          have c80b1 : decide (t481.size + 3 + t482.size ≤ 9223372036854775807) = true := decide_eq_true c80
                                          try have c80b2 : (9223372036854775807 < t481.size + 3 + t482.size) = False := eq_false (Nat.not_lt.2 c80)
                                          by_cases c81 : t481.size + 3 + t482.size + t492.size ≤ 9223372036854775807
                                          · rw [if_pos c81] at H
                                            have c81b0 := eq_true c81
                                            have c81b1 : decide (t481.size + 3 + t482.size + t492.size ≤ 9223372036854775807) = true := decide_eq_true c81
                                            try have c81b2 : (9223372036854775807 < t481.size + 3 + t482.size + t492.size) = False := eq_false (Nat.not_lt.2 c81)
                                            by_cases c82 : t481.size + 3 + t482.size + t492.size + x14_68.size ≤ 9223372036854775807
                                            · rw [if_pos c82] at H
                                              have c82b0 := eq_true c82
                                              have c82b1 : decide (t481.size + 3 + t482.size + t492.size + x14_68.size ≤ 9223372036854775807) = true := decide_eq_true c82
                                              try have c82b2 : (9223372036854775807 < t481.size + 3 + t482.size + t492.size + x14_68.size) = False := eq_false (Nat.not_lt.2 c82)
                                              by_cases c83 : t491.toList = ((((t481 ++ (⟨#[58, 47, 47]⟩ : ByteArray)) ++ t482) ++ t492) ++ x14_68).toList
                                              · rw [if_pos c83] at H
                                                have c83b0 : (t491.toList == ((((t481 ++ (⟨#[58, 47, 47]⟩ : ByteArray)) ++ t482) ++ t492) ++ x14_68).toList) = true := beq_iff_eq.mpr c83
                                                have c83b1 : (t491.toList != ((((t481 ++ (⟨#[58, 47, 47]⟩ : ByteArray)) ++ t482) ++ t492) ++ x14_68).toList) = false := bne_eq_false_iff_eq.mpr c83
                                                clear c83
                                                replace H := Option.bind_eq_some_iff.mp H
                                                obtain ⟨t496, A840, H⟩ := H
                                                replace H : (some t496) = some r := H
                                                have A84 := Aside0.mk A840
                                                clear A840
                                                obtain rfl := Option.some.inj H
                                                have hcz85_0 : wc.cell? ⟨gb490, 0, none⟩ = some (.string t481) := (blk_cell BK490.out 0).trans rfl
                                                have hcz85_1 : wc.cell? ⟨gb490, 1, none⟩ = some (.string t482) := (blk_cell BK490.out 1).trans rfl
                                                have hcz85_2 : wc.cell? ⟨gb490, 2, none⟩ = some (.string t483) := (blk_cell BK490.out 2).trans rfl
                                                have hcz85_3 : wc.cell? ⟨gb490, 3, none⟩ = some (.string t484) := (blk_cell BK490.out 3).trans rfl
                                                have hcz85_4 : wc.cell? ⟨gb490, 4, none⟩ = some (.string t485) := (blk_cell BK490.out 4).trans rfl
                                                have hcz85_5 : wc.cell? ⟨gb490, 5, none⟩ = some (.string t486) := (blk_cell BK490.out 5).trans rfl
                                                have hcz85_6 : wc.cell? ⟨gb490, 6, none⟩ = some (.string t487) := (blk_cell BK490.out 6).trans rfl
                                                have hcz85_7 : wc.cell? ⟨gb490, 7, none⟩ = some (.string t488) := (blk_cell BK490.out 7).trans rfl
                                                have hfz85_0 := blk_frozen BK490.out 0
                                                have hfz85_1 := blk_frozen BK490.out 1
                                                have hfz85_2 := blk_frozen BK490.out 2
                                                have hfz85_3 := blk_frozen BK490.out 3
                                                have hfz85_4 := blk_frozen BK490.out 4
                                                have hfz85_5 := blk_frozen BK490.out 5
                                                have hfz85_6 := blk_frozen BK490.out 6
                                                have hfz85_7 := blk_frozen BK490.out 7
                                                go_wp2_with (first | ((with_reducible refine gate_callee (f := 22) rfl ?_); refine goesL_ (some 98) rfl rfl Try.func22 (by kernel_rfl) rfl #[.string t483] rfl (by (try simp only [List.map_toArray, List.map_cons, List.map_nil]); first | done | rfl | (simp only [List.length_drop, List.length_take]; rfl)) ?_; (with_reducible refine (impl_QuotedPath.calls kj68 t483 t495 _ A74.out).mono ?_); rintro e w86 ⟨rfl, hb⟩; refine ⟨_, rfl, ?_⟩; have n0_ := Aside0.mk (blk_below (g := gb490) (o := .cells #[.string t481, .string t482, .string t483, .string t484, .string t485, .string t486, .string t487, .string t488] 27 (0, 0)) (by (with_reducible repeat (first | refine blk_drewN ?_ _ | refine blk_drew ?_ | refine blk_alloc ?_ _)); exact BK490.out) hb); have n1_ := Aside0.mk (below_step (by repeat (first | (with_reducible first | exact HB.out | apply below_alloc | apply pw_below_drewN | apply below_drew1 | refine below_set ?_ GE490.out) | exact HB.out)) hb); clear BK490; clear HB; have BK490 := n0_; have HB := n1_; clear n0_ n1_; (try clear hb); (try clear hb2); (try clear hk); (try clear hi); have hcz87_0 : w86.cell? ⟨gb490, 0, none⟩ = some (.string t481) := (blk_cell BK490.out 0).trans rfl; have hcz87_1 : w86.cell? ⟨gb490, 1, none⟩ = some (.string t482) := (blk_cell BK490.out 1).trans rfl; have hcz87_2 : w86.cell? ⟨gb490, 2, none⟩ = some (.string t483) := (blk_cell BK490.out 2).trans rfl; have hcz87_3 : w86.cell? ⟨gb490, 3, none⟩ = some (.string t484) := (blk_cell BK490.out 3).trans rfl; have hcz87_4 : w86.cell? ⟨gb490, 4, none⟩ = some (.string t485) := (blk_cell BK490.out 4).trans rfl; have hcz87_5 : w86.cell? ⟨gb490, 5, none⟩ = some (.string t486) := (blk_cell BK490.out 5).trans rfl; have hcz87_6 : w86.cell? ⟨gb490, 6, none⟩ = some (.string t487) := (blk_cell BK490.out 6).trans rfl; have hcz87_7 : w86.cell? ⟨gb490, 7, none⟩ = some (.string t488) := (blk_cell BK490.out 7).trans rfl; have hfz87_0 := blk_frozen BK490.out 0; have hfz87_1 := blk_frozen BK490.out 1; have hfz87_2 := blk_frozen BK490.out 2; have hfz87_3 := blk_frozen BK490.out 3; have hfz87_4 := blk_frozen BK490.out 4; have hfz87_5 := blk_frozen BK490.out 5; have hfz87_6 := blk_frozen BK490.out 6; have hfz87_7 := blk_frozen BK490.out 7) | (go_at_call 16; (with_reducible refine (laws_begins.calls t492 t484 t496 _ A84.out).mono ?_); rintro e w' ⟨rfl, ⟨nd, rfl⟩⟩))
                                                any_goals (try (exfalso; have zc76b1 := of_decide_eq_true c76b1; have zc77b1 := of_decide_eq_true c77b1; have zc79b1 := of_decide_eq_true c79b1; have zc80b1 := of_decide_eq_true c80b1; have zc81b1 := of_decide_eq_true c81b1; have zc82b1 := of_decide_eq_true c82b1; omega))
                                                go_ret
                                                exact ⟨by first | rfl | (simp [errW_none, errW_some] <;> rfl) | (simp [*, errW_none, errW_some] <;> rfl), by repeat (first | (with_reducible first | exact HB.out | apply below_alloc | apply pw_below_drewN | apply below_drew1 | refine below_set ?_ GE490.out) | exact HB.out)⟩
                                              · rw [if_neg c83] at H
                                                have c83b0 : (t491.toList == ((((t481 ++ (⟨#[58, 47, 47]⟩ : ByteArray)) ++ t482) ++ t492) ++ x14_68).toList) = false := beq_eq_false_iff_ne.mpr c83
                                                have c83b1 : (t491.toList != ((((t481 ++ (⟨#[58, 47, 47]⟩ : ByteArray)) ++ t482) ++ t492) ++ x14_68).toList) = true := bne_iff_ne.mpr c83
                                                obtain rfl := Option.some.inj H
                                                have hcz88_0 : wc.cell? ⟨gb490, 0, none⟩ = some (.string t481) := (blk_cell BK490.out 0).trans rfl
                                                have hcz88_1 : wc.cell? ⟨gb490, 1, none⟩ = some (.string t482) := (blk_cell BK490.out 1).trans rfl
                                                have hcz88_2 : wc.cell? ⟨gb490, 2, none⟩ = some (.string t483) := (blk_cell BK490.out 2).trans rfl
                                                have hcz88_3 : wc.cell? ⟨gb490, 3, none⟩ = some (.string t484) := (blk_cell BK490.out 3).trans rfl
                                                have hcz88_4 : wc.cell? ⟨gb490, 4, none⟩ = some (.string t485) := (blk_cell BK490.out 4).trans rfl
                                                have hcz88_5 : wc.cell? ⟨gb490, 5, none⟩ = some (.string t486) := (blk_cell BK490.out 5).trans rfl
                                                have hcz88_6 : wc.cell? ⟨gb490, 6, none⟩ = some (.string t487) := (blk_cell BK490.out 6).trans rfl
                                                have hcz88_7 : wc.cell? ⟨gb490, 7, none⟩ = some (.string t488) := (blk_cell BK490.out 7).trans rfl
                                                have hfz88_0 := blk_frozen BK490.out 0
                                                have hfz88_1 := blk_frozen BK490.out 1
                                                have hfz88_2 := blk_frozen BK490.out 2
                                                have hfz88_3 := blk_frozen BK490.out 3
                                                have hfz88_4 := blk_frozen BK490.out 4
                                                have hfz88_5 := blk_frozen BK490.out 5
                                                have hfz88_6 := blk_frozen BK490.out 6
                                                have hfz88_7 := blk_frozen BK490.out 7
                                                go_wp2_with (first | ((with_reducible refine gate_callee (f := 22) rfl ?_); refine goesL_ (some 98) rfl rfl Try.func22 (by kernel_rfl) rfl #[.string t483] rfl (by (try simp only [List.map_toArray, List.map_cons, List.map_nil]); first | done | rfl | (simp only [List.length_drop, List.length_take]; rfl)) ?_; (with_reducible refine (impl_QuotedPath.calls kj68 t483 t495 _ A74.out).mono ?_); rintro e w89 ⟨rfl, hb⟩; refine ⟨_, rfl, ?_⟩; have n0_ := Aside0.mk (blk_below (g := gb490) (o := .cells #[.string t481, .string t482, .string t483, .string t484, .string t485, .string t486, .string t487, .string t488] 27 (0, 0)) (by (with_reducible repeat (first | refine blk_drewN ?_ _ | refine blk_drew ?_ | refine blk_alloc ?_ _)); exact BK490.out) hb); have n1_ := Aside0.mk (below_step (by repeat (first | (with_reducible first | exact HB.out | apply below_alloc | apply pw_below_drewN | apply below_drew1 | refine below_set ?_ GE490.out) | exact HB.out)) hb); clear BK490; clear HB; have BK490 := n0_; have HB := n1_; clear n0_ n1_; (try clear hb); (try clear hb2); (try clear hk); (try clear hi); have hcz90_0 : w89.cell? ⟨gb490, 0, none⟩ = some (.string t481) := (blk_cell BK490.out 0).trans rfl; have hcz90_1 : w89.cell? ⟨gb490, 1, none⟩ = some (.string t482) := (blk_cell BK490.out 1).trans rfl; have hcz90_2 : w89.cell? ⟨gb490, 2, none⟩ = some (.string t483) := (blk_cell BK490.out 2).trans rfl; have hcz90_3 : w89.cell? ⟨gb490, 3, none⟩ = some (.string t484) := (blk_cell BK490.out 3).trans rfl; have hcz90_4 : w89.cell? ⟨gb490, 4, none⟩ = some (.string t485) := (blk_cell BK490.out 4).trans rfl; have hcz90_5 : w89.cell? ⟨gb490, 5, none⟩ = some (.string t486) := (blk_cell BK490.out 5).trans rfl; have hcz90_6 : w89.cell? ⟨gb490, 6, none⟩ = some (.string t487) := (blk_cell BK490.out 6).trans rfl; have hcz90_7 : w89.cell? ⟨gb490, 7, none⟩ = some (.string t488) := (blk_cell BK490.out 7).trans rfl; have hfz90_0 := blk_frozen BK490.out 0; have hfz90_1 := blk_frozen BK490.out 1; have hfz90_2 := blk_frozen BK490.out 2; have hfz90_3 := blk_frozen BK490.out 3; have hfz90_4 := blk_frozen BK490.out 4; have hfz90_5 := blk_frozen BK490.out 5; have hfz90_6 := blk_frozen BK490.out 6; have hfz90_7 := blk_frozen BK490.out 7))
                                                any_goals (try (exfalso; have zc76b1 := of_decide_eq_true c76b1; have zc77b1 := of_decide_eq_true c77b1; have zc79b1 := of_decide_eq_true c79b1; have zc80b1 := of_decide_eq_true c80b1; have zc81b1 := of_decide_eq_true c81b1; have zc82b1 := of_decide_eq_true c82b1; omega))
                                                go_ret
                                                exact ⟨by first | rfl | (simp [errW_none, errW_some] <;> rfl) | (simp [*, errW_none, errW_some] <;> rfl), by repeat (first | (with_reducible first | exact HB.out | apply below_alloc | apply pw_below_drewN | apply below_drew1 | refine below_set ?_ GE490.out) | exact HB.out)⟩
                                            · rw [if_neg c82] at H
                                              exact absurd H (by simp)
                                          · rw [if_neg c81] at H
                                            exact absurd H (by simp)
                                        · rw [if_neg c80] at H
                                          exact absurd H (by simp)
                                      · rw [if_neg c79] at H
                                        exact absurd H (by simp)
                                    · rw [if_neg c78] at H
                                      have c78b0 : (t493.toList == (t483.extract (x13_58 : Int).toNat t483.size).toList) = false := beq_eq_false_iff_ne.mpr c78
                                      have c78b1 : (t493.toList != (t483.extract (x13_58 : Int).toNat t483.size).toList) = true := bne_iff_ne.mpr c78
                                      obtain rfl := Option.some.inj H
                                      have hcz91_0 : wc.cell? ⟨gb490, 0, none⟩ = some (.string t481) := (blk_cell BK490.out 0).trans rfl
                                      have hcz91_1 : wc.cell? ⟨gb490, 1, none⟩ = some (.string t482) := (blk_cell BK490.out 1).trans rfl
                                      have hcz91_2 : wc.cell? ⟨gb490, 2, none⟩ = some (.string t483) := (blk_cell BK490.out 2).trans rfl
                                      have hcz91_3 : wc.cell? ⟨gb490, 3, none⟩ = some (.string t484) := (blk_cell BK490.out 3).trans rfl
                                      have hcz91_4 : wc.cell? ⟨gb490, 4, none⟩ = some (.string t485) := (blk_cell BK490.out 4).trans rfl
                                      have hcz91_5 : wc.cell? ⟨gb490, 5, none⟩ = some (.string t486) := (blk_cell BK490.out 5).trans rfl
                                      have hcz91_6 : wc.cell? ⟨gb490, 6, none⟩ = some (.string t487) := (blk_cell BK490.out 6).trans rfl
                                      have hcz91_7 : wc.cell? ⟨gb490, 7, none⟩ = some (.string t488) := (blk_cell BK490.out 7).trans rfl
                                      have hfz91_0 := blk_frozen BK490.out 0
                                      have hfz91_1 := blk_frozen BK490.out 1
                                      have hfz91_2 := blk_frozen BK490.out 2
                                      have hfz91_3 := blk_frozen BK490.out 3
                                      have hfz91_4 := blk_frozen BK490.out 4
                                      have hfz91_5 := blk_frozen BK490.out 5
                                      have hfz91_6 := blk_frozen BK490.out 6
                                      have hfz91_7 := blk_frozen BK490.out 7
                                      go_wp2_with (first | ((with_reducible refine gate_callee (f := 22) rfl ?_); refine goesL_ (some 98) rfl rfl Try.func22 (by kernel_rfl) rfl #[.string t483] rfl (by (try simp only [List.map_toArray, List.map_cons, List.map_nil]); first | done | rfl | (simp only [List.length_drop, List.length_take]; rfl)) ?_; (with_reducible refine (impl_QuotedPath.calls kj68 t483 t495 _ A74.out).mono ?_); rintro e w92 ⟨rfl, hb⟩; refine ⟨_, rfl, ?_⟩; have n0_ := Aside0.mk (blk_below (g := gb490) (o := .cells #[.string t481, .string t482, .string t483, .string t484, .string t485, .string t486, .string t487, .string t488] 27 (0, 0)) (by (with_reducible repeat (first | refine blk_drewN ?_ _ | refine blk_drew ?_ | refine blk_alloc ?_ _)); exact BK490.out) hb); have n1_ := Aside0.mk (below_step (by repeat (first | (with_reducible first | exact HB.out | apply below_alloc | apply pw_below_drewN | apply below_drew1 | refine below_set ?_ GE490.out) | exact HB.out)) hb); clear BK490; clear HB; have BK490 := n0_; have HB := n1_; clear n0_ n1_; (try clear hb); (try clear hb2); (try clear hk); (try clear hi); have hcz93_0 : w92.cell? ⟨gb490, 0, none⟩ = some (.string t481) := (blk_cell BK490.out 0).trans rfl; have hcz93_1 : w92.cell? ⟨gb490, 1, none⟩ = some (.string t482) := (blk_cell BK490.out 1).trans rfl; have hcz93_2 : w92.cell? ⟨gb490, 2, none⟩ = some (.string t483) := (blk_cell BK490.out 2).trans rfl; have hcz93_3 : w92.cell? ⟨gb490, 3, none⟩ = some (.string t484) := (blk_cell BK490.out 3).trans rfl; have hcz93_4 : w92.cell? ⟨gb490, 4, none⟩ = some (.string t485) := (blk_cell BK490.out 4).trans rfl; have hcz93_5 : w92.cell? ⟨gb490, 5, none⟩ = some (.string t486) := (blk_cell BK490.out 5).trans rfl; have hcz93_6 : w92.cell? ⟨gb490, 6, none⟩ = some (.string t487) := (blk_cell BK490.out 6).trans rfl; have hcz93_7 : w92.cell? ⟨gb490, 7, none⟩ = some (.string t488) := (blk_cell BK490.out 7).trans rfl; have hfz93_0 := blk_frozen BK490.out 0; have hfz93_1 := blk_frozen BK490.out 1; have hfz93_2 := blk_frozen BK490.out 2; have hfz93_3 := blk_frozen BK490.out 3; have hfz93_4 := blk_frozen BK490.out 4; have hfz93_5 := blk_frozen BK490.out 5; have hfz93_6 := blk_frozen BK490.out 6; have hfz93_7 := blk_frozen BK490.out 7))
                                      go_ret
                                      exact ⟨by first | rfl | (simp [errW_none, errW_some] <;> rfl) | (simp [*, errW_none, errW_some] <;> rfl), by repeat (first | (with_reducible first | exact HB.out | apply below_alloc | apply pw_below_drewN | apply below_drew1 | refine below_set ?_ GE490.out) | exact HB.out)⟩
                                  · rw [if_neg c77] at H
                                    exact absurd H (by simp)
                                · rw [if_neg c76] at H
                                  exact absurd H (by simp)
                              · replace c75 := Bool.eq_false_iff.mpr c75
                                subst c75
                                have H1 : (if 0 ≤ x13_58 then (if x13_58 ≤ (t483.size : Int) then (if t493.toList = (t483.extract (x13_58 : Int).toNat t483.size).toList then (if t481.size + 3 ≤ 9223372036854775807 then (if t481.size + 3 + t482.size ≤ 9223372036854775807 then (if t481.size + 3 + t482.size + t492.size ≤ 9223372036854775807 then (if t481.size + 3 + t482.size + t492.size + x14_68.size ≤ 9223372036854775807 then (if t491.toList = ((((t481 ++ (⟨#[58, 47, 47]⟩ : ByteArray)) ++ t482) ++ t492) ++ x14_68).toList then ((laws_begins.f t492 t495).bind fun t497 => (some t497)) else (some false)) else (none)) else (none)) else (none)) else (none)) else (some false)) else (none)) else (none)) = some r := by rw [if_neg (show ¬ (false = true) by decide)] at H; exact H
                                clear H
                                have H := H1
                                clear H1
                                by_cases c94 : 0 ≤ x13_58
                                · rw [if_pos c94] at H
                                  have c94b0 := eq_true c94
                                  have c94b1 : decide (0 ≤ x13_58) = true := decide_eq_true c94
                                  clear c94
                                  by_cases c95 : x13_58 ≤ (t483.size : Int)
                                  · rw [if_pos c95] at H
                                    have c95b0 := eq_true c95
                                    have c95b1 : decide (x13_58 ≤ (t483.size : Int)) = true := decide_eq_true c95
                                    clear c95
                                    by_cases c96 : t493.toList = (t483.extract (x13_58 : Int).toNat t483.size).toList
                                    · rw [if_pos c96] at H
                                      have c96b0 : (t493.toList == (t483.extract (x13_58 : Int).toNat t483.size).toList) = true := beq_iff_eq.mpr c96
                                      have c96b1 : (t493.toList != (t483.extract (x13_58 : Int).toNat t483.size).toList) = false := bne_eq_false_iff_eq.mpr c96
                                      clear c96
                                      by_cases c97 : t481.size + 3 ≤ 9223372036854775807
                                      · rw [if_pos c97] at H
                                        have c97b0 := eq_true c97
                                        have c97b1 : decide (t481.size + 3 ≤ 9223372036854775807) = true := decide_eq_true c97
                                        try have c97b2 : (9223372036854775807 < t481.size + 3) = False := eq_false (Nat.not_lt.2 c97)
                                        by_cases c98 : t481.size + 3 + t482.size ≤ 9223372036854775807
                                        · rw [if_pos c98] at H
                                          have c98b0 := eq_true c98
                                          have c98b1 : decide (t481.size + 3 + t482.size ≤ 9223372036854775807) = true := decide_eq_true c98
                                          try have c98b2 : (9223372036854775807 < t481.size + 3 + t482.size) = False := eq_false (Nat.not_lt.2 c98)
                                          by_cases c99 : t481.size + 3 + t482.size + t492.size ≤ 9223372036854775807
                                          · rw [if_pos c99] at H
                                            have c99b0 := eq_true c99
                                            have c99b1 : decide (t481.size + 3 + t482.size + t492.size ≤ 9223372036854775807) = true := decide_eq_true c99
                                            try have c99b2 : (9223372036854775807 < t481.size + 3 + t482.size + t492.size) = False := eq_false (Nat.not_lt.2 c99)
                                            by_cases c100 : t481.size + 3 + t482.size + t492.size + x14_68.size ≤ 9223372036854775807
                                            · rw [if_pos c100] at H
                                              have c100b0 := eq_true c100
                                              have c100b1 : decide (t481.size + 3 + t482.size + t492.size + x14_68.size ≤ 9223372036854775807) = true := decide_eq_true c100
                                              try have c100b2 : (9223372036854775807 < t481.size + 3 + t482.size + t492.size + x14_68.size) = False := eq_false (Nat.not_lt.2 c100)
                                              by_cases c101 : t491.toList = ((((t481 ++ (⟨#[58, 47, 47]⟩ : ByteArray)) ++ t482) ++ t492) ++ x14_68).toList
                                              · rw [if_pos c101] at H
                                                have c101b0 : (t491.toList == ((((t481 ++ (⟨#[58, 47, 47]⟩ : ByteArray)) ++ t482) ++ t492) ++ x14_68).toList) = true := beq_iff_eq.mpr c101
                                                have c101b1 : (t491.toList != ((((t481 ++ (⟨#[58, 47, 47]⟩ : ByteArray)) ++ t482) ++ t492) ++ x14_68).toList) = false := bne_eq_false_iff_eq.mpr c101
                                                clear c101
                                                replace H := Option.bind_eq_some_iff.mp H
                                                obtain ⟨t497, A1020, H⟩ := H
                                                replace H : (some t497) = some r := H
                                                have A102 := Aside0.mk A1020
                                                clear A1020
                                                obtain rfl := Option.some.inj H
                                                have hcz103_0 : wc.cell? ⟨gb490, 0, none⟩ = some (.string t481) := (blk_cell BK490.out 0).trans rfl
                                                have hcz103_1 : wc.cell? ⟨gb490, 1, none⟩ = some (.string t482) := (blk_cell BK490.out 1).trans rfl
                                                have hcz103_2 : wc.cell? ⟨gb490, 2, none⟩ = some (.string t483) := (blk_cell BK490.out 2).trans rfl
                                                have hcz103_3 : wc.cell? ⟨gb490, 3, none⟩ = some (.string t484) := (blk_cell BK490.out 3).trans rfl
                                                have hcz103_4 : wc.cell? ⟨gb490, 4, none⟩ = some (.string t485) := (blk_cell BK490.out 4).trans rfl
                                                have hcz103_5 : wc.cell? ⟨gb490, 5, none⟩ = some (.string t486) := (blk_cell BK490.out 5).trans rfl
                                                have hcz103_6 : wc.cell? ⟨gb490, 6, none⟩ = some (.string t487) := (blk_cell BK490.out 6).trans rfl
                                                have hcz103_7 : wc.cell? ⟨gb490, 7, none⟩ = some (.string t488) := (blk_cell BK490.out 7).trans rfl
                                                have hfz103_0 := blk_frozen BK490.out 0
                                                have hfz103_1 := blk_frozen BK490.out 1
                                                have hfz103_2 := blk_frozen BK490.out 2
                                                have hfz103_3 := blk_frozen BK490.out 3
                                                have hfz103_4 := blk_frozen BK490.out 4
                                                have hfz103_5 := blk_frozen BK490.out 5
                                                have hfz103_6 := blk_frozen BK490.out 6
                                                have hfz103_7 := blk_frozen BK490.out 7
                                                go_wp2_with (first | ((with_reducible refine gate_callee (f := 22) rfl ?_); refine goesL_ (some 98) rfl rfl Try.func22 (by kernel_rfl) rfl #[.string t483] rfl (by (try simp only [List.map_toArray, List.map_cons, List.map_nil]); first | done | rfl | (simp only [List.length_drop, List.length_take]; rfl)) ?_; (with_reducible refine (impl_QuotedPath.calls kj68 t483 t495 _ A74.out).mono ?_); rintro e w104 ⟨rfl, hb⟩; refine ⟨_, rfl, ?_⟩; have n0_ := Aside0.mk (blk_below (g := gb490) (o := .cells #[.string t481, .string t482, .string t483, .string t484, .string t485, .string t486, .string t487, .string t488] 27 (0, 0)) (by (with_reducible repeat (first | refine blk_drewN ?_ _ | refine blk_drew ?_ | refine blk_alloc ?_ _)); exact BK490.out) hb); have n1_ := Aside0.mk (below_step (by repeat (first | (with_reducible first | exact HB.out | apply below_alloc | apply pw_below_drewN | apply below_drew1 | refine below_set ?_ GE490.out) | exact HB.out)) hb); clear BK490; clear HB; have BK490 := n0_; have HB := n1_; clear n0_ n1_; (try clear hb); (try clear hb2); (try clear hk); (try clear hi); have hcz105_0 : w104.cell? ⟨gb490, 0, none⟩ = some (.string t481) := (blk_cell BK490.out 0).trans rfl; have hcz105_1 : w104.cell? ⟨gb490, 1, none⟩ = some (.string t482) := (blk_cell BK490.out 1).trans rfl; have hcz105_2 : w104.cell? ⟨gb490, 2, none⟩ = some (.string t483) := (blk_cell BK490.out 2).trans rfl; have hcz105_3 : w104.cell? ⟨gb490, 3, none⟩ = some (.string t484) := (blk_cell BK490.out 3).trans rfl; have hcz105_4 : w104.cell? ⟨gb490, 4, none⟩ = some (.string t485) := (blk_cell BK490.out 4).trans rfl; have hcz105_5 : w104.cell? ⟨gb490, 5, none⟩ = some (.string t486) := (blk_cell BK490.out 5).trans rfl; have hcz105_6 : w104.cell? ⟨gb490, 6, none⟩ = some (.string t487) := (blk_cell BK490.out 6).trans rfl; have hcz105_7 : w104.cell? ⟨gb490, 7, none⟩ = some (.string t488) := (blk_cell BK490.out 7).trans rfl; have hfz105_0 := blk_frozen BK490.out 0; have hfz105_1 := blk_frozen BK490.out 1; have hfz105_2 := blk_frozen BK490.out 2; have hfz105_3 := blk_frozen BK490.out 3; have hfz105_4 := blk_frozen BK490.out 4; have hfz105_5 := blk_frozen BK490.out 5; have hfz105_6 := blk_frozen BK490.out 6; have hfz105_7 := blk_frozen BK490.out 7) | (go_at_call 16; (with_reducible refine (laws_begins.calls t492 t495 t497 _ A102.out).mono ?_); rintro e w' ⟨rfl, ⟨nd, rfl⟩⟩))
                                                any_goals (try (exfalso; have zc94b1 := of_decide_eq_true c94b1; have zc95b1 := of_decide_eq_true c95b1; have zc97b1 := of_decide_eq_true c97b1; have zc98b1 := of_decide_eq_true c98b1; have zc99b1 := of_decide_eq_true c99b1; have zc100b1 := of_decide_eq_true c100b1; omega))
                                                go_ret
                                                exact ⟨by first | rfl | (simp [errW_none, errW_some] <;> rfl) | (simp [*, errW_none, errW_some] <;> rfl), by repeat (first | (with_reducible first | exact HB.out | apply below_alloc | apply pw_below_drewN | apply below_drew1 | refine below_set ?_ GE490.out) | exact HB.out)⟩
                                              · rw [if_neg c101] at H
                                                have c101b0 : (t491.toList == ((((t481 ++ (⟨#[58, 47, 47]⟩ : ByteArray)) ++ t482) ++ t492) ++ x14_68).toList) = false := beq_eq_false_iff_ne.mpr c101
                                                have c101b1 : (t491.toList != ((((t481 ++ (⟨#[58, 47, 47]⟩ : ByteArray)) ++ t482) ++ t492) ++ x14_68).toList) = true := bne_iff_ne.mpr c101
                                                obtain rfl := Option.some.inj H
                                                have hcz106_0 : wc.cell? ⟨gb490, 0, none⟩ = some (.string t481) := (blk_cell BK490.out 0).trans rfl
                                                have hcz106_1 : wc.cell? ⟨gb490, 1, none⟩ = some (.string t482) := (blk_cell BK490.out 1).trans rfl
                                                have hcz106_2 : wc.cell? ⟨gb490, 2, none⟩ = some (.string t483) := (blk_cell BK490.out 2).trans rfl
                                                have hcz106_3 : wc.cell? ⟨gb490, 3, none⟩ = some (.string t484) := (blk_cell BK490.out 3).trans rfl
                                                have hcz106_4 : wc.cell? ⟨gb490, 4, none⟩ = some (.string t485) := (blk_cell BK490.out 4).trans rfl
                                                have hcz106_5 : wc.cell? ⟨gb490, 5, none⟩ = some (.string t486) := (blk_cell BK490.out 5).trans rfl
                                                have hcz106_6 : wc.cell? ⟨gb490, 6, none⟩ = some (.string t487) := (blk_cell BK490.out 6).trans rfl
                                                have hcz106_7 : wc.cell? ⟨gb490, 7, none⟩ = some (.string t488) := (blk_cell BK490.out 7).trans rfl
                                                have hfz106_0 := blk_frozen BK490.out 0
                                                have hfz106_1 := blk_frozen BK490.out 1
                                                have hfz106_2 := blk_frozen BK490.out 2
                                                have hfz106_3 := blk_frozen BK490.out 3
                                                have hfz106_4 := blk_frozen BK490.out 4
                                                have hfz106_5 := blk_frozen BK490.out 5
                                                have hfz106_6 := blk_frozen BK490.out 6
                                                have hfz106_7 := blk_frozen BK490.out 7
                                                go_wp2_with (first | ((with_reducible refine gate_callee (f := 22) rfl ?_); refine goesL_ (some 98) rfl rfl Try.func22 (by kernel_rfl) rfl #[.string t483] rfl (by (try simp only [List.map_toArray, List.map_cons, List.map_nil]); first | done | rfl | (simp only [List.length_drop, List.length_take]; rfl)) ?_; (with_reducible refine (impl_QuotedPath.calls kj68 t483 t495 _ A74.out).mono ?_); rintro e w107 ⟨rfl, hb⟩; refine ⟨_, rfl, ?_⟩; have n0_ := Aside0.mk (blk_below (g := gb490) (o := .cells #[.string t481, .string t482, .string t483, .string t484, .string t485, .string t486, .string t487, .string t488] 27 (0, 0)) (by (with_reducible repeat (first | refine blk_drewN ?_ _ | refine blk_drew ?_ | refine blk_alloc ?_ _)); exact BK490.out) hb); have n1_ := Aside0.mk (below_step (by repeat (first | (with_reducible first | exact HB.out | apply below_alloc | apply pw_below_drewN | apply below_drew1 | refine below_set ?_ GE490.out) | exact HB.out)) hb); clear BK490; clear HB; have BK490 := n0_; have HB := n1_; clear n0_ n1_; (try clear hb); (try clear hb2); (try clear hk); (try clear hi); have hcz108_0 : w107.cell? ⟨gb490, 0, none⟩ = some (.string t481) := (blk_cell BK490.out 0).trans rfl; have hcz108_1 : w107.cell? ⟨gb490, 1, none⟩ = some (.string t482) := (blk_cell BK490.out 1).trans rfl; have hcz108_2 : w107.cell? ⟨gb490, 2, none⟩ = some (.string t483) := (blk_cell BK490.out 2).trans rfl; have hcz108_3 : w107.cell? ⟨gb490, 3, none⟩ = some (.string t484) := (blk_cell BK490.out 3).trans rfl; have hcz108_4 : w107.cell? ⟨gb490, 4, none⟩ = some (.string t485) := (blk_cell BK490.out 4).trans rfl; have hcz108_5 : w107.cell? ⟨gb490, 5, none⟩ = some (.string t486) := (blk_cell BK490.out 5).trans rfl; have hcz108_6 : w107.cell? ⟨gb490, 6, none⟩ = some (.string t487) := (blk_cell BK490.out 6).trans rfl; have hcz108_7 : w107.cell? ⟨gb490, 7, none⟩ = some (.string t488) := (blk_cell BK490.out 7).trans rfl; have hfz108_0 := blk_frozen BK490.out 0; have hfz108_1 := blk_frozen BK490.out 1; have hfz108_2 := blk_frozen BK490.out 2; have hfz108_3 := blk_frozen BK490.out 3; have hfz108_4 := blk_frozen BK490.out 4; have hfz108_5 := blk_frozen BK490.out 5; have hfz108_6 := blk_frozen BK490.out 6; have hfz108_7 := blk_frozen BK490.out 7))
                                                any_goals (try (exfalso; have zc94b1 := of_decide_eq_true c94b1; have zc95b1 := of_decide_eq_true c95b1; have zc97b1 := of_decide_eq_true c97b1; have zc98b1 := of_decide_eq_true c98b1; have zc99b1 := of_decide_eq_true c99b1; have zc100b1 := of_decide_eq_true c100b1; omega))
                                                go_ret
                                                exact ⟨by first | rfl | (simp [errW_none, errW_some] <;> rfl) | (simp [*, errW_none, errW_some] <;> rfl), by repeat (first | (with_reducible first | exact HB.out | apply below_alloc | apply pw_below_drewN | apply below_drew1 | refine below_set ?_ GE490.out) | exact HB.out)⟩
                                            · rw [if_neg c100] at H
                                              exact absurd H (by simp)
                                          · rw [if_neg c99] at H
                                            exact absurd H (by simp)
                                        · rw [if_neg c98] at H
                                          exact absurd H (by simp)
                                      · rw [if_neg c97] at H
                                        exact absurd H (by simp)
                                    · rw [if_neg c96] at H
                                      have c96b0 : (t493.toList == (t483.extract (x13_58 : Int).toNat t483.size).toList) = false := beq_eq_false_iff_ne.mpr c96
                                      have c96b1 : (t493.toList != (t483.extract (x13_58 : Int).toNat t483.size).toList) = true := bne_iff_ne.mpr c96
                                      obtain rfl := Option.some.inj H
                                      have hcz109_0 : wc.cell? ⟨gb490, 0, none⟩ = some (.string t481) := (blk_cell BK490.out 0).trans rfl
                                      have hcz109_1 : wc.cell? ⟨gb490, 1, none⟩ = some (.string t482) := (blk_cell BK490.out 1).trans rfl
                                      have hcz109_2 : wc.cell? ⟨gb490, 2, none⟩ = some (.string t483) := (blk_cell BK490.out 2).trans rfl
                                      have hcz109_3 : wc.cell? ⟨gb490, 3, none⟩ = some (.string t484) := (blk_cell BK490.out 3).trans rfl
                                      have hcz109_4 : wc.cell? ⟨gb490, 4, none⟩ = some (.string t485) := (blk_cell BK490.out 4).trans rfl
                                      have hcz109_5 : wc.cell? ⟨gb490, 5, none⟩ = some (.string t486) := (blk_cell BK490.out 5).trans rfl
                                      have hcz109_6 : wc.cell? ⟨gb490, 6, none⟩ = some (.string t487) := (blk_cell BK490.out 6).trans rfl
                                      have hcz109_7 : wc.cell? ⟨gb490, 7, none⟩ = some (.string t488) := (blk_cell BK490.out 7).trans rfl
                                      have hfz109_0 := blk_frozen BK490.out 0
                                      have hfz109_1 := blk_frozen BK490.out 1
                                      have hfz109_2 := blk_frozen BK490.out 2
                                      have hfz109_3 := blk_frozen BK490.out 3
                                      have hfz109_4 := blk_frozen BK490.out 4
                                      have hfz109_5 := blk_frozen BK490.out 5
                                      have hfz109_6 := blk_frozen BK490.out 6
                                      have hfz109_7 := blk_frozen BK490.out 7
                                      go_wp2_with (first | ((with_reducible refine gate_callee (f := 22) rfl ?_); refine goesL_ (some 98) rfl rfl Try.func22 (by kernel_rfl) rfl #[.string t483] rfl (by (try simp only [List.map_toArray, List.map_cons, List.map_nil]); first | done | rfl | (simp only [List.length_drop, List.length_take]; rfl)) ?_; (with_reducible refine (impl_QuotedPath.calls kj68 t483 t495 _ A74.out).mono ?_); rintro e w110 ⟨rfl, hb⟩; refine ⟨_, rfl, ?_⟩; have n0_ := Aside0.mk (blk_below (g := gb490) (o := .cells #[.string t481, .string t482, .string t483, .string t484, .string t485, .string t486, .string t487, .string t488] 27 (0, 0)) (by (with_reducible repeat (first | refine blk_drewN ?_ _ | refine blk_drew ?_ | refine blk_alloc ?_ _)); exact BK490.out) hb); have n1_ := Aside0.mk (below_step (by repeat (first | (with_reducible first | exact HB.out | apply below_alloc | apply pw_below_drewN | apply below_drew1 | refine below_set ?_ GE490.out) | exact HB.out)) hb); clear BK490; clear HB; have BK490 := n0_; have HB := n1_; clear n0_ n1_; (try clear hb); (try clear hb2); (try clear hk); (try clear hi); have hcz111_0 : w110.cell? ⟨gb490, 0, none⟩ = some (.string t481) := (blk_cell BK490.out 0).trans rfl; have hcz111_1 : w110.cell? ⟨gb490, 1, none⟩ = some (.string t482) := (blk_cell BK490.out 1).trans rfl; have hcz111_2 : w110.cell? ⟨gb490, 2, none⟩ = some (.string t483) := (blk_cell BK490.out 2).trans rfl; have hcz111_3 : w110.cell? ⟨gb490, 3, none⟩ = some (.string t484) := (blk_cell BK490.out 3).trans rfl; have hcz111_4 : w110.cell? ⟨gb490, 4, none⟩ = some (.string t485) := (blk_cell BK490.out 4).trans rfl; have hcz111_5 : w110.cell? ⟨gb490, 5, none⟩ = some (.string t486) := (blk_cell BK490.out 5).trans rfl; have hcz111_6 : w110.cell? ⟨gb490, 6, none⟩ = some (.string t487) := (blk_cell BK490.out 6).trans rfl; have hcz111_7 : w110.cell? ⟨gb490, 7, none⟩ = some (.string t488) := (blk_cell BK490.out 7).trans rfl; have hfz111_0 := blk_frozen BK490.out 0; have hfz111_1 := blk_frozen BK490.out 1; have hfz111_2 := blk_frozen BK490.out 2; have hfz111_3 := blk_frozen BK490.out 3; have hfz111_4 := blk_frozen BK490.out 4; have hfz111_5 := blk_frozen BK490.out 5; have hfz111_6 := blk_frozen BK490.out 6; have hfz111_7 := blk_frozen BK490.out 7))
                                      go_ret
                                      exact ⟨by first | rfl | (simp [errW_none, errW_some] <;> rfl) | (simp [*, errW_none, errW_some] <;> rfl), by repeat (first | (with_reducible first | exact HB.out | apply below_alloc | apply pw_below_drewN | apply below_drew1 | refine below_set ?_ GE490.out) | exact HB.out)⟩
                                  · rw [if_neg c95] at H
                                    exact absurd H (by simp)
                                · rw [if_neg c94] at H
                                  exact absurd H (by simp)
        · replace c8 := Bool.eq_false_iff.mpr c8
          subst c8
          have H1 : (some false) = some r := by rw [if_neg (show ¬ (false = true) by decide)] at H; exact H
          clear H
          have H := H1
          clear H1
          obtain rfl := Option.some.inj H
          go_wp2_with (first | ((with_reducible refine gate_callee (f := 12) rfl ?_); refine goesL_ (some 24) rfl rfl Try.func12 (by kernel_rfl) rfl #[] rfl (by (try simp only [List.map_toArray, List.map_cons, List.map_nil]); first | done | rfl | (simp only [List.length_drop, List.length_take]; rfl)) ?_; (with_reducible refine (laws_parses.calls  false _ A7.out).mono ?_); rintro e w112 ⟨rfl, hb⟩; refine ⟨_, rfl, ?_⟩; have n0_ := Aside0.mk (below_step (by repeat (first | (with_reducible first | exact HB.out | apply below_alloc | apply pw_below_drewN | apply below_drew1) | exact HB.out)) hb); clear HB; have HB := n0_; clear n0_; (try clear hb); (try clear hb2); (try clear hk); (try clear hi)))
          go_ret
          exact ⟨by first | rfl | (simp [errW_none, errW_some] <;> rfl) | (simp [*, errW_none, errW_some] <;> rfl), by repeat (first | (with_reducible first | exact HB.out | apply below_alloc | apply pw_below_drewN | apply below_drew1) | exact HB.out)⟩
def laws_FnUriLast.Pure : Prop := ∀ (a0 : ByteArray) (a1 : ByteArray) (a2 : Bool), a0.size ≤ 140737488351232 → a1.size ≤ 140737488351232 → ∃ k, laws_FnUriLast.f k a0 a1 a2 = some true
theorem laws_FnUriLast.walk (P : laws_FnUriLast.Pure) (a0 : ByteArray) (a1 : ByteArray) (a2 : Bool) (w : World) (w0 : a0.size ≤ 140737488351232) (w1 : a1.size ≤ 140737488351232) :
    Calls Try.prog 8 #[.string a0, .string a1, .bool a2] w fun e w' => e = .returned (.bool true) ∧ Below w.heap.size w w' := by
  obtain ⟨k, h⟩ := P a0 a1 a2 w0 w1
  refine (laws_FnUriLast.calls k a0 a1 a2 true w h).mono ?_
  rintro e w' ⟨rfl, hd⟩
  exact ⟨rfl, hd⟩
end Go.Proofs.Ytbkeakeldegkeaa.Q
end
