-- Written by a program of this session out of the translation, with the kit's printer. Not trusted: Lean checks it.
import Derived.Test.YtjklempjljikpaaQ0
import Derived.Test.YtjklempjljikpaaQ10
namespace Go.Proofs.Ytjklempjljikpaa.Q
open Go.RowKit Go.Proofs.YtjklempjljikpaaW.PrintWords Go.Proofs.YtjklempjljikpaaW.PrintLast Go.Proofs.YtjklempjljikpaaW.PrintMore
attribute [local go_sem] max2_int min2_int max_two min_two max_three min_three max_four min_four   -- for this text's walks alone
set_option linter.unusedVariables false
set_option linter.unusedSimpArgs false

/-! ### impl_CleanPath: function 16 -/
def impl_CleanPath.f (a0 : ByteArray) : Option (ByteArray) := (hertzproto_ZzPath.f a0).bind fun t169 => (some t169)
set_option maxHeartbeats 8000000 in
set_option maxRecDepth 100000 in
theorem impl_CleanPath.calls (a0 : ByteArray) (r : ByteArray) (w : World) (h : impl_CleanPath.f a0 = some r) :
    Calls Try.prog 16 #[.string a0] w fun e w' => e = .returned (.string r) ∧ Below w.heap.size w w' := by
  have HB := Aside0.mk (Below.refl w.heap.size w)
  have H : ((hertzproto_ZzPath.f a0).bind fun t169 => (some t169)) = some r := h
  clear h
  replace H := Option.bind_eq_some_iff.mp H
  obtain ⟨t169, A20, H⟩ := H
  replace H : (some t169) = some r := H
  have A2 := Aside0.mk A20
  clear A20
  obtain rfl := Option.some.inj H
  go_enter Try.func16, Try.ntmps16
  go_wp2_with (first | ((with_reducible refine gate_callee (f := 36) rfl ?_); refine goesL_ (some 4) rfl rfl Try.func36 (by kernel_rfl) rfl #[.string a0] rfl (by (try simp only [List.map_toArray, List.map_cons, List.map_nil]); first | done | rfl | (simp only [List.length_drop, List.length_take]; rfl)) ?_; (with_reducible refine (hertzproto_ZzPath.calls a0 t169 _ A2.out).mono ?_); rintro e w3 ⟨rfl, hb⟩; refine ⟨_, rfl, ?_⟩; have n0_ := Aside0.mk (below_step (by repeat (first | (with_reducible first | exact HB.out | apply below_alloc | apply pw_below_drewN | apply below_drew1) | exact HB.out)) hb); clear HB; have HB := n0_; clear n0_; (try clear hb); (try clear hb2); (try clear hk); (try clear hi)))
  go_ret
  exact ⟨by first | rfl | (simp [errW_none, errW_some] <;> rfl) | (simp [*, errW_none, errW_some] <;> rfl), by repeat (first | (with_reducible first | exact HB.out | apply below_alloc | apply pw_below_drewN | apply below_drew1) | exact HB.out)⟩

/-! ### laws_cleans: function 13 -/
def laws_cleans.f  : Option (Bool) := (impl_CleanPath.f (⟨#[47, 97, 47, 46, 46, 47, 98]⟩ : ByteArray)).bind fun t170 => (if t170.toList = ([47, 98] : List UInt8) then ((impl_CleanPath.f (⟨#[97]⟩ : ByteArray)).bind fun t171 => (some (t171.toList == ([47, 97] : List UInt8)))) else (some false))
set_option maxHeartbeats 8000000 in
set_option maxRecDepth 100000 in
theorem laws_cleans.calls  (r : Bool) (w : World) (h : laws_cleans.f  = some r) :
    Calls Try.prog 13 #[] w fun e w' => e = .returned (.bool r) ∧ Below w.heap.size w w' := by
  have HB := Aside0.mk (Below.refl w.heap.size w)
  have H : ((impl_CleanPath.f (⟨#[47, 97, 47, 46, 46, 47, 98]⟩ : ByteArray)).bind fun t170 => (if t170.toList = ([47, 98] : List UInt8) then ((impl_CleanPath.f (⟨#[97]⟩ : ByteArray)).bind fun t171 => (some (t171.toList == ([47, 97] : List UInt8)))) else (some false))) = some r := h
  clear h
  replace H := Option.bind_eq_some_iff.mp H
  obtain ⟨t170, A10, H⟩ := H
  replace H : (if t170.toList = ([47, 98] : List UInt8) then ((impl_CleanPath.f (⟨#[97]⟩ : ByteArray)).bind fun t171 => (some (t171.toList == ([47, 97] : List UInt8)))) else (some false)) = some r := H
  have A1 := Aside0.mk A10
  clear A10
  by_cases c2 : t170.toList = ([47, 98] : List UInt8)
  · rw [if_pos c2] at H
    have c2b0 : (t170.toList == ([47, 98] : List UInt8)) = true := beq_iff_eq.mpr c2
    have c2b1 : (t170.toList != ([47, 98] : List UInt8)) = false := bne_eq_false_iff_eq.mpr c2
    clear c2
    replace H := Option.bind_eq_some_iff.mp H
    obtain ⟨t171, A30, H⟩ := H
    replace H : (some (t171.toList == ([47, 97] : List UInt8))) = some r := H
    have A3 := Aside0.mk A30
    clear A30
    obtain rfl := Option.some.inj H
    go_enter Try.func13, Try.ntmps13
    go_wp2_with (first | ((with_reducible refine gate_callee (f := 16) rfl ?_); refine goesL_ (some 1) rfl rfl Try.func16 (by kernel_rfl) rfl #[.string (⟨#[47, 97, 47, 46, 46, 47, 98]⟩ : ByteArray)] rfl (by (try simp only [List.map_toArray, List.map_cons, List.map_nil]); first | done | rfl | (simp only [List.length_drop, List.length_take]; rfl)) ?_; (with_reducible refine (impl_CleanPath.calls (⟨#[47, 97, 47, 46, 46, 47, 98]⟩ : ByteArray) t170 _ A1.out).mono ?_); rintro e w4 ⟨rfl, hb⟩; refine ⟨_, rfl, ?_⟩; have n0_ := Aside0.mk (below_step (by repeat (first | (with_reducible first | exact HB.out | apply below_alloc | apply pw_below_drewN | apply below_drew1) | exact HB.out)) hb); clear HB; have HB := n0_; clear n0_; (try clear hb); (try clear hb2); (try clear hk); (try clear hi)) | (go_at_call 16; (with_reducible refine (impl_CleanPath.calls (⟨#[97]⟩ : ByteArray) t171 _ A3.out).mono ?_); rintro e w5 ⟨rfl, hb⟩; have n0_ := Aside0.mk (below_step (by repeat (first | (with_reducible first | exact HB.out | apply below_alloc | apply pw_below_drewN | apply below_drew1) | exact HB.out)) hb); clear HB; have HB := n0_; clear n0_; (try clear hb); (try clear hb2); (try clear hk); (try clear hi)))
    go_ret
    exact ⟨by first | rfl | (simp [errW_none, errW_some] <;> rfl) | (simp [*, errW_none, errW_some] <;> rfl), by repeat (first | (with_reducible first | exact HB.out | apply below_alloc | apply pw_below_drewN | apply below_drew1) | exact HB.out)⟩
  · rw [if_neg c2] at H
    have c2b0 : (t170.toList == ([47, 98] : List UInt8)) = false := beq_eq_false_iff_ne.mpr c2
    have c2b1 : (t170.toList != ([47, 98] : List UInt8)) = true := bne_iff_ne.mpr c2
    obtain rfl := Option.some.inj H
    go_enter Try.func13, Try.ntmps13
    go_wp2_with (first | ((with_reducible refine gate_callee (f := 16) rfl ?_); refine goesL_ (some 1) rfl rfl Try.func16 (by kernel_rfl) rfl #[.string (⟨#[47, 97, 47, 46, 46, 47, 98]⟩ : ByteArray)] rfl (by (try simp only [List.map_toArray, List.map_cons, List.map_nil]); first | done | rfl | (simp only [List.length_drop, List.length_take]; rfl)) ?_; (with_reducible refine (impl_CleanPath.calls (⟨#[47, 97, 47, 46, 46, 47, 98]⟩ : ByteArray) t170 _ A1.out).mono ?_); rintro e w6 ⟨rfl, hb⟩; refine ⟨_, rfl, ?_⟩; have n0_ := Aside0.mk (below_step (by repeat (first | (with_reducible first | exact HB.out | apply below_alloc | apply pw_below_drewN | apply below_drew1) | exact HB.out)) hb); clear HB; have HB := n0_; clear n0_; (try clear hb); (try clear hb2); (try clear hk); (try clear hi)))
    go_ret
    exact ⟨by first | rfl | (simp [errW_none, errW_some] <;> rfl) | (simp [*, errW_none, errW_some] <;> rfl), by repeat (first | (with_reducible first | exact HB.out | apply below_alloc | apply pw_below_drewN | apply below_drew1) | exact HB.out)⟩

end Go.Proofs.Ytjklempjljikpaa.Q
