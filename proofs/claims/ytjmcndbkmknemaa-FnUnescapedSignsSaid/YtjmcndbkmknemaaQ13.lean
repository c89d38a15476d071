-- Written by a program of this session out of the translation, with the kit's printer. Not trusted: Lean checks it.
import Derived.Test.YtjmcndbkmknemaaQ0
import Derived.Test.YtjmcndbkmknemaaQ10
import Derived.Test.YtjmcndbkmknemaaQ12
namespace Go.Proofs.Ytjmcndbkmknemaa.Q
open Go.RowKit Go.Proofs.YtjmcndbkmknemaaW.PrintWords Go.Proofs.YtjmcndbkmknemaaW.PrintLast Go.Proofs.YtjmcndbkmknemaaW.PrintMore
attribute [local go_sem] max2_int min2_int max_two min_two max_three min_three max_four min_four   -- for this text's walks alone
set_option linter.unusedVariables false
set_option linter.unusedSimpArgs false

/-! ### laws_FnUnescapedSigns: function 7 -/
def laws_FnUnescapedSigns.l0 : Nat → ByteArray → ByteArray → Int → Int → Option (Bool)
  | 0, _, _, _, _ => none
  | k + 1, x0, x3, x15, x16 => if x16 < x15 then (if 0 ≤ x16 then (if x16 < (x0.size : Int) then (if (bt x0 x16) = 92 then (laws_FnUnescapedSigns.l0 k x0 x3 x15 (wrap64 (x16 + 1))) else (if x16 ≤ (wrap64 (x16 + 1)) then (if (wrap64 (x16 + 1)) ≤ (x0.size : Int) then (if x3.size + ((min ((wrap64 (x16 + 1)) : Int).toNat x0.size - (x16 : Int).toNat)) ≤ 9223372036854775807 then (laws_FnUnescapedSigns.l0 k x0 (x3 ++ (x0.extract (x16 : Int).toNat ((wrap64 (x16 + 1)) : Int).toNat)) x15 (wrap64 (x16 + 1))) else (none)) else (none)) else (none))) else (none)) else (none)) else ((impl_Unescaped.f k x0).bind fun t175 => (some (t175.toList == x3.toList)))
def laws_FnUnescapedSigns.f (k : Nat) (a0 : ByteArray) : Option (Bool) := if (a0.size : Int) > 2147483647 then (some true) else ((impl_Unescaped.f k (⟨#[97, 92, 58, 98]⟩ : ByteArray)).bind fun t170 => (if t170.toList = ([97, 58, 98] : List UInt8) then ((laws_short.f k (([a0] : List ByteArray))).bind fun t174 => (if t174 = true then (laws_FnUnescapedSigns.l0 k a0 (⟨#[]⟩ : ByteArray) (a0.size : Int) 0) else (some true))) else (some false)))
theorem laws_FnUnescapedSigns.mono_l : ∀ k, (∀ y0 y1 y2 y3, LeO (laws_FnUnescapedSigns.l0 k y0 y1 y2 y3) (laws_FnUnescapedSigns.l0 (k + 1) y0 y1 y2 y3))
  | 0 => fun _ _ _ _ r h => by simp [laws_FnUnescapedSigns.l0] at h
  | k + 1 => by
    have ih0 := laws_FnUnescapedSigns.mono_l k
    · intro y0 y1 y2 y3
      unfold laws_FnUnescapedSigns.l0
      repeat' first
      | (with_reducible exact ih0 _ _ _ _)
      | (with_reducible exact impl_Unescaped.mono _ _)
      | (with_reducible exact laws_short.mono _ _)
      | (with_reducible exact LeO.refl _)
      | (with_reducible exact LeO.none _)
      | (with_reducible refine LeO.ite ?_ ?_)
      | (with_reducible refine LeO.bind ?_ (fun _ => ?_))
      | exact ih0 _ _ _ _
      | exact impl_Unescaped.mono _ _
      | exact laws_short.mono _ _
      | exact LeO.none _
      | refine LeO.ite ?_ ?_
      | refine LeO.bind ?_ (fun _ => ?_)
theorem laws_FnUnescapedSigns.mono : ∀ a0 k, LeO (laws_FnUnescapedSigns.f k a0) (laws_FnUnescapedSigns.f (k + 1) a0) := by
  intro a0 k
  have ih0 := laws_FnUnescapedSigns.mono_l k
  unfold laws_FnUnescapedSigns.f
  repeat' first
      | (with_reducible exact ih0 _ _ _ _)
      | (with_reducible exact impl_Unescaped.mono _ _)
      | (with_reducible exact laws_short.mono _ _)
      | (with_reducible exact LeO.refl _)
      | (with_reducible exact LeO.none _)
      | (with_reducible refine LeO.ite ?_ ?_)
      | (with_reducible refine LeO.bind ?_ (fun _ => ?_))
      | exact ih0 _ _ _ _
      | exact impl_Unescaped.mono _ _
      | exact laws_short.mono _ _
      | exact LeO.none _
      | refine LeO.ite ?_ ?_
      | refine LeO.bind ?_ (fun _ => ?_)
set_option maxHeartbeats 8000000 in
set_option maxRecDepth 100000 in
theorem laws_FnUnescapedSigns.calls (k : Nat) (a0 : ByteArray) (r : Bool) (w : World) (h : laws_FnUnescapedSigns.f k a0 = some r) :
    Calls Try.prog 7 #[.string a0] w fun e w' => e = .returned (.bool r) ∧ Below w.heap.size w w' := by
  have HB := Aside0.mk (Below.refl w.heap.size w)
  have H : (if (a0.size : Int) > 2147483647 then (some true) else ((impl_Unescaped.f k (⟨#[97, 92, 58, 98]⟩ : ByteArray)).bind fun t170 => (if t170.toList = ([97, 58, 98] : List UInt8) then ((laws_short.f k (([a0] : List ByteArray))).bind fun t174 => (if t174 = true then (laws_FnUnescapedSigns.l0 k a0 (⟨#[]⟩ : ByteArray) (a0.size : Int) 0) else (some true))) else (some false)))) = some r := h
  clear h
  by_cases c2 : (a0.size : Int) > 2147483647
  · rw [if_pos c2] at H
    have c2b0 : decide (2147483647 < (a0.size : Int)) = true := decide_eq_true c2
    have c2b1 : decide (2147483647 < a0.size) = true := decide_eq_true (by omega)
    clear c2
    obtain rfl := Option.some.inj H
    go_enter Try.func7, Try.ntmps7
    go_wp2
    go_ret
    exact ⟨by first | rfl | (simp [errW_none, errW_some] <;> rfl) | (simp [*, errW_none, errW_some] <;> rfl), by repeat (first | (with_reducible first | exact HB.out | apply below_alloc | apply pw_below_drewN | apply below_drew1) | exact HB.out)⟩
  · rw [if_neg c2] at H
    have c2b0 : decide (2147483647 < (a0.size : Int)) = false := decide_eq_false c2
    have c2b1 : decide (2147483647 < a0.size) = false := decide_eq_false (by omega)
    clear c2
    replace H := Option.bind_eq_some_iff.mp H
    obtain ⟨t170, A30, H⟩ := H
    replace H : (if t170.toList = ([97, 58, 98] : List UInt8) then ((laws_short.f k (([a0] : List ByteArray))).bind fun t174 => (if t174 = true then (laws_FnUnescapedSigns.l0 k a0 (⟨#[]⟩ : ByteArray) (a0.size : Int) 0) else (some true))) else (some false)) = some r := H
    have A3 := Aside0.mk A30
    clear A30
    by_cases c4 : t170.toList = ([97, 58, 98] : List UInt8)
    · rw [if_pos c4] at H
      have c4b0 : (t170.toList == ([97, 58, 98] : List UInt8)) = true := beq_iff_eq.mpr c4
      have c4b1 : (t170.toList != ([97, 58, 98] : List UInt8)) = false := bne_eq_false_iff_eq.mpr c4
      clear c4
      obtain ⟨y171, hy171⟩ : ∃ y_ : List ByteArray, y_ = (([a0] : List ByteArray)) := ⟨_, rfl⟩
      replace H : ((laws_short.f k y171).bind fun t174 => (if t174 = true then (laws_FnUnescapedSigns.l0 k a0 (⟨#[]⟩ : ByteArray) (a0.size : Int) 0) else (some true))) = some r := by first | (rw [hy171]; with_reducible exact H) | (have H2_ := (Option.bind_some _ _).symm.trans H; rw [hy171]; with_reducible exact H2_) | (have H2_ := (Option.bind_some _ _).symm.trans H; with_reducible exact H2_) | with_reducible exact H | (rw [hy171]; exact H) | exact H
      have Ny171 := Aside0.mk hy171
      clear hy171
      replace H := Option.bind_eq_some_iff.mp H
      obtain ⟨t174, A50, H⟩ := H
      replace H : (if t174 = true then (laws_FnUnescapedSigns.l0 k a0 (⟨#[]⟩ : ByteArray) (a0.size : Int) 0) else (some true)) = some r := H
      have A5 := Aside0.mk A50
      clear A50
      by_cases c6 : t174 = true
      · subst c6
        have H1 : (laws_FnUnescapedSigns.l0 k a0 (⟨#[]⟩ : ByteArray) (a0.size : Int) 0) = some r := by rw [if_pos rfl] at H; exact H
        clear H
        have H := H1
        clear H1
        have H' := Aside0.mk H
        clear H
        go_enter Try.func7, Try.ntmps7
        go_wp2_with (first | ((with_reducible refine gate_callee (f := 24) rfl ?_); refine goesL_ (some 8) rfl rfl Try.func24 (by kernel_rfl) rfl #[.string (⟨#[97, 92, 58, 98]⟩ : ByteArray)] rfl (by (try simp only [List.map_toArray, List.map_cons, List.map_nil]); first | done | rfl | (simp only [List.length_drop, List.length_take]; rfl)) ?_; (with_reducible refine (impl_Unescaped.calls k (⟨#[97, 92, 58, 98]⟩ : ByteArray) t170 _ A3.out).mono ?_); rintro e w7 ⟨rfl, hb⟩; refine ⟨_, rfl, ?_⟩; have n0_ := Aside0.mk (below_step (by repeat (first | (with_reducible first | exact HB.out | apply below_alloc | apply pw_below_drewN | apply below_drew1) | exact HB.out)) hb); clear HB; have HB := n0_; clear n0_; (try clear hb); (try clear hb2); (try clear hk); (try clear hi)) | ((with_reducible refine gate_dst (N := 11) rfl ?_); refine Kd.R_lit Kd.string _ 9 ?hg (N := 11) ?hd (xs := ([a0] : List ByteArray)) (inner := [.string a0]) (ok := fun _ => True) (okp := fun _ => True) ?hr ?hp (fun _ hk => hk) trivial (Below.refl _ _) (Nat.le_refl _) (by simp) ?_; (case hd => rfl); (case hg => rfl); (case hr => first | (go_simp; done) | (go_simp; rfl)); (case hp => exact (Reps.one (show Kd.M Kd.string _ _ _ a0 [.string a0] from rfl) (Reps.none _ _))); intro v172 w8 ho9 hb hg_ hnew_; clear hg_ hnew_; (first | rw [← Ny171.out] at ho9 | (simp only [Int.reduceToNat] at ho9; rw [← Ny171.out] at ho9)); have n0_ := Aside0.mk (Kd.R_lower ho9 (below_size (by repeat (first | (with_reducible first | exact HB.out | apply below_alloc | apply pw_below_drewN | apply below_drew1) | exact HB.out)))); have n1_ := Aside0.mk (below_step (by repeat (first | (with_reducible first | exact HB.out | apply below_alloc | apply pw_below_drewN | apply below_drew1) | exact HB.out)) hb); clear HB; have HO173 := n0_; have HB := n1_; clear n0_ n1_; clear hb ho9; obtain ⟨Ao10, co10, eo10⟩ := Kd.R_slice HO173.out; subst eo10) | ((with_reducible refine gate_callee (f := 23) rfl ?_); refine goesL_ (some 12) rfl rfl Try.func23 (by kernel_rfl) rfl #[.slice Ao10 y171.length co10] rfl (by (try simp only [List.map_toArray, List.map_cons, List.map_nil]); first | done | rfl | (simp only [List.length_drop, List.length_take]; rfl)) ?_; (with_reducible refine (laws_short.calls k _ _ y171 true _ ?side1 ?side2 A5.out).mono ?_); (case side1 => repeat (first | exact (Kd.R_reads' HO173.out).2.2 | (with_reducible refine Kd.C_alloc ?_ _) | (with_reducible refine Kd.C_drewN ?_ _) | (with_reducible refine Kd.C_drew ?_))); (case side2 => exact (Kd.R_reads' HO173.out).2.1); rintro e w' ⟨rfl, ⟨nd, rfl⟩⟩; refine ⟨_, rfl, ?_⟩))
        go_loopg [3, 16] k (fun kq v3 v16 w' => ∃ (x3_1 : ByteArray) (x16_1 : Int), v3 = .string x3_1 ∧ v16 = .int .i64 x16_1 ∧ Aside0 (laws_FnUnescapedSigns.l0 kq a0 x3_1 (a0.size : Int) x16_1 = some r) ∧ Aside0 (kq ≤ k) ∧ Aside0 (Below w.heap.size w w'))
        case atStart => exact ⟨((⟨#[]⟩ : ByteArray)), (0), (by first | rfl | (simp; done) | (simp [*]; done) | (simp [Go.Proofs.YtjmcndbkmknemaaX.isEmpty_ne]; done)), (by first | rfl | (simp; done) | (simp [*]; done) | (simp [Go.Proofs.YtjmcndbkmknemaaX.isEmpty_ne]; done)), H', ⟨Nat.le_refl _⟩, ⟨by repeat (first | (with_reducible first | exact HB.out | apply below_alloc | apply pw_below_drewN | apply below_drew1) | exact HB.out)⟩⟩
        case round =>
          clear H'
          try clear c2
          try clear c2b0
          try clear c2b1
          try clear p2
          try clear c4
          try clear c4b0
          try clear c4b1
          try clear c6
          try clear c7
          obtain ⟨x3_1, x16_1, rfl, rfl, HA, HK1, HB⟩ := hrel
          cases gk with
          | zero => exact absurd HA.out (by simp [laws_FnUnescapedSigns.l0])
          | succ k1 =>
            have H := HA.out
            clear HA
            simp only [laws_FnUnescapedSigns.l0] at H
            by_cases c11 : x16_1 < (a0.size : Int)
            · rw [if_pos c11] at H
              have c11b0 : decide (x16_1 < (a0.size : Int)) = true := decide_eq_true c11
              clear c11
              by_cases c12 : 0 ≤ x16_1
              · rw [if_pos c12] at H
                have c12b0 : decide (0 ≤ x16_1) = true := decide_eq_true c12
                clear c12
                by_cases c13 : x16_1 < (a0.size : Int)
                · rw [if_pos c13] at H
                  have c13b0 : decide (x16_1 < (a0.size : Int)) = true := decide_eq_true c13
                  clear c13
                  by_cases c15 : (bt a0 x16_1) = 92
                  · rw [if_pos c15] at H
                    have c15b0 : ((bt a0 x16_1) == 92) = true := beq_iff_eq.mpr c15
                    have c15b1 : ((bt a0 x16_1) != 92) = false := bne_eq_false_iff_eq.mpr c15
                    clear c15
                    have H' := Aside0.mk H
                    clear H
                    have p14 : 0 ≤ (x16_1 : Int) := of_decide_eq_true (by first | (with_reducible assumption) | assumption)
                    have q14 : x16_1 < (a0.size : Int) := of_decide_eq_true (by first | (with_reducible assumption) | assumption)
                    have hx14 := bt_at a0 x16_1
                    replace p14 := eq_true p14
                    replace q14 := eq_true q14
                    go_wp2
                    go_roundg k1
                    case measure => have := HK1.out; omega
                    case rel => exact ⟨(x3_1), (wrap64 (x16_1 + 1)), (by first | rfl | (simp; done) | (simp [*]; done) | (simp [Go.Proofs.YtjmcndbkmknemaaX.isEmpty_ne]; done)), (by first | rfl | (simp; done) | (simp [*]; done) | (simp [Go.Proofs.YtjmcndbkmknemaaX.isEmpty_ne]; done)), H', ⟨by have := HK1.out; omega⟩, ⟨by repeat (first | (with_reducible first | exact HB.out | apply below_alloc | apply pw_below_drewN | apply below_drew1) | exact HB.out)⟩⟩
                  · rw [if_neg c15] at H
                    have c15b0 : ((bt a0 x16_1) == 92) = false := beq_eq_false_iff_ne.mpr c15
                    have c15b1 : ((bt a0 x16_1) != 92) = true := bne_iff_ne.mpr c15
                    have c16b0 := eq_true (of_decide_eq_true (by first | (with_reducible assumption) | assumption) : 0 ≤ x16_1)
                    by_cases c17 : x16_1 ≤ (wrap64 (x16_1 + 1))
                    · rw [if_pos c17] at H
                      have c17b0 := eq_true c17
                      have c17b1 : decide (x16_1 ≤ (wrap64 (x16_1 + 1))) = true := decide_eq_true c17
                      by_cases c18 : (wrap64 (x16_1 + 1)) ≤ (a0.size : Int)
                      · rw [if_pos c18] at H
                        have c18b0 := eq_true c18
                        have c18b1 : decide ((wrap64 (x16_1 + 1)) ≤ (a0.size : Int)) = true := decide_eq_true c18
                        by_cases c19 : x3_1.size + ((min ((wrap64 (x16_1 + 1)) : Int).toNat a0.size - (x16_1 : Int).toNat)) ≤ 9223372036854775807
                        · rw [if_pos c19] at H
                          have c19b0 := eq_true c19
                          have c19b1 : decide (x3_1.size + ((min ((wrap64 (x16_1 + 1)) : Int).toNat a0.size - (x16_1 : Int).toNat)) ≤ 9223372036854775807) = true := decide_eq_true c19
                          try have c19b2 : (9223372036854775807 < x3_1.size + ((min ((wrap64 (x16_1 + 1)) : Int).toNat a0.size - (x16_1 : Int).toNat))) = False := eq_false (Nat.not_lt.2 c19)
                          have H' := Aside0.mk H
                          clear H
                          have p14 : 0 ≤ (x16_1 : Int) := of_decide_eq_true (by first | (with_reducible assumption) | assumption)
                          have q14 : x16_1 < (a0.size : Int) := of_decide_eq_true (by first | (with_reducible assumption) | assumption)
                          have hx14 := bt_at a0 x16_1
                          replace p14 := eq_true p14
                          replace q14 := eq_true q14
                          go_wp2
                          any_goals (try (exfalso; have zc11b0 := of_decide_eq_true c11b0; have zc12b0 := of_decide_eq_true c12b0; have zc13b0 := of_decide_eq_true c13b0; have zc17b1 := of_decide_eq_true c17b1; have zc18b1 := of_decide_eq_true c18b1; have zc19b1 := of_decide_eq_true c19b1; omega))
                          go_roundg k1
                          case measure => have := HK1.out; omega
                          case rel => exact ⟨(x3_1 ++ (a0.extract (x16_1 : Int).toNat ((wrap64 (x16_1 + 1)) : Int).toNat)), (wrap64 (x16_1 + 1)), (by first | rfl | (simp; done) | (simp [*]; done) | (simp [Go.Proofs.YtjmcndbkmknemaaX.isEmpty_ne]; done)), (by first | rfl | (simp; done) | (simp [*]; done) | (simp [Go.Proofs.YtjmcndbkmknemaaX.isEmpty_ne]; done)), H', ⟨by have := HK1.out; omega⟩, ⟨by repeat (first | (with_reducible first | exact HB.out | apply below_alloc | apply pw_below_drewN | apply below_drew1) | exact HB.out)⟩⟩
                        · rw [if_neg c19] at H
                          exact absurd H (by simp)
                      · rw [if_neg c18] at H
                        exact absurd H (by simp)
                    · rw [if_neg c17] at H
                      exact absurd H (by simp)
                · rw [if_neg c13] at H
                  exact absurd H (by simp)
              · rw [if_neg c12] at H
                exact absurd H (by simp)
            · rw [if_neg c11] at H
              have c11b0 : decide (x16_1 < (a0.size : Int)) = false := decide_eq_false c11
              clear c11
              replace H := Option.bind_eq_some_iff.mp H
              obtain ⟨t175, A200, H⟩ := H
              replace H : (some (t175.toList == x3_1.toList)) = some r := H
              have A20 := Aside0.mk A200
              clear A200
              obtain rfl := Option.some.inj H
              go_wp2_with (first | ((with_reducible refine gate_callee (f := 24) rfl ?_); refine goesL_ (some 32) rfl rfl Try.func24 (by kernel_rfl) rfl #[.string a0] rfl (by (try simp only [List.map_toArray, List.map_cons, List.map_nil]); first | done | rfl | (simp only [List.length_drop, List.length_take]; rfl)) ?_; (with_reducible refine (impl_Unescaped.calls k1 a0 t175 _ A20.out).mono ?_); rintro e w21 ⟨rfl, hb⟩; refine ⟨_, rfl, ?_⟩; have n0_ := Aside0.mk (below_step (by repeat (first | (with_reducible first | exact HB.out | apply below_alloc | apply pw_below_drewN | apply below_drew1) | exact HB.out)) hb); clear HB; have HB := n0_; clear n0_; (try clear hb); (try clear hb2); (try clear hk); (try clear hi)))
              go_ret
              exact ⟨by first | rfl | (simp [errW_none, errW_some] <;> rfl) | (simp [*, errW_none, errW_some] <;> rfl), by repeat (first | (with_reducible first | exact HB.out | apply below_alloc | apply pw_below_drewN | apply below_drew1) | exact HB.out)⟩
      · replace c6 := Bool.eq_false_iff.mpr c6
        subst c6
        have H1 : (some true) = some r := by rw [if_neg (show ¬ (false = true) by decide)] at H; exact H
        clear H
        have H := H1
        clear H1
        obtain rfl := Option.some.inj H
        go_enter Try.func7, Try.ntmps7
        go_wp2_with (first | ((with_reducible refine gate_callee (f := 24) rfl ?_); refine goesL_ (some 8) rfl rfl Try.func24 (by kernel_rfl) rfl #[.string (⟨#[97, 92, 58, 98]⟩ : ByteArray)] rfl (by (try simp only [List.map_toArray, List.map_cons, List.map_nil]); first | done | rfl | (simp only [List.length_drop, List.length_take]; rfl)) ?_; (with_reducible refine (impl_Unescaped.calls k (⟨#[97, 92, 58, 98]⟩ : ByteArray) t170 _ A3.out).mono ?_); rintro e w22 ⟨rfl, hb⟩; refine ⟨_, rfl, ?_⟩; have n0_ := Aside0.mk (below_step (by repeat (first | (with_reducible first | exact HB.out | apply below_alloc | apply pw_below_drewN | apply below_drew1) | exact HB.out)) hb); clear HB; have HB := n0_; clear n0_; (try clear hb); (try clear hb2); (try clear hk); (try clear hi)) | ((with_reducible refine gate_dst (N := 11) rfl ?_); refine Kd.R_lit Kd.string _ 9 ?hg (N := 11) ?hd (xs := ([a0] : List ByteArray)) (inner := [.string a0]) (ok := fun _ => True) (okp := fun _ => True) ?hr ?hp (fun _ hk => hk) trivial (Below.refl _ _) (Nat.le_refl _) (by simp) ?_; (case hd => rfl); (case hg => rfl); (case hr => first | (go_simp; done) | (go_simp; rfl)); (case hp => exact (Reps.one (show Kd.M Kd.string _ _ _ a0 [.string a0] from rfl) (Reps.none _ _))); intro v172 w23 ho24 hb hg_ hnew_; clear hg_ hnew_; (first | rw [← Ny171.out] at ho24 | (simp only [Int.reduceToNat] at ho24; rw [← Ny171.out] at ho24)); have n0_ := Aside0.mk (Kd.R_lower ho24 (below_size (by repeat (first | (with_reducible first | exact HB.out | apply below_alloc | apply pw_below_drewN | apply below_drew1) | exact HB.out)))); have n1_ := Aside0.mk (below_step (by repeat (first | (with_reducible first | exact HB.out | apply below_alloc | apply pw_below_drewN | apply below_drew1) | exact HB.out)) hb); clear HB; have HO173 := n0_; have HB := n1_; clear n0_ n1_; clear hb ho24; obtain ⟨Ao25, co25, eo25⟩ := Kd.R_slice HO173.out; subst eo25) | ((with_reducible refine gate_callee (f := 23) rfl ?_); refine goesL_ (some 12) rfl rfl Try.func23 (by kernel_rfl) rfl #[.slice Ao25 y171.length co25] rfl (by (try simp only [List.map_toArray, List.map_cons, List.map_nil]); first | done | rfl | (simp only [List.length_drop, List.length_take]; rfl)) ?_; (with_reducible refine (laws_short.calls k _ _ y171 false _ ?side1 ?side2 A5.out).mono ?_); (case side1 => repeat (first | exact (Kd.R_reads' HO173.out).2.2 | (with_reducible refine Kd.C_alloc ?_ _) | (with_reducible refine Kd.C_drewN ?_ _) | (with_reducible refine Kd.C_drew ?_))); (case side2 => exact (Kd.R_reads' HO173.out).2.1); rintro e w' ⟨rfl, ⟨nd, rfl⟩⟩; refine ⟨_, rfl, ?_⟩))
        go_ret
        exact ⟨by first | rfl | (simp [errW_none, errW_some] <;> rfl) | (simp [*, errW_none, errW_some] <;> rfl), by repeat (first | (with_reducible first | exact HB.out | apply below_alloc | apply pw_below_drewN | apply below_drew1) | exact HB.out)⟩
    · rw [if_neg c4] at H
      have c4b0 : (t170.toList == ([97, 58, 98] : List UInt8)) = false := beq_eq_false_iff_ne.mpr c4
      have c4b1 : (t170.toList != ([97, 58, 98] : List UInt8)) = true := bne_iff_ne.mpr c4
      obtain rfl := Option.some.inj H
      go_enter Try.func7, Try.ntmps7
      go_wp2_with (first | ((with_reducible refine gate_callee (f := 24) rfl ?_); refine goesL_ (some 8) rfl rfl Try.func24 (by kernel_rfl) rfl #[.string (⟨#[97, 92, 58, 98]⟩ : ByteArray)] rfl (by (try simp only [List.map_toArray, List.map_cons, List.map_nil]); first | done | rfl | (simp only [List.length_drop, List.length_take]; rfl)) ?_; (with_reducible refine (impl_Unescaped.calls k (⟨#[97, 92, 58, 98]⟩ : ByteArray) t170 _ A3.out).mono ?_); rintro e w26 ⟨rfl, hb⟩; refine ⟨_, rfl, ?_⟩; have n0_ := Aside0.mk (below_step (by repeat (first | (with_reducible first | exact HB.out | apply below_alloc | apply pw_below_drewN | apply below_drew1) | exact HB.out)) hb); clear HB; have HB := n0_; clear n0_; (try clear hb); (try clear hb2); (try clear hk); (try clear hi)))
      go_ret
      exact ⟨by first | rfl | (simp [errW_none, errW_some] <;> rfl) | (simp [*, errW_none, errW_some] <;> rfl), by repeat (first | (with_reducible first | exact HB.out | apply below_alloc | apply pw_below_drewN | apply below_drew1) | exact HB.out)⟩

/-- THE ONE PURE STATEMENT of laws_FnUnescapedSigns: yours. -/
def laws_FnUnescapedSigns.Pure : Prop := ∀ (a0 : ByteArray), a0.size ≤ 140737488351232 → ∃ k, laws_FnUnescapedSigns.f k a0 = some true
theorem laws_FnUnescapedSigns.walk (P : laws_FnUnescapedSigns.Pure) (a0 : ByteArray) (w : World) (w0 : a0.size ≤ 140737488351232) :
    Calls Try.prog 7 #[.string a0] w fun e w' => e = .returned (.bool true) ∧ Below w.heap.size w w' := by
  obtain ⟨k, h⟩ := P a0 w0
  refine (laws_FnUnescapedSigns.calls k a0 true w h).mono ?_
  rintro e w' ⟨rfl, hd⟩
  exact ⟨rfl, hd⟩

end Go.Proofs.Ytjmcndbkmknemaa.Q
