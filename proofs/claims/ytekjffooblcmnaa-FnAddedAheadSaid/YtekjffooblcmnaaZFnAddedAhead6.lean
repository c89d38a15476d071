/- FnAddedAhead: the law's function, called with any arguments, returns true and leaves its arguments as they were: every input, no condition. Part 7 of 8. -/
import Derived.Test.YtekjffooblcmnaaZFnAddedAhead0
import Derived.Test.YtekjffooblcmnaaZFnAddedAhead5
set_option linter.unusedVariables false
set_option linter.unusedSimpArgs false
set_option linter.unusedSectionVars false
section
namespace Go.Proofs.Ytekjffooblcmnaa.Q
open Go.RowKit Go.Proofs.YtekjffooblcmnaaW.PrintWords Go.Proofs.YtekjffooblcmnaaW.PrintLast Go.Proofs.YtekjffooblcmnaaW.PrintMore
attribute [local go_sem] max2_int min2_int max_two min_two max_three min_three max_four min_four
set_option linter.unusedVariables false
set_option linter.unusedSimpArgs false
mutual
def laws_FnAddedAhead.j0 : Nat → List ByteArray → Int → Bool → Option (Bool)
  | 0, _, _, _ => none
  | k + 1, x0, x1, x29 => if x29 = true then (some false) else (if x1 < 0 then (laws_FnAddedAhead.j1 k x0 x1 true) else (if x1 > (x0.length : Int) then (laws_FnAddedAhead.j1 k x0 x1 true) else (if (x0.length : Int) > 20 then (laws_FnAddedAhead.j1 k x0 x1 true) else ((laws_short.f k x0).bind fun t116 => (laws_FnAddedAhead.j1 k x0 x1 (!t116))))))
def laws_FnAddedAhead.j1 : Nat → List ByteArray → Int → Bool → Option (Bool)
  | 0, _, _, _ => none
  | k + 1, x0, x1, x47 => if x47 = true then (some true) else ((impl_Added.f x0).bind fun t117 => (if 0 ≤ x1 then (if x1 ≤ (x0.length : Int) then ((impl_Added.f (x0.take (x1 : Int).toNat)).bind fun t121 => (if (t117.length : Int) = (x0.length : Int) then (laws_FnAddedAhead.j2 k x0 t117 t121 ((t121.length : Int) != x1)) else (laws_FnAddedAhead.j2 k x0 t117 t121 true))) else (none)) else (none)))
def laws_FnAddedAhead.j2 : Nat → List ByteArray → List Bool → List Bool → Bool → Option (Bool)
  | 0, _, _, _, _ => none
  | k + 1, x0, x6, x7, x64 => if x64 = true then (some false) else (laws_FnAddedAhead.l0 k x0 x6 x7 (x7.length : Int) 0)
def laws_FnAddedAhead.l0 : Nat → List ByteArray → List Bool → List Bool → Int → Int → Option (Bool)
  | 0, _, _, _, _, _ => none
  | k + 1, x0, x6, x7, x66, x67 => if x67 < x66 then (if 0 ≤ x67 then (if x67 < (x6.length : Int) then (if x67 < (x7.length : Int) then (if ((rdOf false x6 x67) != (rdOf false x7 x67)) = true then (some false) else (laws_FnAddedAhead.l0 k x0 x6 x7 x66 (wrap64 (x67 + 1)))) else (none)) else (none)) else (none)) else (laws_FnAddedAhead.l1 k x0 x6 (x0.length : Int) 0)
def laws_FnAddedAhead.l1 : Nat → List ByteArray → List Bool → Int → Int → Option (Bool)
  | 0, _, _, _, _ => none
  | k + 1, x0, x6, x81, x82 => if x82 < x81 then (laws_FnAddedAhead.l2 k x0 x6 x82 x81 x82 x82 0) else (some true)
def laws_FnAddedAhead.l2 : Nat → List ByteArray → List Bool → Int → Int → Int → Int → Int → Option (Bool)
  | 0, _, _, _, _, _, _, _ => none
  | k + 1, x0, x6, x9, x81, x82, x85, x86 => if x86 < x85 then (if 0 ≤ x9 then (if x9 < (x6.length : Int) then (if rdOf false x6 x9 = true then (if 0 ≤ x86 then (if x86 < (x6.length : Int) then (if rdOf false x6 x86 = true then (if x9 < (x0.length : Int) then (if x86 < (x0.length : Int) then (if (rdOf ByteArray.empty x0 x9).toList = (rdOf ByteArray.empty x0 x86).toList then ((laws_plain.f k (rdOf ByteArray.empty x0 x9)).bind fun t131 => (if t131 = true then (some false) else (laws_FnAddedAhead.l2 k x0 x6 x9 x81 x82 x85 (wrap64 (x86 + 1))))) else (laws_FnAddedAhead.l2 k x0 x6 x9 x81 x82 x85 (wrap64 (x86 + 1)))) else (none)) else (none)) else (laws_FnAddedAhead.l2 k x0 x6 x9 x81 x82 x85 (wrap64 (x86 + 1)))) else (none)) else (none)) else (laws_FnAddedAhead.l2 k x0 x6 x9 x81 x82 x85 (wrap64 (x86 + 1)))) else (none)) else (none)) else (laws_FnAddedAhead.l1 k x0 x6 x81 (wrap64 (x82 + 1)))
end
def laws_FnAddedAhead.f (k : Nat) (l0 : List ByteArray) (a1 : Int) : Option (Bool) := (laws_zzFits1.f k l0).bind fun t107 => (if t107 = true then ((impl_Added.f (([(⟨#[47, 97]⟩ : ByteArray), (⟨#[47, 97]⟩ : ByteArray)] : List ByteArray))).bind fun t111 => (if (t111.length : Int) = 2 then (if 0 < (t111.length : Int) then (if rdOf false t111 0 = true then (if 1 < (t111.length : Int) then (laws_FnAddedAhead.j0 k l0 a1 (rdOf false t111 1)) else (none)) else (laws_FnAddedAhead.j0 k l0 a1 true)) else (none)) else (laws_FnAddedAhead.j0 k l0 a1 true))) else (some true))
def laws_FnAddedAhead.T8 : Bool × List (List Nat × List Nat) := (true, [([], []), ([0], [0]), ([], []), ([], []), ([2, 3], [2, 3]), ([4, 1], [4]), ([1, 5, 0, 1], [1]), ([5, 6, 0, 1, 2, 3, 4, 5, 6], [5])])
def laws_FnAddedAhead.B8 : List Nat := [0, 1, 0, 0, 12, 31, 63, 127]
theorem laws_FnAddedAhead.tab8 : rtab .any (opsOf Try.f3 8) = laws_FnAddedAhead.T8 := by kernel_rfl
theorem laws_FnAddedAhead.bits8 : waitsOk laws_FnAddedAhead.T8.2 laws_FnAddedAhead.B8 = true := by kernel_rfl
def laws_FnAddedAhead.T14 : Bool × List (List Nat × List Nat) := (true, [([], []), ([], []), ([0, 1], [0, 1]), ([2], [2]), ([], []), ([], []), ([4, 5], [4, 5]), ([6], [6]), ([3, 7], [3, 7])])
def laws_FnAddedAhead.B14 : List Nat := [0, 0, 3, 7, 0, 0, 48, 112, 255]
theorem laws_FnAddedAhead.tab14 : rtab .any (opsOf Try.f3 14) = laws_FnAddedAhead.T14 := by kernel_rfl
theorem laws_FnAddedAhead.bits14 : waitsOk laws_FnAddedAhead.T14.2 laws_FnAddedAhead.B14 = true := by kernel_rfl
def laws_FnAddedAhead.T23 : Bool × List (List Nat × List Nat) := (true, [([], []), ([], []), ([0, 1], [0, 1]), ([2], [2]), ([3], [3]), ([4], [4]), ([4], [4]), ([5, 6, 4], [4, 5, 6]), ([7, 4], [4, 7]), ([4, 8], [4, 8]), ([9, 4], [9]), ([10], [10]), ([10], [10]), ([11, 12, 10], [10, 11, 12]), ([13, 10], [10, 13]), ([10], [10]), ([10], [10]), ([15, 16, 10], [10, 15, 16]), ([17, 10], [10, 17]), ([14, 18, 10], [10, 14, 18]), ([10, 19], [10, 19]), ([20, 10], [20]), ([21], [21]), ([21], [21]), ([22, 23, 21], [21, 22, 23]), ([24, 21], [21, 24]), ([25, 21, 21], [21, 25]), ([21, 26], [21, 26])])
def laws_FnAddedAhead.B23 : List Nat := [0, 0, 3, 7, 15, 31, 31, 127, 255, 511, 1023, 2047, 2047, 8191, 16383, 2047, 2047, 100351, 231423, 524287, 1048575, 2097151, 4194303, 4194303, 16777215, 33554431, 67108863, 134217727]
theorem laws_FnAddedAhead.tab23 : rtab .any (opsOf Try.f3 23) = laws_FnAddedAhead.T23 := by kernel_rfl
theorem laws_FnAddedAhead.bits23 : waitsOk laws_FnAddedAhead.T23.2 laws_FnAddedAhead.B23 = true := by kernel_rfl
set_option maxHeartbeats 8000000 in
set_option maxRecDepth 100000 in
theorem laws_FnAddedAhead.calls (k : Nat) (A0 : Option Addr) (c0 : Nat) (l0 : List ByteArray) (a1 : Int) (r : Bool) (w : World) (hr0 : Kd.C Kd.string w A0 l0.length l0) (hc0 : l0.length ≤ c0) (h : laws_FnAddedAhead.f k l0 a1 = some r) :
    Calls Try.prog 3 #[.slice A0 l0.length c0, .int .i64 a1] w fun e w' => e = .returned (.bool r) ∧ Below w.heap.size w w' := by
  have HR0 := Aside0.mk hr0
  have HC0 := Aside0.mk hc0
  clear hr0 hc0
  have HB := Aside0.mk (Below.refl w.heap.size w)
  have H : ((laws_zzFits1.f k l0).bind fun t107 => (if t107 = true then ((impl_Added.f (([(⟨#[47, 97]⟩ : ByteArray), (⟨#[47, 97]⟩ : ByteArray)] : List ByteArray))).bind fun t111 => (if (t111.length : Int) = 2 then (if 0 < (t111.length : Int) then (if rdOf false t111 0 = true then (if 1 < (t111.length : Int) then (laws_FnAddedAhead.j0 k l0 a1 (rdOf false t111 1)) else (none)) else (laws_FnAddedAhead.j0 k l0 a1 true)) else (none)) else (laws_FnAddedAhead.j0 k l0 a1 true))) else (some true))) = some r := h
  clear h
  replace H := Option.bind_eq_some_iff.mp H
  obtain ⟨t107, A30, H⟩ := H
  replace H : (if t107 = true then ((impl_Added.f (([(⟨#[47, 97]⟩ : ByteArray), (⟨#[47, 97]⟩ : ByteArray)] : List ByteArray))).bind fun t111 => (if (t111.length : Int) = 2 then (if 0 < (t111.length : Int) then (if rdOf false t111 0 = true then (if 1 < (t111.length : Int) then (laws_FnAddedAhead.j0 k l0 a1 (rdOf false t111 1)) else (none)) else (laws_FnAddedAhead.j0 k l0 a1 true)) else (none)) else (laws_FnAddedAhead.j0 k l0 a1 true))) else (some true)) = some r := H
  have A3 := Aside0.mk A30
  clear A30
  by_cases c4 : t107 = true
  · subst c4
    have H1 : ((impl_Added.f (([(⟨#[47, 97]⟩ : ByteArray), (⟨#[47, 97]⟩ : ByteArray)] : List ByteArray))).bind fun t111 => (if (t111.length : Int) = 2 then (if 0 < (t111.length : Int) then (if rdOf false t111 0 = true then (if 1 < (t111.length : Int) then (laws_FnAddedAhead.j0 k l0 a1 (rdOf false t111 1)) else (none)) else (laws_FnAddedAhead.j0 k l0 a1 true)) else (none)) else (laws_FnAddedAhead.j0 k l0 a1 true))) = some r := by rw [if_pos rfl] at H; exact H
    clear H
    have H := H1
    clear H1
    obtain ⟨y108, hy108⟩ : ∃ y_ : List ByteArray, y_ = (([(⟨#[47, 97]⟩ : ByteArray), (⟨#[47, 97]⟩ : ByteArray)] : List ByteArray)) := ⟨_, rfl⟩
    replace H : ((impl_Added.f y108).bind fun t111 => (if (t111.length : Int) = 2 then (if 0 < (t111.length : Int) then (if rdOf false t111 0 = true then (if 1 < (t111.length : Int) then (laws_FnAddedAhead.j0 k l0 a1 (rdOf false t111 1)) else (none)) else (laws_FnAddedAhead.j0 k l0 a1 true)) else (none)) else (laws_FnAddedAhead.j0 k l0 a1 true))) = some r := by first | (rw [hy108]; with_reducible exact H) | (have H2_ := (Option.bind_some _ _).symm.trans H; rw [hy108]; with_reducible exact H2_) | (have H2_ := (Option.bind_some _ _).symm.trans H; with_reducible exact H2_) | with_reducible exact H | (rw [hy108]; exact H) | exact H
    have Ny108 := Aside0.mk hy108
    clear hy108
    replace H := Option.bind_eq_some_iff.mp H
    obtain ⟨t111, A50, H⟩ := H
    replace H : (if (t111.length : Int) = 2 then (if 0 < (t111.length : Int) then (if rdOf false t111 0 = true then (if 1 < (t111.length : Int) then (laws_FnAddedAhead.j0 k l0 a1 (rdOf false t111 1)) else (none)) else (laws_FnAddedAhead.j0 k l0 a1 true)) else (none)) else (laws_FnAddedAhead.j0 k l0 a1 true)) = some r := H
    have A5 := Aside0.mk A50
    clear A50
    have HC6 := Aside0.mk H
    clear H
    go_enter Try.func3, Try.ntmps3
    go_upto_region 4 with (first | ((with_reducible refine gate_callee (f := 5) rfl ?_); refine goesL_ (some 12) rfl rfl Try.func5 (by kernel_rfl) rfl #[.slice A0 l0.length c0] rfl (by (try simp only [List.map_toArray, List.map_cons, List.map_nil]); first | done | rfl | (simp only [List.length_drop, List.length_take]; rfl)) ?_; (with_reducible refine (laws_zzFits1.calls k _ _ l0 true _ ?side1 ?side2 A3.out).mono ?_); (case side1 => repeat (first | exact HR0.out | (with_reducible refine Kd.C_alloc ?_ _) | (with_reducible refine Kd.C_drewN ?_ _) | (with_reducible refine Kd.C_drew ?_))); (case side2 => exact HC0.out); rintro e w' ⟨rfl, ⟨nd, rfl⟩⟩; refine ⟨_, rfl, ?_⟩) | ((with_reducible refine gate_dst (N := 14) rfl ?_); (try (refine gate_guard (by rfl) ?_; dsimp only)); refine Kd.R_lit Kd.string _ 9 ?hg (N := 14) ?hd (xs := ([(⟨#[47, 97]⟩ : ByteArray), (⟨#[47, 97]⟩ : ByteArray)] : List ByteArray)) (inner := [.string (⟨#[47, 97]⟩ : ByteArray), .string (⟨#[47, 97]⟩ : ByteArray)]) (ok := fun _ => True) (okp := fun _ => True) ?hr ?hp (fun _ hk => hk) trivial (Below.refl _ _) (Nat.le_refl _) (by simp) ?_; (case hd => rfl); (case hg => rfl); (case hr => first | (go_simp; done) | (go_simp; rfl)); (case hp => exact (Reps.one (show Kd.M Kd.string _ _ _ (⟨#[47, 97]⟩ : ByteArray) [.string (⟨#[47, 97]⟩ : ByteArray)] from rfl) (Reps.one (show Kd.M Kd.string _ _ _ (⟨#[47, 97]⟩ : ByteArray) [.string (⟨#[47, 97]⟩ : ByteArray)] from rfl) (Reps.none _ _)))); intro v109 w7 ho8 hb hg_ hnew_; clear hg_ hnew_; (first | rw [← Ny108.out] at ho8 | (simp only [Int.reduceToNat] at ho8; rw [← Ny108.out] at ho8)); have n0_ := Aside0.mk (Kd.R_lower ho8 (below_size (by repeat (first | (with_reducible first | exact HB.out | apply below_alloc | apply pw_below_drewN | apply below_drew1) | exact HB.out)))); have n1_ := Aside0.mk (below_step (by repeat (first | (with_reducible first | exact HB.out | apply below_alloc | apply pw_below_drewN | apply below_drew1) | exact HB.out)) hb); clear HB; have HO110 := n0_; have HB := n1_; clear n0_ n1_; clear hb ho8; obtain ⟨Ao9, co9, eo9⟩ := Kd.R_slice HO110.out; subst eo9) | ((with_reducible refine gate_callee (f := 6) rfl ?_); refine goesL_ (some 15) rfl rfl Try.func6 (by kernel_rfl) rfl #[.slice Ao9 y108.length co9] rfl (by (try simp only [List.map_toArray, List.map_cons, List.map_nil]); first | done | rfl | (simp only [List.length_drop, List.length_take]; rfl)) ?_; (with_reducible refine (impl_Added.calls _ _ y108 t111 _ ?side1 ?side2 A5.out).mono ?_); (case side1 => repeat (first | exact (Kd.R_reads' HO110.out).2.2 | (with_reducible refine Kd.C_alloc ?_ _) | (with_reducible refine Kd.C_drewN ?_ _) | (with_reducible refine Kd.C_drew ?_))); (case side2 => exact (Kd.R_reads' HO110.out).2.1); rintro e w10 ⟨v112, rfl, ho0, hb⟩; refine ⟨_, rfl, ?_⟩; have n0_ := Aside0.mk (Kd.R_below (by (with_reducible repeat (first | apply Kd.R_alloc | apply Kd.R_drewN | apply Kd.R_drew)); exact HO110.out) hb); have n1_ := Aside0.mk (Kd.R_lower ho0 (below_size (by repeat (first | (with_reducible first | exact HB.out | apply below_alloc | apply pw_below_drewN | apply below_drew1) | exact HB.out)))); have n2_ := Aside0.mk (below_step (by repeat (first | (with_reducible first | exact HB.out | apply below_alloc | apply pw_below_drewN | apply below_drew1) | exact HB.out)) hb); clear HO110; clear HB; have HO110 := n0_; have HO113 := n1_; have HB := n2_; clear n0_ n1_ n2_; (try clear hb); (try clear hb2); (try clear hk); (try clear hi); (try clear ho0)))
    (try simp only [Act.put, List.setIfInBounds_toArray, List.set_cons_zero, List.set_cons_succ])
    go_cut [29] (fun v29 wc => ∃ (kq : Nat) (x29_5 : Bool), v29 = .bool x29_5 ∧ Aside0 (laws_FnAddedAhead.j0 kq l0 a1 x29_5 = some r) ∧ Aside0 (kq ≤ k) ∧ Aside0 (Below w.heap.size w wc))
    case first =>
      have H := HC6.out
      clear HC6
      by_cases c11 : (t111.length : Int) = 2
      · rw [if_pos c11] at H
        have c11b0 : ((t111.length : Int) == 2) = true := beq_iff_eq.mpr c11
        have c11b1 : ((t111.length : Int) != 2) = false := bne_eq_false_iff_eq.mpr c11
        clear c11
        (first | rw [c11b0] | (simp only [i64_w, i32_w]; rw [c11b0]) | (rw [Go.Proofs.YtekjffooblcmnaaX.isEmpty_eq]; rw [c11b0]) | skip)
        by_cases c12 : 0 < (t111.length : Int)
        · rw [if_pos c12] at H
          have c12b0 : decide (0 < (t111.length : Int)) = true := decide_eq_true c12
          have c12b1 : decide (0 < t111.length) = true := decide_eq_true (by omega)
          clear c12
          obtain ⟨bq13, hbq13⟩ : ∃ b_ : Bool, b_ = (rdOf false t111 0) := ⟨_, rfl⟩
          replace H : (if bq13 = true then (if 1 < (t111.length : Int) then (laws_FnAddedAhead.j0 k l0 a1 (rdOf false t111 1)) else (none)) else (laws_FnAddedAhead.j0 k l0 a1 true)) = some r := by rw [← hbq13] at H; exact H
          have Nbq13 := Aside0.mk hbq13
          clear hbq13
          by_cases c14 : bq13 = true
          · subst c14
            have H1 : (if 1 < (t111.length : Int) then (laws_FnAddedAhead.j0 k l0 a1 (rdOf false t111 1)) else (none)) = some r := by rw [if_pos rfl] at H; exact H
            clear H
            have H := H1
            clear H1
            by_cases c15 : 1 < (t111.length : Int)
            · rw [if_pos c15] at H
              have c15b0 : decide (1 < (t111.length : Int)) = true := decide_eq_true c15
              have c15b1 : decide (1 < t111.length) = true := decide_eq_true (by omega)
              clear c15
              have H' := Aside0.mk H
              clear H
              obtain ⟨Ao16, co16, eo16⟩ := Kd.R_slice HO113.out
              subst eo16
              have p114 : 0 ≤ (0 : Int) := (by omega)
              have q114 : 0 < (t111.length : Int) := of_decide_eq_true (by first | (with_reducible assumption) | assumption)
              obtain ⟨ad114, e114, hx114_0⟩ := Kd.at_bool (Kd.R_reads' HO113.out).2.2 0 p114 q114
              (try rw [← Nbq13.out] at hx114_0)
              cases e114
              have qi114 : (0 < t111.length) = True := eq_true (by omega)
              (try rw [show ((0 : Int)).toNat = 0 from rfl] at hx114_0)
              (try rw [Addr.add_zero'] at hx114_0)
              replace p114 := eq_true p114
              replace q114 := eq_true q114
              have p115 : 0 ≤ (1 : Int) := (by omega)
              have q115 : 1 < (t111.length : Int) := of_decide_eq_true (by first | (with_reducible assumption) | assumption)
              obtain ⟨ad115, e115, hx115_0⟩ := Kd.at_bool (Kd.R_reads' HO113.out).2.2 1 p115 q115
              (try rw [← Nbq13.out] at hx115_0)
              obtain rfl : ad114 = ad115 := (by injection e115)
              (try simp only [show (1 : Int).toNat = 1 from rfl, Nat.reduceMul, Nat.reduceEqDiff, Go.Addr.add, ↓reduceIte] at hx115_0)
              have qi115 : (1 < t111.length) = True := eq_true (by omega)
              (try rw [show ((1 : Int)).toNat = 1 from rfl] at hx115_0)
              replace p115 := eq_true p115
              replace q115 := eq_true q115
              go_wp2
              go_meet
              case rel => exact ⟨_, (rdOf false t111 1), (by first | rfl | (simp; done) | (simp [*]; done) | (simp [Go.Proofs.YtekjffooblcmnaaX.isEmpty_ne]; done)), H', ⟨by first | omega | exact Nat.le_refl _⟩, ⟨by repeat (first | (with_reducible first | exact HB.out | apply below_alloc | apply pw_below_drewN | apply below_drew1) | exact HB.out)⟩⟩
            · rw [if_neg c15] at H
              exact absurd H (by simp)
          · replace c14 := Bool.eq_false_iff.mpr c14
            subst c14
            have H1 : (laws_FnAddedAhead.j0 k l0 a1 true) = some r := by rw [if_neg (show ¬ (false = true) by decide)] at H; exact H
            clear H
            have H := H1
            clear H1
            have H' := Aside0.mk H
            clear H
            obtain ⟨Ao17, co17, eo17⟩ := Kd.R_slice HO113.out
            subst eo17
            have p114 : 0 ≤ (0 : Int) := (by omega)
            have q114 : 0 < (t111.length : Int) := of_decide_eq_true (by first | (with_reducible assumption) | assumption)
            obtain ⟨ad114, e114, hx114_0⟩ := Kd.at_bool (Kd.R_reads' HO113.out).2.2 0 p114 q114
            (try rw [← Nbq13.out] at hx114_0)
            cases e114
            have qi114 : (0 < t111.length) = True := eq_true (by omega)
            (try rw [show ((0 : Int)).toNat = 0 from rfl] at hx114_0)
            (try rw [Addr.add_zero'] at hx114_0)
            replace p114 := eq_true p114
            replace q114 := eq_true q114
            go_wp2
            go_meet
            case rel => exact ⟨_, (true), (by first | rfl | (simp; done) | (simp [*]; done) | (simp [Go.Proofs.YtekjffooblcmnaaX.isEmpty_ne]; done)), H', ⟨by first | omega | exact Nat.le_refl _⟩, ⟨by repeat (first | (with_reducible first | exact HB.out | apply below_alloc | apply pw_below_drewN | apply below_drew1) | exact HB.out)⟩⟩
        · rw [if_neg c12] at H
          exact absurd H (by simp)
      · rw [if_neg c11] at H
        have c11b0 : ((t111.length : Int) == 2) = false := beq_eq_false_iff_ne.mpr c11
        have c11b1 : ((t111.length : Int) != 2) = true := bne_iff_ne.mpr c11
        (first | rw [c11b0] | (simp only [i64_w, i32_w]; rw [c11b0]) | (rw [Go.Proofs.YtekjffooblcmnaaX.isEmpty_eq]; rw [c11b0]) | skip)
        have H' := Aside0.mk H
        clear H
        obtain ⟨Ao18, co18, eo18⟩ := Kd.R_slice HO113.out
        subst eo18
        go_wp2
        go_meet
        case rel => exact ⟨_, (true), (by first | rfl | (simp; done) | (simp [*]; done) | (simp [Go.Proofs.YtekjffooblcmnaaX.isEmpty_ne]; done)), H', ⟨by first | omega | exact Nat.le_refl _⟩, ⟨by repeat (first | (with_reducible first | exact HB.out | apply below_alloc | apply pw_below_drewN | apply below_drew1) | exact HB.out)⟩⟩
    case rest =>
      clear HC6
      try clear c1
      try clear p1
      try clear q1
      try clear hx1
      try clear qi1
      try clear p2
      try clear c3
      try clear c4
      try clear c5
      try clear c6
      try clear c11
      try clear c11b0
      try clear c11b1
      try clear p11
      try clear q11
      try clear hx11
      try clear qi11
      try clear c12
      try clear c12b0
      try clear c12b1
      try clear q13
      try clear c14
      try clear c15
      try clear c15b0
      try clear c15b1
      try clear hx114_0
      try clear hx115_0
      try clear p114
      try clear p115
      try clear q114
      try clear q115
      obtain ⟨kq, x29_5, rfl, HA, HJ5, HB⟩ := hcut
      cases kq with
      | zero => exact absurd HA.out (by simp [laws_FnAddedAhead.j0])
      | succ kj5 =>
        have H := HA.out
        clear HA
        simp only [laws_FnAddedAhead.j0] at H
        by_cases c19 : x29_5 = true
        · subst c19
          have H1 : (some false) = some r := by rw [if_pos rfl] at H; exact H
          clear H
          have H := H1
          clear H1
          obtain rfl := Option.some.inj H
          go_wp2
          go_ret
          exact ⟨by first | rfl | (simp [errW_none, errW_some] <;> rfl) | (simp [*, errW_none, errW_some] <;> rfl), by repeat (first | (with_reducible first | exact HB.out | apply below_alloc | apply pw_below_drewN | apply below_drew1) | exact HB.out)⟩
        · replace c19 := Bool.eq_false_iff.mpr c19
          subst c19
          have H1 : (if a1 < 0 then (laws_FnAddedAhead.j1 kj5 l0 a1 true) else (if a1 > (l0.length : Int) then (laws_FnAddedAhead.j1 kj5 l0 a1 true) else (if (l0.length : Int) > 20 then (laws_FnAddedAhead.j1 kj5 l0 a1 true) else ((laws_short.f kj5 l0).bind fun t116 => (laws_FnAddedAhead.j1 kj5 l0 a1 (!t116)))))) = some r := by rw [if_neg (show ¬ (false = true) by decide)] at H; exact H
          clear H
          have H := H1
          clear H1
          have HC20 := Aside0.mk H
          clear H
          go_upto_region 6 with (fail)
          go_cut [47] (fun v47 wc => ∃ (kq : Nat) (x47_19 : Bool), v47 = .bool x47_19 ∧ Aside0 (laws_FnAddedAhead.j1 kq l0 a1 x47_19 = some r) ∧ Aside0 (kq ≤ kj5) ∧ Aside0 (Below w.heap.size w wc))
          case first =>
            have H := HC20.out
            clear HC20
            by_cases c21 : a1 < 0
            · rw [if_pos c21] at H
              have c21b0 : decide (a1 < 0) = true := decide_eq_true c21
              clear c21
              (first | rw [c21b0] | (simp only [i64_w, i32_w]; rw [c21b0]) | (rw [Go.Proofs.YtekjffooblcmnaaX.isEmpty_eq]; rw [c21b0]) | skip)
              have H' := Aside0.mk H
              clear H
              go_wp2
              go_meet
              case rel => exact ⟨_, (true), (by first | rfl | (simp; done) | (simp [*]; done) | (simp [Go.Proofs.YtekjffooblcmnaaX.isEmpty_ne]; done)), H', ⟨by have := HJ5.out; first | omega | exact Nat.le_refl _⟩, ⟨by repeat (first | (with_reducible first | exact HB.out | apply below_alloc | apply pw_below_drewN | apply below_drew1) | exact HB.out)⟩⟩
            · rw [if_neg c21] at H
              have c21b0 : decide (a1 < 0) = false := decide_eq_false c21
              clear c21
              (first | rw [c21b0] | (simp only [i64_w, i32_w]; rw [c21b0]) | (rw [Go.Proofs.YtekjffooblcmnaaX.isEmpty_eq]; rw [c21b0]) | skip)
              by_cases c22 : a1 > (l0.length : Int)
              · rw [if_pos c22] at H
                have c22b0 : decide ((l0.length : Int) < a1) = true := decide_eq_true c22
                clear c22
                have H' := Aside0.mk H
                clear H
                go_wp2
                go_meet
                case rel => exact ⟨_, (true), (by first | rfl | (simp; done) | (simp [*]; done) | (simp [Go.Proofs.YtekjffooblcmnaaX.isEmpty_ne]; done)), H', ⟨by have := HJ5.out; first | omega | exact Nat.le_refl _⟩, ⟨by repeat (first | (with_reducible first | exact HB.out | apply below_alloc | apply pw_below_drewN | apply below_drew1) | exact HB.out)⟩⟩
              · rw [if_neg c22] at H
                have c22b0 : decide ((l0.length : Int) < a1) = false := decide_eq_false c22
                clear c22
                by_cases c23 : (l0.length : Int) > 20
                · rw [if_pos c23] at H
                  have c23b0 : decide (20 < (l0.length : Int)) = true := decide_eq_true c23
                  have c23b1 : decide (20 < l0.length) = true := decide_eq_true (by omega)
                  clear c23
                  have H' := Aside0.mk H
                  clear H
                  go_wp2
                  go_meet
                  case rel => exact ⟨_, (true), (by first | rfl | (simp; done) | (simp [*]; done) | (simp [Go.Proofs.YtekjffooblcmnaaX.isEmpty_ne]; done)), H', ⟨by have := HJ5.out; first | omega | exact Nat.le_refl _⟩, ⟨by repeat (first | (with_reducible first | exact HB.out | apply below_alloc | apply pw_below_drewN | apply below_drew1) | exact HB.out)⟩⟩
                · rw [if_neg c23] at H
                  have c23b0 : decide (20 < (l0.length : Int)) = false := decide_eq_false c23
                  have c23b1 : decide (20 < l0.length) = false := decide_eq_false (by omega)
                  clear c23
                  replace H := Option.bind_eq_some_iff.mp H
                  obtain ⟨t116, A240, H⟩ := H
                  replace H : (laws_FnAddedAhead.j1 kj5 l0 a1 (!t116)) = some r := H
                  have A24 := Aside0.mk A240
                  clear A240
                  have H' := Aside0.mk H
                  clear H
                  go_wp2_with (first | (go_at_call 7; (with_reducible refine (laws_short.calls kj5 _ _ l0 t116 _ ?side1 ?side2 A24.out).mono ?_); (case side1 => repeat (first | exact (Kd.C_below HR0.out HB.out) | (with_reducible refine Kd.C_alloc ?_ _) | (with_reducible refine Kd.C_drewN ?_ _) | (with_reducible refine Kd.C_drew ?_))); (case side2 => exact HC0.out); rintro e w' ⟨rfl, ⟨nd, rfl⟩⟩))
                  go_meet
                  case rel => exact ⟨_, (!t116), (by first | rfl | (simp; done) | (simp [*]; done) | (simp [Go.Proofs.YtekjffooblcmnaaX.isEmpty_ne]; done)), H', ⟨by have := HJ5.out; first | omega | exact Nat.le_refl _⟩, ⟨by repeat (first | (with_reducible first | exact HB.out | apply below_alloc | apply pw_below_drewN | apply below_drew1) | exact HB.out)⟩⟩
          case rest =>
            clear HC20
            try clear c1
            try clear p1
            try clear q1
            try clear hx1
            try clear qi1
            try clear c2
            try clear p2
            try clear c3
            try clear c4
            try clear c5
            try clear c6
            try clear c11
            try clear c11b0
            try clear c11b1
            try clear p11
            try clear q11
            try clear hx11
            try clear qi11
            try clear c12
            try clear c12b0
            try clear c12b1
            try clear q13
            try clear c14
            try clear c15
            try clear c15b0
            try clear c15b1
            try clear c19
            try clear c21
            try clear c21b0
            try clear c22
            try clear c22b0
            try clear c23
            try clear c23b0
            try clear c23b1
            try clear hx114_0
            try clear hx115_0
            try clear p1
            try clear p11
            try clear p114
            try clear p115
            try clear p2
            try clear q1
            try clear q11
            try clear q114
            try clear q115
            try clear q13
            obtain ⟨kq, x47_19, rfl, HA, HJ19, HB⟩ := hcut
            cases kq with
            | zero => exact absurd HA.out (by simp [laws_FnAddedAhead.j1])
            | succ kj19 =>
              have H := HA.out
              clear HA
              simp only [laws_FnAddedAhead.j1] at H
              by_cases c25 : x47_19 = true
              · subst c25
                have H1 : (some true) = some r := by rw [if_pos rfl] at H; exact H
                clear H
                have H := H1
                clear H1
                obtain rfl := Option.some.inj H
                go_wp2
                go_ret
                exact ⟨by first | rfl | (simp [errW_none, errW_some] <;> rfl) | (simp [*, errW_none, errW_some] <;> rfl), by repeat (first | (with_reducible first | exact HB.out | apply below_alloc | apply pw_below_drewN | apply below_drew1) | exact HB.out)⟩
              · replace c25 := Bool.eq_false_iff.mpr c25
                subst c25
                have H1 : ((impl_Added.f l0).bind fun t117 => (if 0 ≤ a1 then (if a1 ≤ (l0.length : Int) then ((impl_Added.f (l0.take (a1 : Int).toNat)).bind fun t121 => (if (t117.length : Int) = (l0.length : Int) then (laws_FnAddedAhead.j2 kj19 l0 t117 t121 ((t121.length : Int) != a1)) else (laws_FnAddedAhead.j2 kj19 l0 t117 t121 true))) else (none)) else (none))) = some r := by rw [if_neg (show ¬ (false = true) by decide)] at H; exact H
                clear H
                have H := H1
                clear H1
                replace H := Option.bind_eq_some_iff.mp H
                obtain ⟨t117, A260, H⟩ := H
                replace H : (if 0 ≤ a1 then (if a1 ≤ (l0.length : Int) then ((impl_Added.f (l0.take (a1 : Int).toNat)).bind fun t121 => (if (t117.length : Int) = (l0.length : Int) then (laws_FnAddedAhead.j2 kj19 l0 t117 t121 ((t121.length : Int) != a1)) else (laws_FnAddedAhead.j2 kj19 l0 t117 t121 true))) else (none)) else (none)) = some r := H
                have A26 := Aside0.mk A260
                clear A260
                by_cases c27 : 0 ≤ a1
                · rw [if_pos c27] at H
                  have c27b0 := eq_true c27
                  have c27b1 : decide (0 ≤ a1) = true := decide_eq_true c27
                  clear c27
                  by_cases c28 : a1 ≤ (l0.length : Int)
                  · rw [if_pos c28] at H
                    have c28b0 := eq_true c28
                    have c28b1 : decide (a1 ≤ (l0.length : Int)) = true := decide_eq_true c28
                    clear c28
                    replace H := Option.bind_eq_some_iff.mp H
                    obtain ⟨t121, A290, H⟩ := H
                    replace H : (if (t117.length : Int) = (l0.length : Int) then (laws_FnAddedAhead.j2 kj19 l0 t117 t121 ((t121.length : Int) != a1)) else (laws_FnAddedAhead.j2 kj19 l0 t117 t121 true)) = some r := H
                    have A29 := Aside0.mk A290
                    clear A290
                    have HC30 := Aside0.mk H
                    clear H
                    try go_wp2
                    have n0_ := Aside0.mk (below_drew1 HB.out)
                    clear HB
                    have HB := n0_
                    clear n0_
                    obtain ⟨i032, hi032, _, hsz32, _⟩ := info_parts info9
                    obtain ⟨hcut32, hA32, hC32⟩ := print_take_of (P := Try.prog) Value.string (⟨#[]⟩ : ByteArray) 22 9 .i64 Try.underlying22 hi032 hsz32 A0 c0 l0 a1 (of_decide_eq_true (by first | (with_reducible assumption) | assumption)) (of_decide_eq_true (by first | (with_reducible assumption) | assumption)) HC0.out
                    have HR120 := Aside0.mk (Kd.C_of_reads (h1 := fun _ => rfl) (hA32 _ (Kd.reads_of_C HR0.out)))
                    have HC120 := Aside0.mk hC32
                    clear hA32 hC32 hi032 hsz32
                    refine start_ (n := 8) (S := fun w' => True) (ds := []) #[false, false, false, false, false, false, false, false] (by kernel_rfl) rfl rfl trivial (fun hHeld => ?_); refine with_tabW laws_FnAddedAhead.tab8 laws_FnAddedAhead.bits8 (fun HT_ HW_ => ?_)
                    generalize wc.drew = w31 at HB HR120 hHeld ⊢
                    refine pure_ (i := 0) (N := some 48) (v := ?_) (a' := ?_) #[true, false, false, false, false, false, false, false] rfl rfl (any_of HT_.out (by kernel_rfl)) (fun _ _ _ h => h) (Or.inl ⟨by rfl, ?_⟩) ?_ ?_
                    rotate_left
                    · intro w'
                      go_simp
                      with_reducible rfl
                    rotate_left
                    · simp only [Act.put, List.setIfInBounds_toArray, List.set_cons_zero, List.set_cons_succ, i64_w, i32_w]
                      rfl
                    refine pure_ (i := 2) (N := some 50) (v := ?_) (a' := ?_) #[true, false, true, false, false, false, false, false] rfl rfl (any_of HT_.out (by kernel_rfl)) (fun _ _ _ h => h) (Or.inl ⟨by rfl, ?_⟩) ?_ ?_
                    rotate_left
                    · intro w'
                      go_simp
                      with_reducible rfl
                    rotate_left
                    · simp only [Act.put, List.setIfInBounds_toArray, List.set_cons_zero, List.set_cons_succ, i64_w, i32_w]
                      rfl
                    refine pure_ (i := 3) (N := some 51) (v := ?_) (a' := ?_) #[true, false, true, true, false, false, false, false] rfl rfl (any_of HT_.out (by kernel_rfl)) (fun _ _ _ h => h) (Or.inl ⟨by rfl, ?_⟩) ?_ ?_
                    rotate_left
                    · intro w'
                      go_simp
                      with_reducible rfl
                    rotate_left
                    · simp only [Act.put, List.setIfInBounds_toArray, List.set_cons_zero, List.set_cons_succ, i64_w, i32_w]
                      rfl
                    refine pure_ (i := 4) (N := some 52) (v := ?_) (a' := ?_) #[true, false, true, true, true, false, false, false] rfl rfl (any_of HT_.out (by kernel_rfl)) (fun _ _ _ h => h) (Or.inl ⟨by rfl, ?_⟩) ?_ ?_
                    rotate_left
                    · intro w'
                      go_simp
                      with_reducible rfl
                    rotate_left
                    · simp only [Act.put, List.setIfInBounds_toArray, List.set_cons_zero, List.set_cons_succ, i64_w, i32_w]
                      rfl
                    refine one_ (i := 1) (N := some 49) #[true, true, true, true, true, false, false, false] rfl rfl (one_of HT_.out (by kernel_rfl)) (by decide) (fun K hK => ?_)
                    refine goes_ Try.func6 (by kernel_rfl) rfl #[.slice A0 l0.length c0] (by rfl) rfl rfl (by (try simp only [List.map_toArray, List.map_cons, List.map_nil]); first | done | rfl | (simp only [List.length_drop, List.length_take]; rfl)) ?_
                    with_reducible refine (impl_Added.calls _ _ l0 t117 _ ?side1 ?side2 A26.out).mono ?_
                    (case side1 => repeat (first | exact (Kd.C_below HR0.out HB.out) | (with_reducible refine Kd.C_alloc ?_ _) | (with_reducible refine Kd.C_drewN ?_ _) | (with_reducible refine Kd.C_drew ?_)))
                    (case side2 => exact HC0.out)
                    rintro e w33 ⟨v118, rfl, ho0, hb⟩
                    refine ⟨_, rfl, ?_⟩
                    have n0_ := Aside0.mk (Kd.R_lower ho0 (below_size (by repeat (first | (with_reducible first | exact HB.out | apply below_alloc | apply pw_below_drewN | apply below_drew1) | exact HB.out))))
                    have n1_ := Aside0.mk (below_step (by repeat (first | (with_reducible first | exact HB.out | apply below_alloc | apply pw_below_drewN | apply below_drew1) | exact HB.out)) hb)
                    clear HB
                    have HO119 := n0_
                    have HB := n1_
                    clear n0_ n1_
                    (try clear hb)
                    (try clear hb2)
                    (try clear hk)
                    (try clear hi)
                    (try clear ho0)
                    refine hK.out _ _ trivial (fun hHeld => ?_)
                    clear hK K
                    refine norm_ (a' := ?_) ?_ ?_
                    rotate_left
                    · show Act.put _ (some 49) _ = _
                      simp only [Act.put, List.setIfInBounds_toArray, List.set_cons_zero, List.set_cons_succ, i64_w, i32_w]
                      rfl
                    refine one_ (i := 5) (N := some 53) #[true, true, true, true, true, true, false, false] rfl rfl (one_of HT_.out (by kernel_rfl)) (by decide) (fun K hK => ?_)
                    refine goes_ Try.func6 (by kernel_rfl) rfl #[.slice A0 (l0.take (a1 : Int).toNat).length c0] (by rfl) rfl rfl (by (try simp only [List.map_toArray, List.map_cons, List.map_nil]); first | done | (rw [show (l0.take (a1 : Int).toNat).length = a1.toNat from (by rw [List.length_take]; have h_ : (a1 : Int) ≤ (l0.length : Int) := of_decide_eq_true (by first | (with_reducible assumption) | assumption); omega)] <;> rfl) | rfl | (simp only [List.length_drop, List.length_take]; rfl)) ?_
                    with_reducible refine (impl_Added.calls _ _ (l0.take (a1 : Int).toNat) t121 _ ?side1 ?side2 A29.out).mono ?_
                    (case side1 => repeat (first | exact (Kd.C_below HR120.out HB.out) | (with_reducible refine Kd.C_alloc ?_ _) | (with_reducible refine Kd.C_drewN ?_ _) | (with_reducible refine Kd.C_drew ?_)))
                    (case side2 => exact HC120.out)
                    rintro e w34 ⟨v122, rfl, ho0, hb⟩
                    refine ⟨_, rfl, ?_⟩
                    have n0_ := Aside0.mk (Kd.R_elder' (by (with_reducible repeat (first | apply Kd.R_alloc | apply Kd.R_drewN | apply Kd.R_drew)); exact HO119.out) (Kd.R_base ho0) hb)
                    have n1_ := Aside0.mk (Kd.R_lower (Kd.R_new' ho0 (Kd.R_lt (by (with_reducible repeat (first | apply Kd.R_alloc | apply Kd.R_drewN | apply Kd.R_drew)); exact HO119.out))) (below_size (by repeat (first | (with_reducible first | exact HB.out | apply below_alloc | apply pw_below_drewN | apply below_drew1) | exact HB.out))))
                    have n2_ := Aside0.mk (below_step (by repeat (first | (with_reducible first | exact HB.out | apply below_alloc | apply pw_below_drewN | apply below_drew1) | exact HB.out)) hb)
                    clear HO119
                    clear HB
                    have HO119 := n0_
                    have HO123 := n1_
                    have HB := n2_
                    clear n0_ n1_ n2_
                    (try clear hb)
                    (try clear hb2)
                    (try clear hk)
                    (try clear hi)
                    (try clear ho0)
                    refine hK.out _ _ trivial (fun hHeld => ?_)
                    clear hK K
                    refine norm_ (a' := ?_) ?_ ?_
                    rotate_left
                    · show Act.put _ (some 53) _ = _
                      simp only [Act.put, List.setIfInBounds_toArray, List.set_cons_zero, List.set_cons_succ, i64_w, i32_w]
                      rfl
                    refine pure_ (i := 6) (N := some 6) (v := ?_) (a' := ?_) #[true, true, true, true, true, true, true, false] rfl rfl (any_of HT_.out (by kernel_rfl)) (fun _ _ _ h => h) (Or.inl ⟨by rfl, ?_⟩) ?_ ?_
                    rotate_left
                    · intro w'
                      go_simp
                      with_reducible rfl
                    rotate_left
                    · simp only [Act.put, List.setIfInBounds_toArray, List.set_cons_zero, List.set_cons_succ, i64_w, i32_w]
                      rfl
                    refine pure_ (i := 7) (N := some 7) (v := ?_) (a' := ?_) #[true, true, true, true, true, true, true, true] rfl rfl (any_of HT_.out (by kernel_rfl)) (fun _ _ _ h => h) (Or.inl ⟨by rfl, ?_⟩) ?_ ?_
                    rotate_left
                    · intro w'
                      go_simp
                      with_reducible rfl
                    rotate_left
                    · simp only [Act.put, List.setIfInBounds_toArray, List.set_cons_zero, List.set_cons_succ, i64_w, i32_w]
                      rfl
                    refine done_ (done_of HT_.out (by kernel_rfl)) ?_
                    go_upto_region 9 with (fail)
                    go_cut [64] (fun v64 wc => ∃ (kq : Nat) (x64_29 : Bool), v64 = .bool x64_29 ∧ Aside0 (laws_FnAddedAhead.j2 kq l0 t117 t121 x64_29 = some r) ∧ Aside0 (kq ≤ kj19) ∧ Aside0 (Kd.R Kd.bool 4 wc w.heap.size (fun k_ => some k_ ≠ (v122 : Value).ownBlock) v118 t117) ∧ Aside0 (Kd.R Kd.bool 4 wc w.heap.size (fun k_ => some k_ ≠ (v118 : Value).ownBlock) v122 t121) ∧ Aside0 (Below w.heap.size w wc))
                    case first =>
                      have H := HC30.out
                      clear HC30
                      by_cases c35 : (t117.length : Int) = (l0.length : Int)
                      · rw [if_pos c35] at H
                        have c35b0 : ((t117.length : Int) == (l0.length : Int)) = true := beq_iff_eq.mpr c35
                        have c35b1 : ((t117.length : Int) != (l0.length : Int)) = false := bne_eq_false_iff_eq.mpr c35
                        have c35b2 : (t117.length == l0.length) = true := by first | simpa using c35 | (simp at c35 ⊢; omega)
                        clear c35
                        (first | rw [c35b0] | (simp only [i64_w, i32_w]; rw [c35b0]) | (rw [Go.Proofs.YtekjffooblcmnaaX.isEmpty_eq]; rw [c35b0]) | skip)
                        have H' := Aside0.mk H
                        clear H
                        obtain ⟨Ao36, co36, eo36⟩ := Kd.R_slice HO119.out
                        subst eo36
                        obtain ⟨Ao37, co37, eo37⟩ := Kd.R_slice HO123.out
                        subst eo37
                        go_wp2
                        go_meet
                        case rel => exact ⟨_, (((t121.length : Int) != a1)), (by first | rfl | (simp; done) | (simp [*]; done) | (simp [Go.Proofs.YtekjffooblcmnaaX.isEmpty_ne]; done)), H', ⟨by have := HJ5.out; have := HJ19.out; first | omega | exact Nat.le_refl _⟩, ⟨by (with_reducible repeat (first | apply Kd.R_alloc | apply Kd.R_drewN | apply Kd.R_drew)); exact Kd.R_mono HO119.out (fun _ hk => hk.2)⟩, ⟨by (with_reducible repeat (first | apply Kd.R_alloc | apply Kd.R_drewN | apply Kd.R_drew)); exact Kd.R_mono HO123.out (fun _ hk => hk.2)⟩, ⟨by repeat (first | (with_reducible first | exact HB.out | apply below_alloc | apply pw_below_drewN | apply below_drew1) | exact HB.out)⟩⟩
                      · rw [if_neg c35] at H
                        have c35b0 : ((t117.length : Int) == (l0.length : Int)) = false := beq_eq_false_iff_ne.mpr c35
                        have c35b1 : ((t117.length : Int) != (l0.length : Int)) = true := bne_iff_ne.mpr c35
                        have c35b2 : (t117.length == l0.length) = false := by first | simpa using c35 | (simp at c35 ⊢; omega)
                        (first | rw [c35b0] | (simp only [i64_w, i32_w]; rw [c35b0]) | (rw [Go.Proofs.YtekjffooblcmnaaX.isEmpty_eq]; rw [c35b0]) | skip)
                        have H' := Aside0.mk H
                        clear H
                        obtain ⟨Ao38, co38, eo38⟩ := Kd.R_slice HO119.out
                        subst eo38
                        go_wp2
                        go_meet
                        case rel => exact ⟨_, (true), (by first | rfl | (simp; done) | (simp [*]; done) | (simp [Go.Proofs.YtekjffooblcmnaaX.isEmpty_ne]; done)), H', ⟨by have := HJ5.out; have := HJ19.out; first | omega | exact Nat.le_refl _⟩, ⟨by (with_reducible repeat (first | apply Kd.R_alloc | apply Kd.R_drewN | apply Kd.R_drew)); exact Kd.R_mono HO119.out (fun _ hk => hk.2)⟩, ⟨by (with_reducible repeat (first | apply Kd.R_alloc | apply Kd.R_drewN | apply Kd.R_drew)); exact Kd.R_mono HO123.out (fun _ hk => hk.2)⟩, ⟨by repeat (first | (with_reducible first | exact HB.out | apply below_alloc | apply pw_below_drewN | apply below_drew1) | exact HB.out)⟩⟩
                    case rest =>
                      clear HC30
                      try clear c1
                      try clear p1
                      try clear q1
                      try clear hx1
                      try clear qi1
                      try clear c2
                      try clear p2
                      try clear c3
                      try clear c4
                      try clear c5
                      try clear c6
                      try clear c11
                      try clear c11b0
                      try clear c11b1
                      try clear p11
                      try clear q11
                      try clear hx11
                      try clear qi11
                      try clear c12
                      try clear c12b0
                      try clear c12b1
                      try clear q13
                      try clear c14
                      try clear c15
                      try clear c15b0
                      try clear c15b1
                      try clear c19
                      try clear c21
                      try clear c21b0
                      try clear c22
                      try clear c22b0
                      try clear c23
                      try clear c23b0
                      try clear c23b1
                      try clear c25
                      try clear c27
                      try clear c27b0
                      try clear c27b1
                      try clear c28
                      try clear c28b0
                      try clear c28b1
                      try clear c35
                      try clear c35b0
                      try clear c35b1
                      try clear c35b2
                      try clear hx114_0
                      try clear hx115_0
                      try clear p1
                      try clear p11
                      try clear p114
                      try clear p115
                      try clear p2
                      try clear q1
                      try clear q11
                      try clear q114
                      try clear q115
                      try clear q13
                      obtain ⟨kq, x64_29, rfl, HA, HJ29, HO_6, HO_7, HB⟩ := hcut
                      cases kq with
                      | zero => exact absurd HA.out (by simp [laws_FnAddedAhead.j2])
                      | succ kj29 =>
                        have H := HA.out
                        clear HA
                        simp only [laws_FnAddedAhead.j2] at H
                        by_cases c39 : x64_29 = true
                        · subst c39
                          have H1 : (some false) = some r := by rw [if_pos rfl] at H; exact H
                          clear H
                          have H := H1
                          clear H1
                          obtain rfl := Option.some.inj H
                          go_wp2
                          go_ret
                          exact ⟨by first | rfl | (simp [errW_none, errW_some] <;> rfl) | (simp [*, errW_none, errW_some] <;> rfl), by repeat (first | (with_reducible first | exact HB.out | apply below_alloc | apply pw_below_drewN | apply below_drew1) | exact HB.out)⟩
                        · replace c39 := Bool.eq_false_iff.mpr c39
                          subst c39
                          have H1 : (laws_FnAddedAhead.l0 kj29 l0 t117 t121 (t121.length : Int) 0) = some r := by rw [if_neg (show ¬ (false = true) by decide)] at H; exact H
                          clear H
                          have H := H1
                          clear H1
                          have H' := Aside0.mk H
                          clear H
                          obtain ⟨Ao40, co40, eo40⟩ := Kd.R_slice HO_7.out
                          subst eo40
                          go_wp2
                          go_loopg [67] kj29 (fun kq v67 w' => ∃ (x67_4 : Int), v67 = .int .i64 x67_4 ∧ Aside0 (laws_FnAddedAhead.l0 kq l0 t117 t121 (t121.length : Int) x67_4 = some r) ∧ Aside0 (kq ≤ kj29) ∧ Aside0 (Kd.R Kd.bool 4 w' w.heap.size (fun k_ => some k_ ≠ ((.slice Ao40 t121.length co40) : Value).ownBlock) v118 t117) ∧ Aside0 (Kd.R Kd.bool 4 w' w.heap.size (fun k_ => some k_ ≠ (v118 : Value).ownBlock) (.slice Ao40 t121.length co40) t121) ∧ Aside0 (Below w.heap.size w w'))
                          case atStart => exact ⟨(0), (by first | rfl | (simp; done) | (simp [*]; done) | (simp [Go.Proofs.YtekjffooblcmnaaX.isEmpty_ne]; done)), H', ⟨Nat.le_refl _⟩, ⟨by (with_reducible repeat (first | apply Kd.R_alloc | apply Kd.R_drewN | apply Kd.R_drew)); exact HO_6.out⟩, ⟨by (with_reducible repeat (first | apply Kd.R_alloc | apply Kd.R_drewN | apply Kd.R_drew)); exact HO_7.out⟩, ⟨by repeat (first | (with_reducible first | exact HB.out | apply below_alloc | apply pw_below_drewN | apply below_drew1) | exact HB.out)⟩⟩
                          case round =>
                            clear H'
                            try clear c1
                            try clear p1
                            try clear q1
                            try clear hx1
                            try clear qi1
                            try clear c2
                            try clear p2
                            try clear c3
                            try clear c4
                            try clear c5
                            try clear c6
                            try clear c11
                            try clear c11b0
                            try clear c11b1
                            try clear p11
                            try clear q11
                            try clear hx11
                            try clear qi11
                            try clear c12
                            try clear c12b0
                            try clear c12b1
                            try clear q13
                            try clear c14
                            try clear c15
                            try clear c15b0
                            try clear c15b1
                            try clear c19
                            try clear c21
                            try clear c21b0
                            try clear c22
                            try clear c22b0
                            try clear c23
                            try clear c23b0
                            try clear c23b1
                            try clear c25
                            try clear c27
                            try clear c27b0
                            try clear c27b1
                            try clear c28
                            try clear c28b0
                            try clear c28b1
                            try clear c35
                            try clear c35b0
                            try clear c35b1
                            try clear c35b2
                            try clear c39
                            try clear hx114_0
                            try clear hx115_0
                            try clear p1
                            try clear p11
                            try clear p114
                            try clear p115
                            try clear p2
                            try clear q1
                            try clear q11
                            try clear q114
                            try clear q115
                            try clear q13
                            obtain ⟨x67_4, rfl, HA, HK4, HO_6, HO_7, HB⟩ := hrel
                            cases gk with
                            | zero => exact absurd HA.out (by simp [laws_FnAddedAhead.l0])
                            | succ k4 =>
                              have H := HA.out
                              clear HA
                              simp only [laws_FnAddedAhead.l0] at H
                              by_cases c41 : x67_4 < (t121.length : Int)
                              · rw [if_pos c41] at H
                                have c41b0 : decide (x67_4 < (t121.length : Int)) = true := decide_eq_true c41
                                clear c41
                                by_cases c42 : 0 ≤ x67_4
                                · rw [if_pos c42] at H
                                  have c42b0 : decide (0 ≤ x67_4) = true := decide_eq_true c42
                                  clear c42
                                  by_cases c43 : x67_4 < (t117.length : Int)
                                  · rw [if_pos c43] at H
                                    have c43b0 : decide (x67_4 < (t117.length : Int)) = true := decide_eq_true c43
                                    clear c43
                                    by_cases c44 : x67_4 < (t121.length : Int)
                                    · rw [if_pos c44] at H
                                      have c44b0 : decide (x67_4 < (t121.length : Int)) = true := decide_eq_true c44
                                      clear c44
                                      by_cases c45 : ((rdOf false t117 x67_4) != (rdOf false t121 x67_4)) = true
                                      · rw [if_pos c45] at H
                                        have c45b0 : ((rdOf false t117 x67_4) != (rdOf false t121 x67_4)) = true := c45
                                        (try (have c45b1 : decide ((rdOf false t117 x67_4) = (rdOf false t121 x67_4)) = false := by simpa using c45))
                                        (try (have c45b2 : ((rdOf false t117 x67_4) == (rdOf false t121 x67_4)) = false := by simpa using c45))
                                        (try (have c45b3 : ¬ ((rdOf false t117 x67_4) = (rdOf false t121 x67_4)) := by simpa using c45))
                                        clear c45
                                        obtain rfl := Option.some.inj H
                                        try go_wp2
                                        have n0_ := Aside0.mk (Kd.R_drew HO_6.out)
                                        have n1_ := Aside0.mk (Kd.R_drew HO_7.out)
                                        have n2_ := Aside0.mk (below_drew1 HB.out)
                                        clear HO_6
                                        clear HO_7
                                        clear HB
                                        have HO_6 := n0_
                                        have HO_7 := n1_
                                        have HB := n2_
                                        clear n0_ n1_ n2_
                                        obtain ⟨Ao47, co47, eo47⟩ := Kd.R_slice HO_6.out
                                        (first | subst eo47 | (injection eo47 with f1_ f2_ f3_; have f4_ := f1_.symm; have f5_ := f3_.symm; clear f1_ f2_ f3_; subst f4_; subst f5_))
                                        have p124 : 0 ≤ (x67_4 : Int) := of_decide_eq_true (by first | (with_reducible assumption) | assumption)
                                        have q124 : x67_4 < (t117.length : Int) := of_decide_eq_true (by first | (with_reducible assumption) | assumption)
                                        obtain ⟨ad124, e124, hx124_0⟩ := Kd.at_bool (Kd.R_reads' HO_6.out).2.2 x67_4 p124 q124
                                        cases e124
                                        replace p124 := eq_true p124
                                        replace q124 := eq_true q124
                                        have p125 : 0 ≤ (x67_4 : Int) := of_decide_eq_true (by first | (with_reducible assumption) | assumption)
                                        have q125 : x67_4 < (t121.length : Int) := of_decide_eq_true (by first | (with_reducible assumption) | assumption)
                                        obtain ⟨ad125, e125, hx125_0⟩ := Kd.at_bool (Kd.R_reads' HO_7.out).2.2 x67_4 p125 q125
                                        cases e125
                                        replace p125 := eq_true p125
                                        replace q125 := eq_true q125
                                        refine start_ (n := 9) (S := fun w' => w'.cell? (ad124.add (x67_4).toNat) = some (.bool (rdOf false t117 x67_4)) ∧ w'.cell? (ad125.add (x67_4).toNat) = some (.bool (rdOf false t121 x67_4))) (ds := []) #[false, false, false, false, false, false, false, false, false] (by kernel_rfl) rfl rfl ⟨hx124_0, hx125_0⟩ (fun hHeld => ?_); refine with_tabW laws_FnAddedAhead.tab14 laws_FnAddedAhead.bits14 (fun HT_ HW_ => ?_)
                                        generalize wr.drew = w46 at HO_6 HO_7 HB hx124_0 hx125_0 hHeld ⊢
                                        refine pure_ (i := 0) (N := some 70) (v := ?_) (a' := ?_) #[true, false, false, false, false, false, false, false, false] rfl rfl (any_of HT_.out (by kernel_rfl)) (fun _ _ _ h => h) (Or.inl ⟨by rfl, ?_⟩) ?_ ?_
                                        rotate_left
                                        · intro w'
                                          go_simp
                                          with_reducible rfl
                                        rotate_left
                                        · simp only [Act.put, List.setIfInBounds_toArray, List.set_cons_zero, List.set_cons_succ, i64_w, i32_w]
                                          rfl
                                        refine pure_ (i := 1) (N := some 71) (v := ?_) (a' := ?_) #[true, true, false, false, false, false, false, false, false] rfl rfl (any_of HT_.out (by kernel_rfl)) (fun _ _ _ h => h) (Or.inl ⟨by rfl, ?_⟩) ?_ ?_
                                        rotate_left
                                        · intro w'
                                          go_simp
                                          with_reducible rfl
                                        rotate_left
                                        · simp only [Act.put, List.setIfInBounds_toArray, List.set_cons_zero, List.set_cons_succ, i64_w, i32_w]
                                          rfl
                                        refine pure_ (i := 2) (N := some 72) (v := ?_) (a' := ?_) #[true, true, true, false, false, false, false, false, false] rfl rfl (any_of HT_.out (by kernel_rfl)) (fun _ _ _ h => h) (Or.inl ⟨by rfl, ?_⟩) ?_ ?_
                                        rotate_left
                                        · intro w'
                                          go_simp
                                          with_reducible rfl
                                        rotate_left
                                        · simp only [Act.put, List.setIfInBounds_toArray, List.set_cons_zero, List.set_cons_succ, i64_w, i32_w]
                                          rfl
                                        refine pure_ (i := 4) (N := some 74) (v := ?_) (a' := ?_) #[true, true, true, false, true, false, false, false, false] rfl rfl (any_of HT_.out (by kernel_rfl)) (fun _ _ _ h => h) (Or.inl ⟨by rfl, ?_⟩) ?_ ?_
                                        rotate_left
                                        · intro w'
                                          go_simp
                                          with_reducible rfl
                                        rotate_left
                                        · simp only [Act.put, List.setIfInBounds_toArray, List.set_cons_zero, List.set_cons_succ, i64_w, i32_w]
                                          rfl
                                        refine pure_ (i := 5) (N := some 75) (v := ?_) (a' := ?_) #[true, true, true, false, true, true, false, false, false] rfl rfl (any_of HT_.out (by kernel_rfl)) (fun _ _ _ h => h) (Or.inl ⟨by rfl, ?_⟩) ?_ ?_
                                        rotate_left
                                        · intro w'
                                          go_simp
                                          with_reducible rfl
                                        rotate_left
                                        · simp only [Act.put, List.setIfInBounds_toArray, List.set_cons_zero, List.set_cons_succ, i64_w, i32_w]
                                          rfl
                                        refine pure_ (i := 6) (N := some 76) (v := ?_) (a' := ?_) #[true, true, true, false, true, true, true, false, false] rfl rfl (any_of HT_.out (by kernel_rfl)) (fun _ _ _ h => h) (Or.inl ⟨by rfl, ?_⟩) ?_ ?_
                                        rotate_left
                                        · intro w'
                                          go_simp
                                          with_reducible rfl
                                        rotate_left
                                        · simp only [Act.put, List.setIfInBounds_toArray, List.set_cons_zero, List.set_cons_succ, i64_w, i32_w]
                                          rfl
                                        refine take_ (i := 3) (N := some 73) (v := ?_) (a' := ?_) #[true, true, true, true, true, true, true, false, false] rfl rfl (take_ofW HT_.out HW_.out (by kernel_rfl)) (fun _ _ _ h => h) (Or.inl ⟨by rfl, ?_⟩) hHeld ?_ ?_
                                        rotate_left
                                        · rintro w' ⟨s0, s1⟩
                                          go_simp
                                          with_reducible rfl
                                        rotate_left
                                        · simp only [Act.put, List.setIfInBounds_toArray, List.set_cons_zero, List.set_cons_succ, i64_w, i32_w]
                                          rfl
                                        refine take_ (i := 7) (N := some 77) (v := ?_) (a' := ?_) #[true, true, true, true, true, true, true, true, false] rfl rfl (take_ofW HT_.out HW_.out (by kernel_rfl)) (fun _ _ _ h => h) (Or.inl ⟨by rfl, ?_⟩) hHeld ?_ ?_
                                        rotate_left
                                        · rintro w' ⟨s0, s1⟩
                                          go_simp
                                          with_reducible rfl
                                        rotate_left
                                        · simp only [Act.put, List.setIfInBounds_toArray, List.set_cons_zero, List.set_cons_succ, i64_w, i32_w]
                                          rfl
                                        refine pure_ (i := 8) (N := some 78) (v := ?_) (a' := ?_) #[true, true, true, true, true, true, true, true, true] rfl rfl (any_of HT_.out (by kernel_rfl)) (fun _ _ _ h => h) (Or.inl ⟨by rfl, ?_⟩) ?_ ?_
                                        rotate_left
                                        · intro w'
                                          go_simp
                                          with_reducible rfl
                                        rotate_left
                                        · simp only [Act.put, List.setIfInBounds_toArray, List.set_cons_zero, List.set_cons_succ, i64_w, i32_w]
                                          rfl
                                        refine done_ (done_of HT_.out (by kernel_rfl)) ?_
                                        try go_wp2
                                        go_ret
                                        exact ⟨by first | rfl | (simp [errW_none, errW_some] <;> rfl) | (simp [*, errW_none, errW_some] <;> rfl), by repeat (first | (with_reducible first | exact HB.out | apply below_alloc | apply pw_below_drewN | apply below_drew1) | exact HB.out)⟩
                                      · rw [if_neg c45] at H
                                        have c45b0 : ((rdOf false t117 x67_4) != (rdOf false t121 x67_4)) = false := by simpa using c45
                                        (try (have c45b1 : decide ((rdOf false t117 x67_4) = (rdOf false t121 x67_4)) = true := by simpa using c45))
                                        (try (have c45b2 : ((rdOf false t117 x67_4) == (rdOf false t121 x67_4)) = true := by simpa using c45))
                                        clear c45
                                        have H' := Aside0.mk H
                                        clear H
                                        try go_wp2
                                        have n0_ := Aside0.mk (Kd.R_drew HO_6.out)
                                        have n1_ := Aside0.mk (Kd.R_drew HO_7.out)
                                        have n2_ := Aside0.mk (below_drew1 HB.out)
                                        clear HO_6
                                        clear HO_7
                                        clear HB
                                        have HO_6 := n0_
                                        have HO_7 := n1_
                                        have HB := n2_
                                        clear n0_ n1_ n2_
                                        obtain ⟨Ao49, co49, eo49⟩ := Kd.R_slice HO_6.out
                                        (first | subst eo49 | (injection eo49 with f1_ f2_ f3_; have f4_ := f1_.symm; have f5_ := f3_.symm; clear f1_ f2_ f3_; subst f4_; subst f5_))
                                        have p124 : 0 ≤ (x67_4 : Int) := of_decide_eq_true (by first | (with_reducible assumption) | assumption)
                                        have q124 : x67_4 < (t117.length : Int) := of_decide_eq_true (by first | (with_reducible assumption) | assumption)
                                        obtain ⟨ad124, e124, hx124_0⟩ := Kd.at_bool (Kd.R_reads' HO_6.out).2.2 x67_4 p124 q124
                                        cases e124
                                        replace p124 := eq_true p124
                                        replace q124 := eq_true q124
                                        have p125 : 0 ≤ (x67_4 : Int) := of_decide_eq_true (by first | (with_reducible assumption) | assumption)
                                        have q125 : x67_4 < (t121.length : Int) := of_decide_eq_true (by first | (with_reducible assumption) | assumption)
                                        obtain ⟨ad125, e125, hx125_0⟩ := Kd.at_bool (Kd.R_reads' HO_7.out).2.2 x67_4 p125 q125
                                        cases e125
                                        replace p125 := eq_true p125
                                        replace q125 := eq_true q125
                                        refine start_ (n := 9) (S := fun w' => w'.cell? (ad124.add (x67_4).toNat) = some (.bool (rdOf false t117 x67_4)) ∧ w'.cell? (ad125.add (x67_4).toNat) = some (.bool (rdOf false t121 x67_4))) (ds := []) #[false, false, false, false, false, false, false, false, false] (by kernel_rfl) rfl rfl ⟨hx124_0, hx125_0⟩ (fun hHeld => ?_); refine with_tabW laws_FnAddedAhead.tab14 laws_FnAddedAhead.bits14 (fun HT_ HW_ => ?_)
                                        generalize wr.drew = w48 at HO_6 HO_7 HB hx124_0 hx125_0 hHeld ⊢
                                        refine pure_ (i := 0) (N := some 70) (v := ?_) (a' := ?_) #[true, false, false, false, false, false, false, false, false] rfl rfl (any_of HT_.out (by kernel_rfl)) (fun _ _ _ h => h) (Or.inl ⟨by rfl, ?_⟩) ?_ ?_
                                        rotate_left
                                        · intro w'
                                          go_simp
                                          with_reducible rfl
                                        rotate_left
                                        · simp only [Act.put, List.setIfInBounds_toArray, List.set_cons_zero, List.set_cons_succ, i64_w, i32_w]
                                          rfl
                                        refine pure_ (i := 1) (N := some 71) (v := ?_) (a' := ?_) #[true, true, false, false, false, false, false, false, false] rfl rfl (any_of HT_.out (by kernel_rfl)) (fun _ _ _ h => h) (Or.inl ⟨by rfl, ?_⟩) ?_ ?_
                                        rotate_left
                                        · intro w'
                                          go_simp
                                          with_reducible rfl
                                        rotate_left
                                        · simp only [Act.put, List.setIfInBounds_toArray, List.set_cons_zero, List.set_cons_succ, i64_w, i32_w]
                                          rfl
                                        refine pure_ (i := 2) (N := some 72) (v := ?_) (a' := ?_) #[true, true, true, false, false, false, false, false, false] rfl rfl (any_of HT_.out (by kernel_rfl)) (fun _ _ _ h => h) (Or.inl ⟨by rfl, ?_⟩) ?_ ?_
                                        rotate_left
                                        · intro w'
                                          go_simp
                                          with_reducible rfl
                                        rotate_left
                                        · simp only [Act.put, List.setIfInBounds_toArray, List.set_cons_zero, List.set_cons_succ, i64_w, i32_w]
                                          rfl
                                        refine pure_ (i := 4) (N := some 74) (v := ?_) (a' := ?_) #[true, true, true, false, true, false, false, false, false] rfl rfl (any_of HT_.out (by kernel_rfl)) (fun _ _ _ h => h) (Or.inl ⟨by rfl, ?_⟩) ?_ ?_
                                        rotate_left
                                        · intro w'
                                          go_simp
                                          with_reducible rfl
                                        rotate_left
                                        · simp only [Act.put, List.setIfInBounds_toArray, List.set_cons_zero, List.set_cons_succ, i64_w, i32_w]
                                          rfl
                                        refine pure_ (i := 5) (N := some 75) (v := ?_) (a' := ?_) #[true, true, true, false, true, true, false, false, false] rfl rfl (any_of HT_.out (by kernel_rfl)) (fun _ _ _ h => h) (Or.inl ⟨by rfl, ?_⟩) ?_ ?_
                                        rotate_left
                                        · intro w'
                                          go_simp
                                          with_reducible rfl
                                        rotate_left
                                        · simp only [Act.put, List.setIfInBounds_toArray, List.set_cons_zero, List.set_cons_succ, i64_w, i32_w]
                                          rfl
                                        refine pure_ (i := 6) (N := some 76) (v := ?_) (a' := ?_) #[true, true, true, false, true, true, true, false, false] rfl rfl (any_of HT_.out (by kernel_rfl)) (fun _ _ _ h => h) (Or.inl ⟨by rfl, ?_⟩) ?_ ?_
                                        rotate_left
                                        · intro w'
                                          go_simp
                                          with_reducible rfl
                                        rotate_left
                                        · simp only [Act.put, List.setIfInBounds_toArray, List.set_cons_zero, List.set_cons_succ, i64_w, i32_w]
                                          rfl
                                        refine take_ (i := 3) (N := some 73) (v := ?_) (a' := ?_) #[true, true, true, true, true, true, true, false, false] rfl rfl (take_ofW HT_.out HW_.out (by kernel_rfl)) (fun _ _ _ h => h) (Or.inl ⟨by rfl, ?_⟩) hHeld ?_ ?_
                                        rotate_left
                                        · rintro w' ⟨s0, s1⟩
                                          go_simp
                                          with_reducible rfl
                                        rotate_left
                                        · simp only [Act.put, List.setIfInBounds_toArray, List.set_cons_zero, List.set_cons_succ, i64_w, i32_w]
                                          rfl
                                        refine take_ (i := 7) (N := some 77) (v := ?_) (a' := ?_) #[true, true, true, true, true, true, true, true, false] rfl rfl (take_ofW HT_.out HW_.out (by kernel_rfl)) (fun _ _ _ h => h) (Or.inl ⟨by rfl, ?_⟩) hHeld ?_ ?_
                                        rotate_left
                                        · rintro w' ⟨s0, s1⟩
                                          go_simp
                                          with_reducible rfl
                                        rotate_left
                                        · simp only [Act.put, List.setIfInBounds_toArray, List.set_cons_zero, List.set_cons_succ, i64_w, i32_w]
                                          rfl
                                        refine pure_ (i := 8) (N := some 78) (v := ?_) (a' := ?_) #[true, true, true, true, true, true, true, true, true] rfl rfl (any_of HT_.out (by kernel_rfl)) (fun _ _ _ h => h) (Or.inl ⟨by rfl, ?_⟩) ?_ ?_
                                        rotate_left
                                        · intro w'
                                          go_simp
                                          with_reducible rfl
                                        rotate_left
                                        · simp only [Act.put, List.setIfInBounds_toArray, List.set_cons_zero, List.set_cons_succ, i64_w, i32_w]
                                          rfl
                                        refine done_ (done_of HT_.out (by kernel_rfl)) ?_
                                        try go_wp2
                                        go_roundg k4
                                        case measure => have := HJ5.out; have := HJ19.out; have := HJ29.out; have := HK4.out; omega
                                        case rel => exact ⟨(wrap64 (x67_4 + 1)), (by first | rfl | (simp; done) | (simp [*]; done) | (simp [Go.Proofs.YtekjffooblcmnaaX.isEmpty_ne]; done)), H', ⟨by have := HJ5.out; have := HJ19.out; have := HJ29.out; have := HK4.out; omega⟩, ⟨by (with_reducible repeat (first | apply Kd.R_alloc | apply Kd.R_drewN | apply Kd.R_drew)); exact HO_6.out⟩, ⟨by (with_reducible repeat (first | apply Kd.R_alloc | apply Kd.R_drewN | apply Kd.R_drew)); exact HO_7.out⟩, ⟨by repeat (first | (with_reducible first | exact HB.out | apply below_alloc | apply pw_below_drewN | apply below_drew1) | exact HB.out)⟩⟩
                                    · rw [if_neg c44] at H
                                      exact absurd H (by simp)
                                  · rw [if_neg c43] at H
                                    exact absurd H (by simp)
                                · rw [if_neg c42] at H
                                  exact absurd H (by simp)
                              · rw [if_neg c41] at H
                                have c41b0 : decide (x67_4 < (t121.length : Int)) = false := decide_eq_false c41
                                clear c41
                                have H' := Aside0.mk H
                                clear H
                                go_wp2
                                go_loopg [82] k4 (fun kq v82 w' => ∃ (x82_5 : Int), v82 = .int .i64 x82_5 ∧ Aside0 (laws_FnAddedAhead.l1 kq l0 t117 (l0.length : Int) x82_5 = some r) ∧ Aside0 (kq ≤ k4) ∧ Aside0 (Kd.R Kd.bool 4 w' w.heap.size (fun _ => True) v118 t117) ∧ Aside0 (Below w.heap.size w w'))
                                case atStart => exact ⟨(0), (by first | rfl | (simp; done) | (simp [*]; done) | (simp [Go.Proofs.YtekjffooblcmnaaX.isEmpty_ne]; done)), H', ⟨Nat.le_refl _⟩, ⟨by (with_reducible repeat (first | apply Kd.R_alloc | apply Kd.R_drewN | apply Kd.R_drew)); exact Kd.R_mono HO_6.out (fun _ hk => trivial)⟩, ⟨by repeat (first | (with_reducible first | exact HB.out | apply below_alloc | apply pw_below_drewN | apply below_drew1) | exact HB.out)⟩⟩
                                case round =>
                                  clear H'
                                  try clear c1
                                  try clear p1
                                  try clear q1
                                  try clear hx1
                                  try clear qi1
                                  try clear c2
                                  try clear p2
                                  try clear c3
                                  try clear c4
                                  try clear c5
                                  try clear c6
                                  try clear p6
                                  try clear c11
                                  try clear c11b0
                                  try clear c11b1
                                  try clear p11
                                  try clear q11
                                  try clear hx11
                                  try clear qi11
                                  try clear c12
                                  try clear c12b0
                                  try clear c12b1
                                  try clear p12
                                  try clear q12
                                  try clear hx12
                                  try clear q13
                                  try clear c14
                                  try clear c15
                                  try clear c15b0
                                  try clear c15b1
                                  try clear c19
                                  try clear c21
                                  try clear c21b0
                                  try clear c22
                                  try clear c22b0
                                  try clear c23
                                  try clear c23b0
                                  try clear c23b1
                                  try clear c25
                                  try clear c27
                                  try clear c27b0
                                  try clear c27b1
                                  try clear c28
                                  try clear c28b0
                                  try clear c28b1
                                  try clear c35
                                  try clear c35b0
                                  try clear c35b1
                                  try clear c35b2
                                  try clear c39
                                  try clear c41
                                  try clear c41b0
                                  try clear c42
                                  try clear c42b0
                                  try clear c43
                                  try clear c43b0
                                  try clear c44
                                  try clear c44b0
                                  try clear c45
                                  try clear c45b0
                                  try clear c45b1
                                  try clear c45b2
                                  try clear hx114_0
                                  try clear hx115_0
                                  try clear hx124_0
                                  try clear hx125_0
                                  try clear p1
                                  try clear p11
                                  try clear p114
                                  try clear p115
                                  try clear p124
                                  try clear p125
                                  try clear p2
                                  try clear q1
                                  try clear q11
                                  try clear q114
                                  try clear q115
                                  try clear q124
                                  try clear q125
                                  try clear q13
                                  obtain ⟨x82_5, rfl, HA, HK5, HO_6, HB⟩ := hrel
                                  cases gk with
                                  | zero => exact absurd HA.out (by simp [laws_FnAddedAhead.l1])
                                  | succ k5 =>
                                    have H := HA.out
                                    clear HA
                                    simp only [laws_FnAddedAhead.l1] at H
                                    by_cases c50 : x82_5 < (l0.length : Int)
                                    · rw [if_pos c50] at H
                                      have c50b0 : decide (x82_5 < (l0.length : Int)) = true := decide_eq_true c50
                                      clear c50
                                      have H' := Aside0.mk H
                                      clear H
                                      go_wp2
                                      go_loopg [86] k5 (fun kq v86 w' => ∃ (x86_6 : Int), v86 = .int .i64 x86_6 ∧ Aside0 (laws_FnAddedAhead.l2 kq l0 t117 x82_5 (l0.length : Int) x82_5 x82_5 x86_6 = some r) ∧ Aside0 (kq ≤ k5) ∧ Aside0 (Kd.R Kd.bool 4 w' w.heap.size (fun _ => True) v118 t117) ∧ Aside0 (Below w.heap.size w w'))
                                      case atStart => exact ⟨(0), (by first | rfl | (simp; done) | (simp [*]; done) | (simp [Go.Proofs.YtekjffooblcmnaaX.isEmpty_ne]; done)), H', ⟨Nat.le_refl _⟩, ⟨by (with_reducible repeat (first | apply Kd.R_alloc | apply Kd.R_drewN | apply Kd.R_drew)); exact HO_6.out⟩, ⟨by repeat (first | (with_reducible first | exact HB.out | apply below_alloc | apply pw_below_drewN | apply below_drew1) | exact HB.out)⟩⟩
                                      case round =>
                                        clear H'
                                        try clear c1
                                        try clear p1
                                        try clear q1
                                        try clear hx1
                                        try clear qi1
                                        try clear c2
                                        try clear p2
                                        try clear c3
                                        try clear c4
                                        try clear c5
                                        try clear c6
                                        try clear p6
                                        try clear c11
                                        try clear c11b0
                                        try clear c11b1
                                        try clear p11
                                        try clear q11
                                        try clear hx11
                                        try clear qi11
                                        try clear c12
                                        try clear c12b0
                                        try clear c12b1
                                        try clear p12
                                        try clear q12
                                        try clear hx12
                                        try clear q13
                                        try clear c14
                                        try clear c15
                                        try clear c15b0
                                        try clear c15b1
                                        try clear c19
                                        try clear c21
                                        try clear c21b0
                                        try clear c22
                                        try clear c22b0
                                        try clear c23
                                        try clear c23b0
                                        try clear c23b1
                                        try clear c25
                                        try clear c27
                                        try clear c27b0
                                        try clear c27b1
                                        try clear c28
                                        try clear c28b0
                                        try clear c28b1
                                        try clear c35
                                        try clear c35b0
                                        try clear c35b1
                                        try clear c35b2
                                        try clear c39
                                        try clear c41
                                        try clear c41b0
                                        try clear c42
                                        try clear c42b0
                                        try clear c43
                                        try clear c43b0
                                        try clear c44
                                        try clear c44b0
                                        try clear c45
                                        try clear c45b0
                                        try clear c45b1
                                        try clear c45b2
                                        try clear c50
                                        try clear c50b0
                                        try clear hx114_0
                                        try clear hx115_0
                                        try clear hx124_0
                                        try clear hx125_0
                                        try clear p1
                                        try clear p11
                                        try clear p114
                                        try clear p115
                                        try clear p12
                                        try clear p124
                                        try clear p125
                                        try clear p2
                                        try clear p6
                                        try clear q1
                                        try clear q11
                                        try clear q114
                                        try clear q115
                                        try clear q12
                                        try clear q124
                                        try clear q125
                                        try clear q13
                                        obtain ⟨x86_6, rfl, HA, HK6, HO_6, HB⟩ := hrel
                                        cases gk with
                                        | zero => exact absurd HA.out (by simp [laws_FnAddedAhead.l2])
                                        | succ k6 =>
                                          have H := HA.out
                                          clear HA
                                          simp only [laws_FnAddedAhead.l2] at H
                                          by_cases c51 : x86_6 < x82_5
                                          · rw [if_pos c51] at H
                                            have c51b0 : decide (x86_6 < x82_5) = true := decide_eq_true c51
                                            clear c51
                                            by_cases c52 : 0 ≤ x82_5
                                            · rw [if_pos c52] at H
                                              have c52b0 : decide (0 ≤ x82_5) = true := decide_eq_true c52
                                              clear c52
                                              by_cases c53 : x82_5 < (t117.length : Int)
                                              · rw [if_pos c53] at H
                                                have c53b0 : decide (x82_5 < (t117.length : Int)) = true := decide_eq_true c53
                                                clear c53
                                                obtain ⟨bq54, hbq54⟩ : ∃ b_ : Bool, b_ = (rdOf false t117 x82_5) := ⟨_, rfl⟩
                                                replace H : (if bq54 = true then (if 0 ≤ x86_6 then (if x86_6 < (t117.length : Int) then (if rdOf false t117 x86_6 = true then (if x82_5 < (l0.length : Int) then (if x86_6 < (l0.length : Int) then (if (rdOf ByteArray.empty l0 x82_5).toList = (rdOf ByteArray.empty l0 x86_6).toList then ((laws_plain.f k6 (rdOf ByteArray.empty l0 x82_5)).bind fun t131 => (if t131 = true then (some false) else (laws_FnAddedAhead.l2 k6 l0 t117 x82_5 (l0.length : Int) x82_5 x82_5 (wrap64 (x86_6 + 1))))) else (laws_FnAddedAhead.l2 k6 l0 t117 x82_5 (l0.length : Int) x82_5 x82_5 (wrap64 (x86_6 + 1)))) else (none)) else (none)) else (laws_FnAddedAhead.l2 k6 l0 t117 x82_5 (l0.length : Int) x82_5 x82_5 (wrap64 (x86_6 + 1)))) else (none)) else (none)) else (laws_FnAddedAhead.l2 k6 l0 t117 x82_5 (l0.length : Int) x82_5 x82_5 (wrap64 (x86_6 + 1)))) = some r := by rw [← hbq54] at H; exact H
                                                have Nbq54 := Aside0.mk hbq54
                                                clear hbq54
                                                by_cases c55 : bq54 = true
                                                · subst c55
                                                  have H1 : (if 0 ≤ x86_6 then (if x86_6 < (t117.length : Int) then (if rdOf false t117 x86_6 = true then (if x82_5 < (l0.length : Int) then (if x86_6 < (l0.length : Int) then (if (rdOf ByteArray.empty l0 x82_5).toList = (rdOf ByteArray.empty l0 x86_6).toList then ((laws_plain.f k6 (rdOf ByteArray.empty l0 x82_5)).bind fun t131 => (if t131 = true then (some false) else (laws_FnAddedAhead.l2 k6 l0 t117 x82_5 (l0.length : Int) x82_5 x82_5 (wrap64 (x86_6 + 1))))) else (laws_FnAddedAhead.l2 k6 l0 t117 x82_5 (l0.length : Int) x82_5 x82_5 (wrap64 (x86_6 + 1)))) else (none)) else (none)) else (laws_FnAddedAhead.l2 k6 l0 t117 x82_5 (l0.length : Int) x82_5 x82_5 (wrap64 (x86_6 + 1)))) else (none)) else (none)) = some r := by rw [if_pos rfl] at H; exact H
                                                  clear H
                                                  have H := H1
                                                  clear H1
                                                  by_cases c56 : 0 ≤ x86_6
                                                  · rw [if_pos c56] at H
                                                    have c56b0 : decide (0 ≤ x86_6) = true := decide_eq_true c56
                                                    clear c56
                                                    by_cases c57 : x86_6 < (t117.length : Int)
                                                    · rw [if_pos c57] at H
                                                      have c57b0 : decide (x86_6 < (t117.length : Int)) = true := decide_eq_true c57
                                                      clear c57
                                                      obtain ⟨bq58, hbq58⟩ : ∃ b_ : Bool, b_ = (rdOf false t117 x86_6) := ⟨_, rfl⟩
                                                      replace H : (if bq58 = true then (if x82_5 < (l0.length : Int) then (if x86_6 < (l0.length : Int) then (if (rdOf ByteArray.empty l0 x82_5).toList = (rdOf ByteArray.empty l0 x86_6).toList then ((laws_plain.f k6 (rdOf ByteArray.empty l0 x82_5)).bind fun t131 => (if t131 = true then (some false) else (laws_FnAddedAhead.l2 k6 l0 t117 x82_5 (l0.length : Int) x82_5 x82_5 (wrap64 (x86_6 + 1))))) else (laws_FnAddedAhead.l2 k6 l0 t117 x82_5 (l0.length : Int) x82_5 x82_5 (wrap64 (x86_6 + 1)))) else (none)) else (none)) else (laws_FnAddedAhead.l2 k6 l0 t117 x82_5 (l0.length : Int) x82_5 x82_5 (wrap64 (x86_6 + 1)))) = some r := by rw [← hbq58] at H; exact H
                                                      have Nbq58 := Aside0.mk hbq58
                                                      clear hbq58
                                                      by_cases c59 : bq58 = true
                                                      · subst c59
                                                        have H1 : (if x82_5 < (l0.length : Int) then (if x86_6 < (l0.length : Int) then (if (rdOf ByteArray.empty l0 x82_5).toList = (rdOf ByteArray.empty l0 x86_6).toList then ((laws_plain.f k6 (rdOf ByteArray.empty l0 x82_5)).bind fun t131 => (if t131 = true then (some false) else (laws_FnAddedAhead.l2 k6 l0 t117 x82_5 (l0.length : Int) x82_5 x82_5 (wrap64 (x86_6 + 1))))) else (laws_FnAddedAhead.l2 k6 l0 t117 x82_5 (l0.length : Int) x82_5 x82_5 (wrap64 (x86_6 + 1)))) else (none)) else (none)) = some r := by rw [if_pos rfl] at H; exact H
                                                        clear H
                                                        have H := H1
                                                        clear H1
                                                        by_cases c60 : x82_5 < (l0.length : Int)
                                                        · rw [if_pos c60] at H
                                                          have c60b0 : decide (x82_5 < (l0.length : Int)) = true := decide_eq_true c60
                                                          clear c60
                                                          by_cases c61 : x86_6 < (l0.length : Int)
                                                          · rw [if_pos c61] at H
                                                            have c61b0 : decide (x86_6 < (l0.length : Int)) = true := decide_eq_true c61
                                                            clear c61
                                                            by_cases c62 : (rdOf ByteArray.empty l0 x82_5).toList = (rdOf ByteArray.empty l0 x86_6).toList
                                                            · rw [if_pos c62] at H
                                                              have c62b0 : ((rdOf ByteArray.empty l0 x82_5).toList == (rdOf ByteArray.empty l0 x86_6).toList) = true := beq_iff_eq.mpr c62
                                                              have c62b1 : ((rdOf ByteArray.empty l0 x82_5).toList != (rdOf ByteArray.empty l0 x86_6).toList) = false := bne_eq_false_iff_eq.mpr c62
                                                              clear c62
                                                              replace H := Option.bind_eq_some_iff.mp H
                                                              obtain ⟨t131, A630, H⟩ := H
                                                              replace H : (if t131 = true then (some false) else (laws_FnAddedAhead.l2 k6 l0 t117 x82_5 (l0.length : Int) x82_5 x82_5 (wrap64 (x86_6 + 1)))) = some r := H
                                                              have A63 := Aside0.mk A630
                                                              clear A630
                                                              by_cases c64 : t131 = true
                                                              · subst c64
                                                                have H1 : (some false) = some r := by rw [if_pos rfl] at H; exact H
                                                                clear H
                                                                have H := H1
                                                                clear H1
                                                                obtain rfl := Option.some.inj H
                                                                try go_wp2
                                                                have n0_ := Aside0.mk (Kd.R_drew HO_6.out)
                                                                have n1_ := Aside0.mk (below_drew1 HB.out)
                                                                clear HO_6
                                                                clear HB
                                                                have HO_6 := n0_
                                                                have HB := n1_
                                                                clear n0_ n1_
                                                                obtain ⟨Ao66, co66, eo66⟩ := Kd.R_slice HO_6.out
                                                                (first | subst eo66 | (injection eo66 with f1_ f2_ f3_; have f4_ := f1_.symm; have f5_ := f3_.symm; clear f1_ f2_ f3_; subst f4_; subst f5_))
                                                                have p126 : 0 ≤ (x82_5 : Int) := of_decide_eq_true (by first | (with_reducible assumption) | assumption)
                                                                have q126 : x82_5 < (t117.length : Int) := of_decide_eq_true (by first | (with_reducible assumption) | assumption)
                                                                obtain ⟨ad126, e126, hx126_0⟩ := Kd.at_bool (Kd.R_reads' HO_6.out).2.2 x82_5 p126 q126
                                                                (try rw [← Nbq54.out] at hx126_0)
                                                                (try rw [← Nbq58.out] at hx126_0)
                                                                cases e126
                                                                replace p126 := eq_true p126
                                                                replace q126 := eq_true q126
                                                                have p127 : 0 ≤ (x86_6 : Int) := of_decide_eq_true (by first | (with_reducible assumption) | assumption)
                                                                have q127 : x86_6 < (t117.length : Int) := of_decide_eq_true (by first | (with_reducible assumption) | assumption)
                                                                obtain ⟨ad127, e127, hx127_0⟩ := Kd.at_bool (Kd.R_reads' HO_6.out).2.2 x86_6 p127 q127
                                                                (try rw [← Nbq54.out] at hx127_0)
                                                                (try rw [← Nbq58.out] at hx127_0)
                                                                obtain rfl : ad126 = ad127 := (by injection e127)
                                                                replace p127 := eq_true p127
                                                                replace q127 := eq_true q127
                                                                have p128 : 0 ≤ (x82_5 : Int) := of_decide_eq_true (by first | (with_reducible assumption) | assumption)
                                                                have q128 : x82_5 < (l0.length : Int) := of_decide_eq_true (by first | (with_reducible assumption) | assumption)
                                                                obtain ⟨ad128, e128, hx128_0⟩ := Kd.at_string HR0.out x82_5 p128 q128
                                                                have hw128_0 := hx128_0
                                                                cases e128
                                                                replace hx128_0 := (HB.out.cell (World.block_lt_of_cell? w _ hx128_0)).trans hx128_0
                                                                replace p128 := eq_true p128
                                                                replace q128 := eq_true q128
                                                                have p129 : 0 ≤ (x86_6 : Int) := of_decide_eq_true (by first | (with_reducible assumption) | assumption)
                                                                have q129 : x86_6 < (l0.length : Int) := of_decide_eq_true (by first | (with_reducible assumption) | assumption)
                                                                obtain ⟨ad129, e129, hx129_0⟩ := Kd.at_string HR0.out x86_6 p129 q129
                                                                have hw129_0 := hx129_0
                                                                obtain rfl : ad128 = ad129 := (by injection e129)
                                                                replace hx129_0 := (HB.out.cell (World.block_lt_of_cell? w _ hx129_0)).trans hx129_0
                                                                replace p129 := eq_true p129
                                                                replace q129 := eq_true q129
                                                                have p130 : 0 ≤ (x82_5 : Int) := of_decide_eq_true (by first | (with_reducible assumption) | assumption)
                                                                have q130 : x82_5 < (l0.length : Int) := of_decide_eq_true (by first | (with_reducible assumption) | assumption)
                                                                obtain ⟨ad130, e130, hx130_0⟩ := Kd.at_string HR0.out x82_5 p130 q130
                                                                have hw130_0 := hx130_0
                                                                obtain rfl : ad128 = ad130 := (by injection e130)
                                                                replace hx130_0 := (HB.out.cell (World.block_lt_of_cell? w _ hx130_0)).trans hx130_0
                                                                replace p130 := eq_true p130
                                                                replace q130 := eq_true q130
                                                                refine start_ (n := 28) (S := fun w' => w'.cell? (ad126.add (x82_5).toNat) = some (.bool true) ∧ w'.cell? (ad126.add (x86_6).toNat) = some (.bool true) ∧ w'.cell? (ad128.add (x82_5).toNat) = some (.string (rdOf ByteArray.empty l0 x82_5)) ∧ w'.cell? (ad128.add (x86_6).toNat) = some (.string (rdOf ByteArray.empty l0 x86_6)) ∧ w'.cell? (ad128.add (x82_5).toNat) = some (.string (rdOf ByteArray.empty l0 x82_5))) (ds := []) #[false, false, false, false, false, false, false, false, false, false, false, false, false, false, false, false, false, false, false, false, false, false, false, false, false, false, false, false] (by kernel_rfl) rfl rfl ⟨hx126_0, hx127_0, ((HB.out.cell (World.block_lt_of_cell? w _ hw128_0)).trans hw128_0), ((HB.out.cell (World.block_lt_of_cell? w _ hw129_0)).trans hw129_0), ((HB.out.cell (World.block_lt_of_cell? w _ hw130_0)).trans hw130_0)⟩ (fun hHeld => ?_); refine with_tabW laws_FnAddedAhead.tab23 laws_FnAddedAhead.bits23 (fun HT_ HW_ => ?_)
                                                                generalize wr.drew = w65 at HO_6 HB hx126_0 hx127_0 hx128_0 hx129_0 hx130_0 hHeld ⊢
                                                                refine pure_ (i := 0) (N := some 89) (v := ?_) (a' := ?_) #[true, false, false, false, false, false, false, false, false, false, false, false, false, false, false, false, false, false, false, false, false, false, false, false, false, false, false, false] rfl rfl (any_of HT_.out (by kernel_rfl)) (fun _ _ _ h => h) (Or.inl ⟨by rfl, ?_⟩) ?_ ?_
                                                                rotate_left
                                                                · intro w'
                                                                  go_simp
                                                                  with_reducible rfl
                                                                rotate_left
                                                                · simp only [Act.put, List.setIfInBounds_toArray, List.set_cons_zero, List.set_cons_succ, i64_w, i32_w]
                                                                  rfl
                                                                refine pure_ (i := 1) (N := some 90) (v := ?_) (a' := ?_) #[true, true, false, false, false, false, false, false, false, false, false, false, false, false, false, false, false, false, false, false, false, false, false, false, false, false, false, false] rfl rfl (any_of HT_.out (by kernel_rfl)) (fun _ _ _ h => h) (Or.inl ⟨by rfl, ?_⟩) ?_ ?_
                                                                rotate_left
                                                                · intro w'
                                                                  go_simp
                                                                  with_reducible rfl
                                                                rotate_left
                                                                · simp only [Act.put, List.setIfInBounds_toArray, List.set_cons_zero, List.set_cons_succ, i64_w, i32_w]
                                                                  rfl
                                                                refine pure_ (i := 2) (N := some 91) (v := ?_) (a' := ?_) #[true, true, true, false, false, false, false, false, false, false, false, false, false, false, false, false, false, false, false, false, false, false, false, false, false, false, false, false] rfl rfl (any_of HT_.out (by kernel_rfl)) (fun _ _ _ h => h) (Or.inl ⟨by rfl, ?_⟩) ?_ ?_
                                                                rotate_left
                                                                · intro w'
                                                                  go_simp
                                                                  with_reducible rfl
                                                                rotate_left
                                                                · simp only [Act.put, List.setIfInBounds_toArray, List.set_cons_zero, List.set_cons_succ, i64_w, i32_w]
                                                                  rfl
                                                                refine take_ (i := 3) (N := some 92) (v := ?_) (a' := ?_) #[true, true, true, true, false, false, false, false, false, false, false, false, false, false, false, false, false, false, false, false, false, false, false, false, false, false, false, false] rfl rfl (take_ofW HT_.out HW_.out (by kernel_rfl)) (fun _ _ _ h => h) (Or.inl ⟨by rfl, ?_⟩) hHeld ?_ ?_
                                                                rotate_left
                                                                · rintro w' ⟨s0, s1, s2, s3, s4⟩
                                                                  go_simp
                                                                  with_reducible rfl
                                                                rotate_left
                                                                · simp only [Act.put, List.setIfInBounds_toArray, List.set_cons_zero, List.set_cons_succ, i64_w, i32_w]
                                                                  rfl
                                                                refine pure_ (i := 4) (N := some 93) (v := ?_) (a' := ?_) #[true, true, true, true, true, false, false, false, false, false, false, false, false, false, false, false, false, false, false, false, false, false, false, false, false, false, false, false] rfl rfl (any_of HT_.out (by kernel_rfl)) (fun _ _ _ h => h) (Or.inl ⟨by rfl, ?_⟩) ?_ ?_
                                                                rotate_left
                                                                · intro w'
                                                                  go_simp
                                                                  with_reducible rfl
                                                                rotate_left
                                                                · simp only [Act.put, List.setIfInBounds_toArray, List.set_cons_zero, List.set_cons_succ, i64_w, i32_w]
                                                                  rfl
                                                                refine pure_ (i := 5) (N := some 94) (v := ?_) (a' := ?_) #[true, true, true, true, true, true, false, false, false, false, false, false, false, false, false, false, false, false, false, false, false, false, false, false, false, false, false, false] rfl rfl (any_of HT_.out (by kernel_rfl)) (fun _ _ _ h => h) (Or.inl ⟨by rfl, ?_⟩) ?_ ?_
                                                                rotate_left
                                                                · intro w'
                                                                  go_simp
                                                                  with_reducible rfl
                                                                rotate_left
                                                                · simp only [Act.put, List.setIfInBounds_toArray, List.set_cons_zero, List.set_cons_succ, i64_w, i32_w]
                                                                  rfl
                                                                refine pure_ (i := 6) (N := some 95) (v := ?_) (a' := ?_) #[true, true, true, true, true, true, true, false, false, false, false, false, false, false, false, false, false, false, false, false, false, false, false, false, false, false, false, false] rfl rfl (any_of HT_.out (by kernel_rfl)) (fun _ _ _ h => h) (Or.inl ⟨by rfl, ?_⟩) ?_ ?_
                                                                rotate_left
                                                                · intro w'
                                                                  go_simp
                                                                  with_reducible rfl
                                                                rotate_left
                                                                · simp only [Act.put, List.setIfInBounds_toArray, List.set_cons_zero, List.set_cons_succ, i64_w, i32_w]
                                                                  rfl
                                                                refine pure_ (i := 7) (N := some 96) (v := ?_) (a' := ?_) #[true, true, true, true, true, true, true, true, false, false, false, false, false, false, false, false, false, false, false, false, false, false, false, false, false, false, false, false] rfl rfl (any_of HT_.out (by kernel_rfl)) (fun _ _ _ h => h) (Or.inl ⟨by rfl, ?_⟩) ?_ ?_
                                                                rotate_left
                                                                · intro w'
                                                                  go_simp
                                                                  with_reducible rfl
                                                                rotate_left
                                                                · simp only [Act.put, List.setIfInBounds_toArray, List.set_cons_zero, List.set_cons_succ, i64_w, i32_w]
                                                                  rfl
                                                                refine take_ (i := 8) (N := some 97) (v := ?_) (a' := ?_) #[true, true, true, true, true, true, true, true, true, false, false, false, false, false, false, false, false, false, false, false, false, false, false, false, false, false, false, false] rfl rfl (take_ofW HT_.out HW_.out (by kernel_rfl)) (fun _ _ _ h => h) (Or.inl ⟨by rfl, ?_⟩) hHeld ?_ ?_
                                                                rotate_left
                                                                · rintro w' ⟨s0, s1, s2, s3, s4⟩
                                                                  go_simp
                                                                  with_reducible rfl
                                                                rotate_left
                                                                · simp only [Act.put, List.setIfInBounds_toArray, List.set_cons_zero, List.set_cons_succ, i64_w, i32_w]
                                                                  rfl
                                                                refine pure_ (i := 9) (N := some 98) (v := ?_) (a' := ?_) #[true, true, true, true, true, true, true, true, true, true, false, false, false, false, false, false, false, false, false, false, false, false, false, false, false, false, false, false] rfl rfl (any_of HT_.out (by kernel_rfl)) (fun _ _ _ h => h) (Or.inl ⟨by rfl, ?_⟩) ?_ ?_
                                                                rotate_left
                                                                · intro w'
                                                                  go_simp
                                                                  with_reducible rfl
                                                                rotate_left
                                                                · simp only [Act.put, List.setIfInBounds_toArray, List.set_cons_zero, List.set_cons_succ, i64_w, i32_w]
                                                                  rfl
                                                                refine pure_ (i := 10) (N := some 99) (v := ?_) (a' := ?_) #[true, true, true, true, true, true, true, true, true, true, true, false, false, false, false, false, false, false, false, false, false, false, false, false, false, false, false, false] rfl rfl (any_of HT_.out (by kernel_rfl)) (fun _ _ _ h => h) (Or.inl ⟨by rfl, ?_⟩) ?_ ?_
                                                                rotate_left
                                                                · intro w'
                                                                  go_simp
                                                                  with_reducible rfl
                                                                rotate_left
                                                                · simp only [Act.put, List.setIfInBounds_toArray, List.set_cons_zero, List.set_cons_succ, i64_w, i32_w]
                                                                  rfl
                                                                refine pure_ (i := 11) (N := some 100) (v := ?_) (a' := ?_) #[true, true, true, true, true, true, true, true, true, true, true, true, false, false, false, false, false, false, false, false, false, false, false, false, false, false, false, false] rfl rfl (any_of HT_.out (by kernel_rfl)) (fun _ _ _ h => h) (Or.inl ⟨by rfl, ?_⟩) ?_ ?_
                                                                rotate_left
                                                                · intro w'
                                                                  go_simp
                                                                  with_reducible rfl
                                                                rotate_left
                                                                · simp only [Act.put, List.setIfInBounds_toArray, List.set_cons_zero, List.set_cons_succ, i64_w, i32_w]
                                                                  rfl
                                                                refine pure_ (i := 12) (N := some 101) (v := ?_) (a' := ?_) #[true, true, true, true, true, true, true, true, true, true, true, true, true, false, false, false, false, false, false, false, false, false, false, false, false, false, false, false] rfl rfl (any_of HT_.out (by kernel_rfl)) (fun _ _ _ h => h) (Or.inl ⟨by rfl, ?_⟩) ?_ ?_
                                                                rotate_left
                                                                · intro w'
                                                                  go_simp
                                                                  with_reducible rfl
                                                                rotate_left
                                                                · simp only [Act.put, List.setIfInBounds_toArray, List.set_cons_zero, List.set_cons_succ, i64_w, i32_w]
                                                                  rfl
                                                                refine pure_ (i := 13) (N := some 102) (v := ?_) (a' := ?_) #[true, true, true, true, true, true, true, true, true, true, true, true, true, true, false, false, false, false, false, false, false, false, false, false, false, false, false, false] rfl rfl (any_of HT_.out (by kernel_rfl)) (fun _ _ _ h => h) (Or.inl ⟨by rfl, ?_⟩) ?_ ?_
                                                                rotate_left
                                                                · intro w'
                                                                  go_simp
                                                                  with_reducible rfl
                                                                rotate_left
                                                                · simp only [Act.put, List.setIfInBounds_toArray, List.set_cons_zero, List.set_cons_succ, i64_w, i32_w]
                                                                  rfl
                                                                refine pure_ (i := 15) (N := some 104) (v := ?_) (a' := ?_) #[true, true, true, true, true, true, true, true, true, true, true, true, true, true, false, true, false, false, false, false, false, false, false, false, false, false, false, false] rfl rfl (any_of HT_.out (by kernel_rfl)) (fun _ _ _ h => h) (Or.inl ⟨by rfl, ?_⟩) ?_ ?_
                                                                rotate_left
                                                                · intro w'
                                                                  go_simp
                                                                  with_reducible rfl
                                                                rotate_left
                                                                · simp only [Act.put, List.setIfInBounds_toArray, List.set_cons_zero, List.set_cons_succ, i64_w, i32_w]
                                                                  rfl
                                                                refine pure_ (i := 16) (N := some 105) (v := ?_) (a' := ?_) #[true, true, true, true, true, true, true, true, true, true, true, true, true, true, false, true, true, false, false, false, false, false, false, false, false, false, false, false] rfl rfl (any_of HT_.out (by kernel_rfl)) (fun _ _ _ h => h) (Or.inl ⟨by rfl, ?_⟩) ?_ ?_
                                                                rotate_left
                                                                · intro w'
                                                                  go_simp
                                                                  with_reducible rfl
                                                                rotate_left
                                                                · simp only [Act.put, List.setIfInBounds_toArray, List.set_cons_zero, List.set_cons_succ, i64_w, i32_w]
                                                                  rfl
                                                                refine pure_ (i := 17) (N := some 106) (v := ?_) (a' := ?_) #[true, true, true, true, true, true, true, true, true, true, true, true, true, true, false, true, true, true, false, false, false, false, false, false, false, false, false, false] rfl rfl (any_of HT_.out (by kernel_rfl)) (fun _ _ _ h => h) (Or.inl ⟨by rfl, ?_⟩) ?_ ?_
                                                                rotate_left
                                                                · intro w'
                                                                  go_simp
                                                                  with_reducible rfl
                                                                rotate_left
                                                                · simp only [Act.put, List.setIfInBounds_toArray, List.set_cons_zero, List.set_cons_succ, i64_w, i32_w]
                                                                  rfl
                                                                refine take_ (i := 14) (N := some 103) (v := ?_) (a' := ?_) #[true, true, true, true, true, true, true, true, true, true, true, true, true, true, true, true, true, true, false, false, false, false, false, false, false, false, false, false] rfl rfl (take_ofW HT_.out HW_.out (by kernel_rfl)) (fun _ _ _ h => h) (Or.inl ⟨by rfl, ?_⟩) hHeld ?_ ?_
                                                                rotate_left
                                                                · rintro w' ⟨s0, s1, s2, s3, s4⟩
                                                                  go_simp
                                                                  with_reducible rfl
                                                                rotate_left
                                                                · simp only [Act.put, List.setIfInBounds_toArray, List.set_cons_zero, List.set_cons_succ, i64_w, i32_w]
                                                                  rfl
                                                                refine take_ (i := 18) (N := some 107) (v := ?_) (a' := ?_) #[true, true, true, true, true, true, true, true, true, true, true, true, true, true, true, true, true, true, true, false, false, false, false, false, false, false, false, false] rfl rfl (take_ofW HT_.out HW_.out (by kernel_rfl)) (fun _ _ _ h => h) (Or.inl ⟨by rfl, ?_⟩) hHeld ?_ ?_
                                                                rotate_left
                                                                · rintro w' ⟨s0, s1, s2, s3, s4⟩
                                                                  go_simp
                                                                  with_reducible rfl
                                                                rotate_left
                                                                · simp only [Act.put, List.setIfInBounds_toArray, List.set_cons_zero, List.set_cons_succ, i64_w, i32_w]
                                                                  rfl
                                                                refine pure_ (i := 19) (N := some 108) (v := ?_) (a' := ?_) #[true, true, true, true, true, true, true, true, true, true, true, true, true, true, true, true, true, true, true, true, false, false, false, false, false, false, false, false] rfl rfl (any_of HT_.out (by kernel_rfl)) (fun _ _ _ h => h) (Or.inl ⟨by rfl, ?_⟩) ?_ ?_
                                                                rotate_left
                                                                · intro w'
                                                                  go_simp
                                                                  with_reducible rfl
                                                                rotate_left
                                                                · simp only [Act.put, List.setIfInBounds_toArray, List.set_cons_zero, List.set_cons_succ, i64_w, i32_w]
                                                                  rfl
                                                                refine pure_ (i := 20) (N := some 109) (v := ?_) (a' := ?_) #[true, true, true, true, true, true, true, true, true, true, true, true, true, true, true, true, true, true, true, true, true, false, false, false, false, false, false, false] rfl rfl (any_of HT_.out (by kernel_rfl)) (fun _ _ _ h => h) (Or.inl ⟨by rfl, ?_⟩) ?_ ?_
                                                                rotate_left
                                                                · intro w'
                                                                  go_simp
                                                                  with_reducible rfl
                                                                rotate_left
                                                                · simp only [Act.put, List.setIfInBounds_toArray, List.set_cons_zero, List.set_cons_succ, i64_w, i32_w]
                                                                  rfl
                                                                refine pure_ (i := 21) (N := some 110) (v := ?_) (a' := ?_) #[true, true, true, true, true, true, true, true, true, true, true, true, true, true, true, true, true, true, true, true, true, true, false, false, false, false, false, false] rfl rfl (any_of HT_.out (by kernel_rfl)) (fun _ _ _ h => h) (Or.inl ⟨by rfl, ?_⟩) ?_ ?_
                                                                rotate_left
                                                                · intro w'
                                                                  go_simp
                                                                  with_reducible rfl
                                                                rotate_left
                                                                · simp only [Act.put, List.setIfInBounds_toArray, List.set_cons_zero, List.set_cons_succ, i64_w, i32_w]
                                                                  rfl
                                                                refine pure_ (i := 22) (N := some 111) (v := ?_) (a' := ?_) #[true, true, true, true, true, true, true, true, true, true, true, true, true, true, true, true, true, true, true, true, true, true, true, false, false, false, false, false] rfl rfl (any_of HT_.out (by kernel_rfl)) (fun _ _ _ h => h) (Or.inl ⟨by rfl, ?_⟩) ?_ ?_
                                                                rotate_left
                                                                · intro w'
                                                                  go_simp
                                                                  with_reducible rfl
                                                                rotate_left
                                                                · simp only [Act.put, List.setIfInBounds_toArray, List.set_cons_zero, List.set_cons_succ, i64_w, i32_w]
                                                                  rfl
                                                                refine pure_ (i := 23) (N := some 112) (v := ?_) (a' := ?_) #[true, true, true, true, true, true, true, true, true, true, true, true, true, true, true, true, true, true, true, true, true, true, true, true, false, false, false, false] rfl rfl (any_of HT_.out (by kernel_rfl)) (fun _ _ _ h => h) (Or.inl ⟨by rfl, ?_⟩) ?_ ?_
                                                                rotate_left
                                                                · intro w'
                                                                  go_simp
                                                                  with_reducible rfl
                                                                rotate_left
                                                                · simp only [Act.put, List.setIfInBounds_toArray, List.set_cons_zero, List.set_cons_succ, i64_w, i32_w]
                                                                  rfl
                                                                refine pure_ (i := 24) (N := some 113) (v := ?_) (a' := ?_) #[true, true, true, true, true, true, true, true, true, true, true, true, true, true, true, true, true, true, true, true, true, true, true, true, true, false, false, false] rfl rfl (any_of HT_.out (by kernel_rfl)) (fun _ _ _ h => h) (Or.inl ⟨by rfl, ?_⟩) ?_ ?_
                                                                rotate_left
                                                                · intro w'
                                                                  go_simp
                                                                  with_reducible rfl
                                                                rotate_left
                                                                · simp only [Act.put, List.setIfInBounds_toArray, List.set_cons_zero, List.set_cons_succ, i64_w, i32_w]
                                                                  rfl
                                                                refine take_ (i := 25) (N := some 114) (v := ?_) (a' := ?_) #[true, true, true, true, true, true, true, true, true, true, true, true, true, true, true, true, true, true, true, true, true, true, true, true, true, true, false, false] rfl rfl (take_ofW HT_.out HW_.out (by kernel_rfl)) (fun _ _ _ h => h) (Or.inl ⟨by rfl, ?_⟩) hHeld ?_ ?_
                                                                rotate_left
                                                                · rintro w' ⟨s0, s1, s2, s3, s4⟩
                                                                  go_simp
                                                                  with_reducible rfl
                                                                rotate_left
                                                                · simp only [Act.put, List.setIfInBounds_toArray, List.set_cons_zero, List.set_cons_succ, i64_w, i32_w]
                                                                  rfl
                                                                refine one_ (i := 26) (N := some 115) #[true, true, true, true, true, true, true, true, true, true, true, true, true, true, true, true, true, true, true, true, true, true, true, true, true, true, true, false] rfl rfl (one_of HT_.out (by kernel_rfl)) (by decide) (fun K hK => ?_)
                                                                refine goes_ Try.func8 (by kernel_rfl) rfl #[.string (rdOf ByteArray.empty l0 x82_5)] (by rfl) rfl rfl (by (try simp only [List.map_toArray, List.map_cons, List.map_nil]); first | done | rfl | (simp only [List.length_drop, List.length_take]; rfl)) ?_
                                                                with_reducible refine (laws_plain.calls k6 (rdOf ByteArray.empty l0 x82_5) true _ A63.out).mono ?_
                                                                rintro e w' ⟨rfl, ⟨nd, rfl⟩⟩
                                                                refine ⟨_, rfl, ?_⟩
                                                                refine hK.out _ _ ⟨hHeld.1, hHeld.2.1, ((HB.out.cell (World.block_lt_of_cell? w _ hw128_0)).trans hw128_0), ((HB.out.cell (World.block_lt_of_cell? w _ hw129_0)).trans hw129_0), ((HB.out.cell (World.block_lt_of_cell? w _ hw130_0)).trans hw130_0)⟩ (fun hHeld => ?_)
                                                                clear hK K
                                                                refine norm_ (a' := ?_) ?_ ?_
                                                                rotate_left
                                                                · show Act.put _ (some 115) _ = _
                                                                  simp only [Act.put, List.setIfInBounds_toArray, List.set_cons_zero, List.set_cons_succ, i64_w, i32_w]
                                                                  rfl
                                                                refine pure_ (i := 27) (N := some 116) (v := ?_) (a' := ?_) #[true, true, true, true, true, true, true, true, true, true, true, true, true, true, true, true, true, true, true, true, true, true, true, true, true, true, true, true] rfl rfl (any_of HT_.out (by kernel_rfl)) (fun _ _ _ h => h) (Or.inl ⟨by rfl, ?_⟩) ?_ ?_
                                                                rotate_left
                                                                · intro w'
                                                                  go_simp
                                                                  with_reducible rfl
                                                                rotate_left
                                                                · simp only [Act.put, List.setIfInBounds_toArray, List.set_cons_zero, List.set_cons_succ, i64_w, i32_w]
                                                                  rfl
                                                                refine done_ (done_of HT_.out (by kernel_rfl)) ?_
                                                                try go_wp2
                                                                go_ret
                                                                exact ⟨by first | rfl | (simp [errW_none, errW_some] <;> rfl) | (simp [*, errW_none, errW_some] <;> rfl), by repeat (first | (with_reducible first | exact HB.out | apply below_alloc | apply pw_below_drewN | apply below_drew1) | exact HB.out)⟩
                                                              · replace c64 := Bool.eq_false_iff.mpr c64
                                                                subst c64
                                                                have H1 : (laws_FnAddedAhead.l2 k6 l0 t117 x82_5 (l0.length : Int) x82_5 x82_5 (wrap64 (x86_6 + 1))) = some r := by rw [if_neg (show ¬ (false = true) by decide)] at H; exact H
                                                                clear H
                                                                have H := H1
                                                                clear H1
                                                                have H' := Aside0.mk H
                                                                clear H
                                                                try go_wp2
                                                                have n0_ := Aside0.mk (Kd.R_drew HO_6.out)
                                                                have n1_ := Aside0.mk (below_drew1 HB.out)
                                                                clear HO_6
                                                                clear HB
                                                                have HO_6 := n0_
                                                                have HB := n1_
                                                                clear n0_ n1_
                                                                obtain ⟨Ao68, co68, eo68⟩ := Kd.R_slice HO_6.out
                                                                (first | subst eo68 | (injection eo68 with f1_ f2_ f3_; have f4_ := f1_.symm; have f5_ := f3_.symm; clear f1_ f2_ f3_; subst f4_; subst f5_))
                                                                have p126 : 0 ≤ (x82_5 : Int) := of_decide_eq_true (by first | (with_reducible assumption) | assumption)
                                                                have q126 : x82_5 < (t117.length : Int) := of_decide_eq_true (by first | (with_reducible assumption) | assumption)
                                                                obtain ⟨ad126, e126, hx126_0⟩ := Kd.at_bool (Kd.R_reads' HO_6.out).2.2 x82_5 p126 q126
                                                                (try rw [← Nbq54.out] at hx126_0)
                                                                (try rw [← Nbq58.out] at hx126_0)
                                                                cases e126
                                                                replace p126 := eq_true p126
                                                                replace q126 := eq_true q126
                                                                have p127 : 0 ≤ (x86_6 : Int) := of_decide_eq_true (by first | (with_reducible assumption) | assumption)
                                                                have q127 : x86_6 < (t117.length : Int) := of_decide_eq_true (by first | (with_reducible assumption) | assumption)
                                                                obtain ⟨ad127, e127, hx127_0⟩ := Kd.at_bool (Kd.R_reads' HO_6.out).2.2 x86_6 p127 q127
                                                                (try rw [← Nbq54.out] at hx127_0)
                                                                (try rw [← Nbq58.out] at hx127_0)
                                                                obtain rfl : ad126 = ad127 := (by injection e127)
                                                                replace p127 := eq_true p127
                                                                replace q127 := eq_true q127
                                                                have p128 : 0 ≤ (x82_5 : Int) := of_decide_eq_true (by first | (with_reducible assumption) | assumption)
                                                                have q128 : x82_5 < (l0.length : Int) := of_decide_eq_true (by first | (with_reducible assumption) | assumption)
                                                                obtain ⟨ad128, e128, hx128_0⟩ := Kd.at_string HR0.out x82_5 p128 q128
                                                                have hw128_0 := hx128_0
                                                                cases e128
                                                                replace hx128_0 := (HB.out.cell (World.block_lt_of_cell? w _ hx128_0)).trans hx128_0
                                                                replace p128 := eq_true p128
                                                                replace q128 := eq_true q128
                                                                have p129 : 0 ≤ (x86_6 : Int) := of_decide_eq_true (by first | (with_reducible assumption) | assumption)
                                                                have q129 : x86_6 < (l0.length : Int) := of_decide_eq_true (by first | (with_reducible assumption) | assumption)
                                                                obtain ⟨ad129, e129, hx129_0⟩ := Kd.at_string HR0.out x86_6 p129 q129
                                                                have hw129_0 := hx129_0
                                                                obtain rfl : ad128 = ad129 := (by injection e129)
                                                                replace hx129_0 := (HB.out.cell (World.block_lt_of_cell? w _ hx129_0)).trans hx129_0
                                                                replace p129 := eq_true p129
                                                                replace q129 := eq_true q129
                                                                have p130 : 0 ≤ (x82_5 : Int) := of_decide_eq_true (by first | (with_reducible assumption) | assumption)
                                                                have q130 : x82_5 < (l0.length : Int) := of_decide_eq_true (by first | (with_reducible assumption) | assumption)
                                                                obtain ⟨ad130, e130, hx130_0⟩ := Kd.at_string HR0.out x82_5 p130 q130
                                                                have hw130_0 := hx130_0
                                                                obtain rfl : ad128 = ad130 := (by injection e130)
                                                                replace hx130_0 := (HB.out.cell (World.block_lt_of_cell? w _ hx130_0)).trans hx130_0
                                                                replace p130 := eq_true p130
                                                                replace q130 := eq_true q130
                                                                refine start_ (n := 28) (S := fun w' => w'.cell? (ad126.add (x82_5).toNat) = some (.bool true) ∧ w'.cell? (ad126.add (x86_6).toNat) = some (.bool true) ∧ w'.cell? (ad128.add (x82_5).toNat) = some (.string (rdOf ByteArray.empty l0 x82_5)) ∧ w'.cell? (ad128.add (x86_6).toNat) = some (.string (rdOf ByteArray.empty l0 x86_6)) ∧ w'.cell? (ad128.add (x82_5).toNat) = some (.string (rdOf ByteArray.empty l0 x82_5))) (ds := []) #[false, false, false, false, false, false, false, false, false, false, false, false, false, false, false, false, false, false, false, false, false, false, false, false, false, false, false, false] (by kernel_rfl) rfl rfl ⟨hx126_0, hx127_0, ((HB.out.cell (World.block_lt_of_cell? w _ hw128_0)).trans hw128_0), ((HB.out.cell (World.block_lt_of_cell? w _ hw129_0)).trans hw129_0), ((HB.out.cell (World.block_lt_of_cell? w _ hw130_0)).trans hw130_0)⟩ (fun hHeld => ?_); refine with_tabW laws_FnAddedAhead.tab23 laws_FnAddedAhead.bits23 (fun HT_ HW_ => ?_)
                                                                generalize wr.drew = w67 at HO_6 HB hx126_0 hx127_0 hx128_0 hx129_0 hx130_0 hHeld ⊢
                                                                refine pure_ (i := 0) (N := some 89) (v := ?_) (a' := ?_) #[true, false, false, false, false, false, false, false, false, false, false, false, false, false, false, false, false, false, false, false, false, false, false, false, false, false, false, false] rfl rfl (any_of HT_.out (by kernel_rfl)) (fun _ _ _ h => h) (Or.inl ⟨by rfl, ?_⟩) ?_ ?_
                                                                rotate_left
                                                                · intro w'
                                                                  go_simp
                                                                  with_reducible rfl
                                                                rotate_left
                                                                · simp only [Act.put, List.setIfInBounds_toArray, List.set_cons_zero, List.set_cons_succ, i64_w, i32_w]
                                                                  rfl
                                                                refine pure_ (i := 1) (N := some 90) (v := ?_) (a' := ?_) #[true, true, false, false, false, false, false, false, false, false, false, false, false, false, false, false, false, false, false, false, false, false, false, false, false, false, false, false] rfl rfl (any_of HT_.out (by kernel_rfl)) (fun _ _ _ h => h) (Or.inl ⟨by rfl, ?_⟩) ?_ ?_
                                                                rotate_left
                                                                · intro w'
                                                                  go_simp
                                                                  with_reducible rfl
                                                                rotate_left
                                                                · simp only [Act.put, List.setIfInBounds_toArray, List.set_cons_zero, List.set_cons_succ, i64_w, i32_w]
                                                                  rfl
                                                                refine pure_ (i := 2) (N := some 91) (v := ?_) (a' := ?_) #[true, true, true, false, false, false, false, false, false, false, false, false, false, false, false, false, false, false, false, false, false, false, false, false, false, false, false, false] rfl rfl (any_of HT_.out (by kernel_rfl)) (fun _ _ _ h => h) (Or.inl ⟨by rfl, ?_⟩) ?_ ?_
                                                                rotate_left
                                                                · intro w'
                                                                  go_simp
                                                                  with_reducible rfl
                                                                rotate_left
                                                                · simp only [Act.put, List.setIfInBounds_toArray, List.set_cons_zero, List.set_cons_succ, i64_w, i32_w]
                                                                  rfl
                                                                refine take_ (i := 3) (N := some 92) (v := ?_) (a' := ?_) #[true, true, true, true, false, false, false, false, false, false, false, false, false, false, false, false, false, false, false, false, false, false, false, false, false, false, false, false] rfl rfl (take_ofW HT_.out HW_.out (by kernel_rfl)) (fun _ _ _ h => h) (Or.inl ⟨by rfl, ?_⟩) hHeld ?_ ?_
                                                                rotate_left
                                                                · rintro w' ⟨s0, s1, s2, s3, s4⟩
                                                                  go_simp
                                                                  with_reducible rfl
                                                                rotate_left
                                                                · simp only [Act.put, List.setIfInBounds_toArray, List.set_cons_zero, List.set_cons_succ, i64_w, i32_w]
                                                                  rfl
                                                                refine pure_ (i := 4) (N := some 93) (v := ?_) (a' := ?_) #[true, true, true, true, true, false, false, false, false, false, false, false, false, false, false, false, false, false, false, false, false, false, false, false, false, false, false, false] rfl rfl (any_of HT_.out (by kernel_rfl)) (fun _ _ _ h => h) (Or.inl ⟨by rfl, ?_⟩) ?_ ?_
                                                                rotate_left
                                                                · intro w'
                                                                  go_simp
                                                                  with_reducible rfl
                                                                rotate_left
                                                                · simp only [Act.put, List.setIfInBounds_toArray, List.set_cons_zero, List.set_cons_succ, i64_w, i32_w]
                                                                  rfl
                                                                refine pure_ (i := 5) (N := some 94) (v := ?_) (a' := ?_) #[true, true, true, true, true, true, false, false, false, false, false, false, false, false, false, false, false, false, false, false, false, false, false, false, false, false, false, false] rfl rfl (any_of HT_.out (by kernel_rfl)) (fun _ _ _ h => h) (Or.inl ⟨by rfl, ?_⟩) ?_ ?_
                                                                rotate_left
                                                                · intro w'
                                                                  go_simp
                                                                  with_reducible rfl
                                                                rotate_left
                                                                · simp only [Act.put, List.setIfInBounds_toArray, List.set_cons_zero, List.set_cons_succ, i64_w, i32_w]
                                                                  rfl
                                                                refine pure_ (i := 6) (N := some 95) (v := ?_) (a' := ?_) #[true, true, true, true, true, true, true, false, false, false, false, false, false, false, false, false, false, false, false, false, false, false, false, false, false, false, false, false] rfl rfl (any_of HT_.out (by kernel_rfl)) (fun _ _ _ h => h) (Or.inl ⟨by rfl, ?_⟩) ?_ ?_
                                                                rotate_left
                                                                · intro w'
                                                                  go_simp
                                                                  with_reducible rfl
                                                                rotate_left
                                                                · simp only [Act.put, List.setIfInBounds_toArray, List.set_cons_zero, List.set_cons_succ, i64_w, i32_w]
                                                                  rfl
                                                                refine pure_ (i := 7) (N := some 96) (v := ?_) (a' := ?_) #[true, true, true, true, true, true, true, true, false, false, false, false, false, false, false, false, false, false, false, false, false, false, false, false, false, false, false, false] rfl rfl (any_of HT_.out (by kernel_rfl)) (fun _ _ _ h => h) (Or.inl ⟨by rfl, ?_⟩) ?_ ?_
                                                                rotate_left
                                                                · intro w'
                                                                  go_simp
                                                                  with_reducible rfl
                                                                rotate_left
                                                                · simp only [Act.put, List.setIfInBounds_toArray, List.set_cons_zero, List.set_cons_succ, i64_w, i32_w]
                                                                  rfl
                                                                refine take_ (i := 8) (N := some 97) (v := ?_) (a' := ?_) #[true, true, true, true, true, true, true, true, true, false, false, false, false, false, false, false, false, false, false, false, false, false, false, false, false, false, false, false] rfl rfl (take_ofW HT_.out HW_.out (by kernel_rfl)) (fun _ _ _ h => h) (Or.inl ⟨by rfl, ?_⟩) hHeld ?_ ?_
                                                                rotate_left
                                                                · rintro w' ⟨s0, s1, s2, s3, s4⟩
                                                                  go_simp
                                                                  with_reducible rfl
                                                                rotate_left
                                                                · simp only [Act.put, List.setIfInBounds_toArray, List.set_cons_zero, List.set_cons_succ, i64_w, i32_w]
                                                                  rfl
                                                                refine pure_ (i := 9) (N := some 98) (v := ?_) (a' := ?_) #[true, true, true, true, true, true, true, true, true, true, false, false, false, false, false, false, false, false, false, false, false, false, false, false, false, false, false, false] rfl rfl (any_of HT_.out (by kernel_rfl)) (fun _ _ _ h => h) (Or.inl ⟨by rfl, ?_⟩) ?_ ?_
                                                                rotate_left
                                                                · intro w'
                                                                  go_simp
                                                                  with_reducible rfl
                                                                rotate_left
                                                                · simp only [Act.put, List.setIfInBounds_toArray, List.set_cons_zero, List.set_cons_succ, i64_w, i32_w]
                                                                  rfl
                                                                refine pure_ (i := 10) (N := some 99) (v := ?_) (a' := ?_) #[true, true, true, true, true, true, true, true, true, true, true, false, false, false, false, false, false, false, false, false, false, false, false, false, false, false, false, false] rfl rfl (any_of HT_.out (by kernel_rfl)) (fun _ _ _ h => h) (Or.inl ⟨by rfl, ?_⟩) ?_ ?_
                                                                rotate_left
                                                                · intro w'
                                                                  go_simp
                                                                  with_reducible rfl
                                                                rotate_left
                                                                · simp only [Act.put, List.setIfInBounds_toArray, List.set_cons_zero, List.set_cons_succ, i64_w, i32_w]
                                                                  rfl
                                                                refine pure_ (i := 11) (N := some 100) (v := ?_) (a' := ?_) #[true, true, true, true, true, true, true, true, true, true, true, true, false, false, false, false, false, false, false, false, false, false, false, false, false, false, false, false] rfl rfl (any_of HT_.out (by kernel_rfl)) (fun _ _ _ h => h) (Or.inl ⟨by rfl, ?_⟩) ?_ ?_
                                                                rotate_left
                                                                · intro w'
                                                                  go_simp
                                                                  with_reducible rfl
                                                                rotate_left
                                                                · simp only [Act.put, List.setIfInBounds_toArray, List.set_cons_zero, List.set_cons_succ, i64_w, i32_w]
                                                                  rfl
                                                                refine pure_ (i := 12) (N := some 101) (v := ?_) (a' := ?_) #[true, true, true, true, true, true, true, true, true, true, true, true, true, false, false, false, false, false, false, false, false, false, false, false, false, false, false, false] rfl rfl (any_of HT_.out (by kernel_rfl)) (fun _ _ _ h => h) (Or.inl ⟨by rfl, ?_⟩) ?_ ?_
                                                                rotate_left
                                                                · intro w'
                                                                  go_simp
                                                                  with_reducible rfl
                                                                rotate_left
                                                                · simp only [Act.put, List.setIfInBounds_toArray, List.set_cons_zero, List.set_cons_succ, i64_w, i32_w]
                                                                  rfl
                                                                refine pure_ (i := 13) (N := some 102) (v := ?_) (a' := ?_) #[true, true, true, true, true, true, true, true, true, true, true, true, true, true, false, false, false, false, false, false, false, false, false, false, false, false, false, false] rfl rfl (any_of HT_.out (by kernel_rfl)) (fun _ _ _ h => h) (Or.inl ⟨by rfl, ?_⟩) ?_ ?_
                                                                rotate_left
                                                                · intro w'
                                                                  go_simp
                                                                  with_reducible rfl
                                                                rotate_left
                                                                · simp only [Act.put, List.setIfInBounds_toArray, List.set_cons_zero, List.set_cons_succ, i64_w, i32_w]
                                                                  rfl
                                                                refine pure_ (i := 15) (N := some 104) (v := ?_) (a' := ?_) #[true, true, true, true, true, true, true, true, true, true, true, true, true, true, false, true, false, false, false, false, false, false, false, false, false, false, false, false] rfl rfl (any_of HT_.out (by kernel_rfl)) (fun _ _ _ h => h) (Or.inl ⟨by rfl, ?_⟩) ?_ ?_
                                                                rotate_left
                                                                · intro w'
                                                                  go_simp
                                                                  with_reducible rfl
                                                                rotate_left
                                                                · simp only [Act.put, List.setIfInBounds_toArray, List.set_cons_zero, List.set_cons_succ, i64_w, i32_w]
                                                                  rfl
                                                                refine pure_ (i := 16) (N := some 105) (v := ?_) (a' := ?_) #[true, true, true, true, true, true, true, true, true, true, true, true, true, true, false, true, true, false, false, false, false, false, false, false, false, false, false, false] rfl rfl (any_of HT_.out (by kernel_rfl)) (fun _ _ _ h => h) (Or.inl ⟨by rfl, ?_⟩) ?_ ?_
                                                                rotate_left
                                                                · intro w'
                                                                  go_simp
                                                                  with_reducible rfl
                                                                rotate_left
                                                                · simp only [Act.put, List.setIfInBounds_toArray, List.set_cons_zero, List.set_cons_succ, i64_w, i32_w]
                                                                  rfl
                                                                refine pure_ (i := 17) (N := some 106) (v := ?_) (a' := ?_) #[true, true, true, true, true, true, true, true, true, true, true, true, true, true, false, true, true, true, false, false, false, false, false, false, false, false, false, false] rfl rfl (any_of HT_.out (by kernel_rfl)) (fun _ _ _ h => h) (Or.inl ⟨by rfl, ?_⟩) ?_ ?_
                                                                rotate_left
                                                                · intro w'
                                                                  go_simp
                                                                  with_reducible rfl
                                                                rotate_left
                                                                · simp only [Act.put, List.setIfInBounds_toArray, List.set_cons_zero, List.set_cons_succ, i64_w, i32_w]
                                                                  rfl
                                                                refine take_ (i := 14) (N := some 103) (v := ?_) (a' := ?_) #[true, true, true, true, true, true, true, true, true, true, true, true, true, true, true, true, true, true, false, false, false, false, false, false, false, false, false, false] rfl rfl (take_ofW HT_.out HW_.out (by kernel_rfl)) (fun _ _ _ h => h) (Or.inl ⟨by rfl, ?_⟩) hHeld ?_ ?_
                                                                rotate_left
                                                                · rintro w' ⟨s0, s1, s2, s3, s4⟩
                                                                  go_simp
                                                                  with_reducible rfl
                                                                rotate_left
                                                                · simp only [Act.put, List.setIfInBounds_toArray, List.set_cons_zero, List.set_cons_succ, i64_w, i32_w]
                                                                  rfl
                                                                refine take_ (i := 18) (N := some 107) (v := ?_) (a' := ?_) #[true, true, true, true, true, true, true, true, true, true, true, true, true, true, true, true, true, true, true, false, false, false, false, false, false, false, false, false] rfl rfl (take_ofW HT_.out HW_.out (by kernel_rfl)) (fun _ _ _ h => h) (Or.inl ⟨by rfl, ?_⟩) hHeld ?_ ?_
                                                                rotate_left
                                                                · rintro w' ⟨s0, s1, s2, s3, s4⟩
                                                                  go_simp
                                                                  with_reducible rfl
                                                                rotate_left
                                                                · simp only [Act.put, List.setIfInBounds_toArray, List.set_cons_zero, List.set_cons_succ, i64_w, i32_w]
                                                                  rfl
                                                                refine pure_ (i := 19) (N := some 108) (v := ?_) (a' := ?_) #[true, true, true, true, true, true, true, true, true, true, true, true, true, true, true, true, true, true, true, true, false, false, false, false, false, false, false, false] rfl rfl (any_of HT_.out (by kernel_rfl)) (fun _ _ _ h => h) (Or.inl ⟨by rfl, ?_⟩) ?_ ?_
                                                                rotate_left
                                                                · intro w'
                                                                  go_simp
                                                                  with_reducible rfl
                                                                rotate_left
                                                                · simp only [Act.put, List.setIfInBounds_toArray, List.set_cons_zero, List.set_cons_succ, i64_w, i32_w]
                                                                  rfl
                                                                refine pure_ (i := 20) (N := some 109) (v := ?_) (a' := ?_) #[true, true, true, true, true, true, true, true, true, true, true, true, true, true, true, true, true, true, true, true, true, false, false, false, false, false, false, false] rfl rfl (any_of HT_.out (by kernel_rfl)) (fun _ _ _ h => h) (Or.inl ⟨by rfl, ?_⟩) ?_ ?_
                                                                rotate_left
                                                                · intro w'
                                                                  go_simp
                                                                  with_reducible rfl
                                                                rotate_left
                                                                · simp only [Act.put, List.setIfInBounds_toArray, List.set_cons_zero, List.set_cons_succ, i64_w, i32_w]
                                                                  rfl
                                                                refine pure_ (i := 21) (N := some 110) (v := ?_) (a' := ?_) #[true, true, true, true, true, true, true, true, true, true, true, true, true, true, true, true, true, true, true, true, true, true, false, false, false, false, false, false] rfl rfl (any_of HT_.out (by kernel_rfl)) (fun _ _ _ h => h) (Or.inl ⟨by rfl, ?_⟩) ?_ ?_
                                                                rotate_left
                                                                · intro w'
                                                                  go_simp
                                                                  with_reducible rfl
                                                                rotate_left
                                                                · simp only [Act.put, List.setIfInBounds_toArray, List.set_cons_zero, List.set_cons_succ, i64_w, i32_w]
                                                                  rfl
                                                                refine pure_ (i := 22) (N := some 111) (v := ?_) (a' := ?_) #[true, true, true, true, true, true, true, true, true, true, true, true, true, true, true, true, true, true, true, true, true, true, true, false, false, false, false, false] rfl rfl (any_of HT_.out (by kernel_rfl)) (fun _ _ _ h => h) (Or.inl ⟨by rfl, ?_⟩) ?_ ?_
                                                                rotate_left
                                                                · intro w'
                                                                  go_simp
                                                                  with_reducible rfl
                                                                rotate_left
                                                                · simp only [Act.put, List.setIfInBounds_toArray, List.set_cons_zero, List.set_cons_succ, i64_w, i32_w]
                                                                  rfl
                                                                refine pure_ (i := 23) (N := some 112) (v := ?_) (a' := ?_) #[true, true, true, true, true, true, true, true, true, true, true, true, true, true, true, true, true, true, true, true, true, true, true, true, false, false, false, false] rfl rfl (any_of HT_.out (by kernel_rfl)) (fun _ _ _ h => h) (Or.inl ⟨by rfl, ?_⟩) ?_ ?_
                                                                rotate_left
                                                                · intro w'
                                                                  go_simp
                                                                  with_reducible rfl
                                                                rotate_left
                                                                · simp only [Act.put, List.setIfInBounds_toArray, List.set_cons_zero, List.set_cons_succ, i64_w, i32_w]
                                                                  rfl
                                                                refine pure_ (i := 24) (N := some 113) (v := ?_) (a' := ?_) #[true, true, true, true, true, true, true, true, true, true, true, true, true, true, true, true, true, true, true, true, true, true, true, true, true, false, false, false] rfl rfl (any_of HT_.out (by kernel_rfl)) (fun _ _ _ h => h) (Or.inl ⟨by rfl, ?_⟩) ?_ ?_
                                                                rotate_left
                                                                · intro w'
                                                                  go_simp
                                                                  with_reducible rfl
                                                                rotate_left
                                                                · simp only [Act.put, List.setIfInBounds_toArray, List.set_cons_zero, List.set_cons_succ, i64_w, i32_w]
                                                                  rfl
                                                                refine take_ (i := 25) (N := some 114) (v := ?_) (a' := ?_) #[true, true, true, true, true, true, true, true, true, true, true, true, true, true, true, true, true, true, true, true, true, true, true, true, true, true, false, false] rfl rfl (take_ofW HT_.out HW_.out (by kernel_rfl)) (fun _ _ _ h => h) (Or.inl ⟨by rfl, ?_⟩) hHeld ?_ ?_
                                                                rotate_left
                                                                · rintro w' ⟨s0, s1, s2, s3, s4⟩
                                                                  go_simp
                                                                  with_reducible rfl
                                                                rotate_left
                                                                · simp only [Act.put, List.setIfInBounds_toArray, List.set_cons_zero, List.set_cons_succ, i64_w, i32_w]
                                                                  rfl
                                                                refine one_ (i := 26) (N := some 115) #[true, true, true, true, true, true, true, true, true, true, true, true, true, true, true, true, true, true, true, true, true, true, true, true, true, true, true, false] rfl rfl (one_of HT_.out (by kernel_rfl)) (by decide) (fun K hK => ?_)
                                                                refine goes_ Try.func8 (by kernel_rfl) rfl #[.string (rdOf ByteArray.empty l0 x82_5)] (by rfl) rfl rfl (by (try simp only [List.map_toArray, List.map_cons, List.map_nil]); first | done | rfl | (simp only [List.length_drop, List.length_take]; rfl)) ?_
                                                                with_reducible refine (laws_plain.calls k6 (rdOf ByteArray.empty l0 x82_5) false _ A63.out).mono ?_
                                                                rintro e w' ⟨rfl, ⟨nd, rfl⟩⟩
                                                                refine ⟨_, rfl, ?_⟩
                                                                refine hK.out _ _ ⟨hHeld.1, hHeld.2.1, ((HB.out.cell (World.block_lt_of_cell? w _ hw128_0)).trans hw128_0), ((HB.out.cell (World.block_lt_of_cell? w _ hw129_0)).trans hw129_0), ((HB.out.cell (World.block_lt_of_cell? w _ hw130_0)).trans hw130_0)⟩ (fun hHeld => ?_)
                                                                clear hK K
                                                                refine norm_ (a' := ?_) ?_ ?_
                                                                rotate_left
                                                                · show Act.put _ (some 115) _ = _
                                                                  simp only [Act.put, List.setIfInBounds_toArray, List.set_cons_zero, List.set_cons_succ, i64_w, i32_w]
                                                                  rfl
                                                                refine pure_ (i := 27) (N := some 116) (v := ?_) (a' := ?_) #[true, true, true, true, true, true, true, true, true, true, true, true, true, true, true, true, true, true, true, true, true, true, true, true, true, true, true, true] rfl rfl (any_of HT_.out (by kernel_rfl)) (fun _ _ _ h => h) (Or.inl ⟨by rfl, ?_⟩) ?_ ?_
                                                                rotate_left
                                                                · intro w'
                                                                  go_simp
                                                                  with_reducible rfl
                                                                rotate_left
                                                                · simp only [Act.put, List.setIfInBounds_toArray, List.set_cons_zero, List.set_cons_succ, i64_w, i32_w]
                                                                  rfl
                                                                refine done_ (done_of HT_.out (by kernel_rfl)) ?_
                                                                try go_wp2
                                                                go_roundg k6
                                                                case measure => have := HJ5.out; have := HJ19.out; have := HJ29.out; have := HK4.out; have := HK5.out; have := HK6.out; omega
                                                                case rel => exact ⟨(wrap64 (x86_6 + 1)), (by first | rfl | (simp; done) | (simp [*]; done) | (simp [Go.Proofs.YtekjffooblcmnaaX.isEmpty_ne]; done)), H', ⟨by have := HJ5.out; have := HJ19.out; have := HJ29.out; have := HK4.out; have := HK5.out; have := HK6.out; omega⟩, ⟨by (with_reducible repeat (first | apply Kd.R_alloc | apply Kd.R_drewN | apply Kd.R_drew)); exact HO_6.out⟩, ⟨by repeat (first | (with_reducible first | exact HB.out | apply below_alloc | apply pw_below_drewN | apply below_drew1) | exact HB.out)⟩⟩
                                                            · rw [if_neg c62] at H
                                                              have c62b0 : ((rdOf ByteArray.empty l0 x82_5).toList == (rdOf ByteArray.empty l0 x86_6).toList) = false := beq_eq_false_iff_ne.mpr c62
                                                              have c62b1 : ((rdOf ByteArray.empty l0 x82_5).toList != (rdOf ByteArray.empty l0 x86_6).toList) = true := bne_iff_ne.mpr c62
                                                              have H' := Aside0.mk H
                                                              clear H
                                                              try go_wp2
                                                              have n0_ := Aside0.mk (Kd.R_drew HO_6.out)
                                                              have n1_ := Aside0.mk (below_drew1 HB.out)
                                                              clear HO_6
                                                              clear HB
                                                              have HO_6 := n0_
                                                              have HB := n1_
                                                              clear n0_ n1_
                                                              obtain ⟨Ao70, co70, eo70⟩ := Kd.R_slice HO_6.out
                                                              (first | subst eo70 | (injection eo70 with f1_ f2_ f3_; have f4_ := f1_.symm; have f5_ := f3_.symm; clear f1_ f2_ f3_; subst f4_; subst f5_))
                                                              have p126 : 0 ≤ (x82_5 : Int) := of_decide_eq_true (by first | (with_reducible assumption) | assumption)
                                                              have q126 : x82_5 < (t117.length : Int) := of_decide_eq_true (by first | (with_reducible assumption) | assumption)
                                                              obtain ⟨ad126, e126, hx126_0⟩ := Kd.at_bool (Kd.R_reads' HO_6.out).2.2 x82_5 p126 q126
                                                              (try rw [← Nbq54.out] at hx126_0)
                                                              (try rw [← Nbq58.out] at hx126_0)
                                                              cases e126
                                                              replace p126 := eq_true p126
                                                              replace q126 := eq_true q126
                                                              have p127 : 0 ≤ (x86_6 : Int) := of_decide_eq_true (by first | (with_reducible assumption) | assumption)
                                                              have q127 : x86_6 < (t117.length : Int) := of_decide_eq_true (by first | (with_reducible assumption) | assumption)
                                                              obtain ⟨ad127, e127, hx127_0⟩ := Kd.at_bool (Kd.R_reads' HO_6.out).2.2 x86_6 p127 q127
                                                              (try rw [← Nbq54.out] at hx127_0)
                                                              (try rw [← Nbq58.out] at hx127_0)
                                                              obtain rfl : ad126 = ad127 := (by injection e127)
                                                              replace p127 := eq_true p127
                                                              replace q127 := eq_true q127
                                                              have p128 : 0 ≤ (x82_5 : Int) := of_decide_eq_true (by first | (with_reducible assumption) | assumption)
                                                              have q128 : x82_5 < (l0.length : Int) := of_decide_eq_true (by first | (with_reducible assumption) | assumption)
                                                              obtain ⟨ad128, e128, hx128_0⟩ := Kd.at_string HR0.out x82_5 p128 q128
                                                              have hw128_0 := hx128_0
                                                              cases e128
                                                              replace hx128_0 := (HB.out.cell (World.block_lt_of_cell? w _ hx128_0)).trans hx128_0
                                                              replace p128 := eq_true p128
                                                              replace q128 := eq_true q128
                                                              have p129 : 0 ≤ (x86_6 : Int) := of_decide_eq_true (by first | (with_reducible assumption) | assumption)
                                                              have q129 : x86_6 < (l0.length : Int) := of_decide_eq_true (by first | (with_reducible assumption) | assumption)
                                                              obtain ⟨ad129, e129, hx129_0⟩ := Kd.at_string HR0.out x86_6 p129 q129
                                                              have hw129_0 := hx129_0
                                                              obtain rfl : ad128 = ad129 := (by injection e129)
                                                              replace hx129_0 := (HB.out.cell (World.block_lt_of_cell? w _ hx129_0)).trans hx129_0
                                                              replace p129 := eq_true p129
                                                              replace q129 := eq_true q129
                                                              refine start_ (n := 28) (S := fun w' => w'.cell? (ad126.add (x82_5).toNat) = some (.bool true) ∧ w'.cell? (ad126.add (x86_6).toNat) = some (.bool true) ∧ w'.cell? (ad128.add (x82_5).toNat) = some (.string (rdOf ByteArray.empty l0 x82_5)) ∧ w'.cell? (ad128.add (x86_6).toNat) = some (.string (rdOf ByteArray.empty l0 x86_6))) (ds := []) #[false, false, false, false, false, false, false, false, false, false, false, false, false, false, false, false, false, false, false, false, false, false, false, false, false, false, false, false] (by kernel_rfl) rfl rfl ⟨hx126_0, hx127_0, ((HB.out.cell (World.block_lt_of_cell? w _ hw128_0)).trans hw128_0), ((HB.out.cell (World.block_lt_of_cell? w _ hw129_0)).trans hw129_0)⟩ (fun hHeld => ?_); refine with_tabW laws_FnAddedAhead.tab23 laws_FnAddedAhead.bits23 (fun HT_ HW_ => ?_)
                                                              generalize wr.drew = w69 at HO_6 HB hx126_0 hx127_0 hx128_0 hx129_0 hHeld ⊢
                                                              refine pure_ (i := 0) (N := some 89) (v := ?_) (a' := ?_) #[true, false, false, false, false, false, false, false, false, false, false, false, false, false, false, false, false, false, false, false, false, false, false, false, false, false, false, false] rfl rfl (any_of HT_.out (by kernel_rfl)) (fun _ _ _ h => h) (Or.inl ⟨by rfl, ?_⟩) ?_ ?_
                                                              rotate_left
                                                              · intro w'
                                                                go_simp
                                                                with_reducible rfl
                                                              rotate_left
                                                              · simp only [Act.put, List.setIfInBounds_toArray, List.set_cons_zero, List.set_cons_succ, i64_w, i32_w]
                                                                rfl
                                                              refine pure_ (i := 1) (N := some 90) (v := ?_) (a' := ?_) #[true, true, false, false, false, false, false, false, false, false, false, false, false, false, false, false, false, false, false, false, false, false, false, false, false, false, false, false] rfl rfl (any_of HT_.out (by kernel_rfl)) (fun _ _ _ h => h) (Or.inl ⟨by rfl, ?_⟩) ?_ ?_
                                                              rotate_left
                                                              · intro w'
                                                                go_simp
                                                                with_reducible rfl
                                                              rotate_left
                                                              · simp only [Act.put, List.setIfInBounds_toArray, List.set_cons_zero, List.set_cons_succ, i64_w, i32_w]
                                                                rfl
                                                              refine pure_ (i := 2) (N := some 91) (v := ?_) (a' := ?_) #[true, true, true, false, false, false, false, false, false, false, false, false, false, false, false, false, false, false, false, false, false, false, false, false, false, false, false, false] rfl rfl (any_of HT_.out (by kernel_rfl)) (fun _ _ _ h => h) (Or.inl ⟨by rfl, ?_⟩) ?_ ?_
                                                              rotate_left
                                                              · intro w'
                                                                go_simp
                                                                with_reducible rfl
                                                              rotate_left
                                                              · simp only [Act.put, List.setIfInBounds_toArray, List.set_cons_zero, List.set_cons_succ, i64_w, i32_w]
                                                                rfl
                                                              refine take_ (i := 3) (N := some 92) (v := ?_) (a' := ?_) #[true, true, true, true, false, false, false, false, false, false, false, false, false, false, false, false, false, false, false, false, false, false, false, false, false, false, false, false] rfl rfl (take_ofW HT_.out HW_.out (by kernel_rfl)) (fun _ _ _ h => h) (Or.inl ⟨by rfl, ?_⟩) hHeld ?_ ?_
                                                              rotate_left
                                                              · rintro w' ⟨s0, s1, s2, s3⟩
                                                                go_simp
                                                                with_reducible rfl
                                                              rotate_left
                                                              · simp only [Act.put, List.setIfInBounds_toArray, List.set_cons_zero, List.set_cons_succ, i64_w, i32_w]
                                                                rfl
                                                              refine pure_ (i := 4) (N := some 93) (v := ?_) (a' := ?_) #[true, true, true, true, true, false, false, false, false, false, false, false, false, false, false, false, false, false, false, false, false, false, false, false, false, false, false, false] rfl rfl (any_of HT_.out (by kernel_rfl)) (fun _ _ _ h => h) (Or.inl ⟨by rfl, ?_⟩) ?_ ?_
                                                              rotate_left
                                                              · intro w'
                                                                go_simp
                                                                with_reducible rfl
                                                              rotate_left
                                                              · simp only [Act.put, List.setIfInBounds_toArray, List.set_cons_zero, List.set_cons_succ, i64_w, i32_w]
                                                                rfl
                                                              refine pure_ (i := 5) (N := some 94) (v := ?_) (a' := ?_) #[true, true, true, true, true, true, false, false, false, false, false, false, false, false, false, false, false, false, false, false, false, false, false, false, false, false, false, false] rfl rfl (any_of HT_.out (by kernel_rfl)) (fun _ _ _ h => h) (Or.inl ⟨by rfl, ?_⟩) ?_ ?_
                                                              rotate_left
                                                              · intro w'
                                                                go_simp
                                                                with_reducible rfl
                                                              rotate_left
                                                              · simp only [Act.put, List.setIfInBounds_toArray, List.set_cons_zero, List.set_cons_succ, i64_w, i32_w]
                                                                rfl
                                                              refine pure_ (i := 6) (N := some 95) (v := ?_) (a' := ?_) #[true, true, true, true, true, true, true, false, false, false, false, false, false, false, false, false, false, false, false, false, false, false, false, false, false, false, false, false] rfl rfl (any_of HT_.out (by kernel_rfl)) (fun _ _ _ h => h) (Or.inl ⟨by rfl, ?_⟩) ?_ ?_
                                                              rotate_left
                                                              · intro w'
                                                                go_simp
                                                                with_reducible rfl
                                                              rotate_left
                                                              · simp only [Act.put, List.setIfInBounds_toArray, List.set_cons_zero, List.set_cons_succ, i64_w, i32_w]
                                                                rfl
                                                              refine pure_ (i := 7) (N := some 96) (v := ?_) (a' := ?_) #[true, true, true, true, true, true, true, true, false, false, false, false, false, false, false, false, false, false, false, false, false, false, false, false, false, false, false, false] rfl rfl (any_of HT_.out (by kernel_rfl)) (fun _ _ _ h => h) (Or.inl ⟨by rfl, ?_⟩) ?_ ?_
                                                              rotate_left
                                                              · intro w'
                                                                go_simp
                                                                with_reducible rfl
                                                              rotate_left
                                                              · simp only [Act.put, List.setIfInBounds_toArray, List.set_cons_zero, List.set_cons_succ, i64_w, i32_w]
                                                                rfl
                                                              refine take_ (i := 8) (N := some 97) (v := ?_) (a' := ?_) #[true, true, true, true, true, true, true, true, true, false, false, false, false, false, false, false, false, false, false, false, false, false, false, false, false, false, false, false] rfl rfl (take_ofW HT_.out HW_.out (by kernel_rfl)) (fun _ _ _ h => h) (Or.inl ⟨by rfl, ?_⟩) hHeld ?_ ?_
                                                              rotate_left
                                                              · rintro w' ⟨s0, s1, s2, s3⟩
                                                                go_simp
                                                                with_reducible rfl
                                                              rotate_left
                                                              · simp only [Act.put, List.setIfInBounds_toArray, List.set_cons_zero, List.set_cons_succ, i64_w, i32_w]
                                                                rfl
                                                              refine pure_ (i := 9) (N := some 98) (v := ?_) (a' := ?_) #[true, true, true, true, true, true, true, true, true, true, false, false, false, false, false, false, false, false, false, false, false, false, false, false, false, false, false, false] rfl rfl (any_of HT_.out (by kernel_rfl)) (fun _ _ _ h => h) (Or.inl ⟨by rfl, ?_⟩) ?_ ?_
                                                              rotate_left
                                                              · intro w'
                                                                go_simp
                                                                with_reducible rfl
                                                              rotate_left
                                                              · simp only [Act.put, List.setIfInBounds_toArray, List.set_cons_zero, List.set_cons_succ, i64_w, i32_w]
                                                                rfl
                                                              refine pure_ (i := 10) (N := some 99) (v := ?_) (a' := ?_) #[true, true, true, true, true, true, true, true, true, true, true, false, false, false, false, false, false, false, false, false, false, false, false, false, false, false, false, false] rfl rfl (any_of HT_.out (by kernel_rfl)) (fun _ _ _ h => h) (Or.inl ⟨by rfl, ?_⟩) ?_ ?_
                                                              rotate_left
                                                              · intro w'
                                                                go_simp
                                                                with_reducible rfl
                                                              rotate_left
                                                              · simp only [Act.put, List.setIfInBounds_toArray, List.set_cons_zero, List.set_cons_succ, i64_w, i32_w]
                                                                rfl
                                                              refine pure_ (i := 11) (N := some 100) (v := ?_) (a' := ?_) #[true, true, true, true, true, true, true, true, true, true, true, true, false, false, false, false, false, false, false, false, false, false, false, false, false, false, false, false] rfl rfl (any_of HT_.out (by kernel_rfl)) (fun _ _ _ h => h) (Or.inl ⟨by rfl, ?_⟩) ?_ ?_
                                                              rotate_left
                                                              · intro w'
                                                                go_simp
                                                                with_reducible rfl
                                                              rotate_left
                                                              · simp only [Act.put, List.setIfInBounds_toArray, List.set_cons_zero, List.set_cons_succ, i64_w, i32_w]
                                                                rfl
                                                              refine pure_ (i := 12) (N := some 101) (v := ?_) (a' := ?_) #[true, true, true, true, true, true, true, true, true, true, true, true, true, false, false, false, false, false, false, false, false, false, false, false, false, false, false, false] rfl rfl (any_of HT_.out (by kernel_rfl)) (fun _ _ _ h => h) (Or.inl ⟨by rfl, ?_⟩) ?_ ?_
                                                              rotate_left
                                                              · intro w'
                                                                go_simp
                                                                with_reducible rfl
                                                              rotate_left
                                                              · simp only [Act.put, List.setIfInBounds_toArray, List.set_cons_zero, List.set_cons_succ, i64_w, i32_w]
                                                                rfl
                                                              refine pure_ (i := 13) (N := some 102) (v := ?_) (a' := ?_) #[true, true, true, true, true, true, true, true, true, true, true, true, true, true, false, false, false, false, false, false, false, false, false, false, false, false, false, false] rfl rfl (any_of HT_.out (by kernel_rfl)) (fun _ _ _ h => h) (Or.inl ⟨by rfl, ?_⟩) ?_ ?_
                                                              rotate_left
                                                              · intro w'
                                                                go_simp
                                                                with_reducible rfl
                                                              rotate_left
                                                              · simp only [Act.put, List.setIfInBounds_toArray, List.set_cons_zero, List.set_cons_succ, i64_w, i32_w]
                                                                rfl
                                                              refine pure_ (i := 15) (N := some 104) (v := ?_) (a' := ?_) #[true, true, true, true, true, true, true, true, true, true, true, true, true, true, false, true, false, false, false, false, false, false, false, false, false, false, false, false] rfl rfl (any_of HT_.out (by kernel_rfl)) (fun _ _ _ h => h) (Or.inl ⟨by rfl, ?_⟩) ?_ ?_
                                                              rotate_left
                                                              · intro w'
                                                                go_simp
                                                                with_reducible rfl
                                                              rotate_left
                                                              · simp only [Act.put, List.setIfInBounds_toArray, List.set_cons_zero, List.set_cons_succ, i64_w, i32_w]
                                                                rfl
                                                              refine pure_ (i := 16) (N := some 105) (v := ?_) (a' := ?_) #[true, true, true, true, true, true, true, true, true, true, true, true, true, true, false, true, true, false, false, false, false, false, false, false, false, false, false, false] rfl rfl (any_of HT_.out (by kernel_rfl)) (fun _ _ _ h => h) (Or.inl ⟨by rfl, ?_⟩) ?_ ?_
                                                              rotate_left
                                                              · intro w'
                                                                go_simp
                                                                with_reducible rfl
                                                              rotate_left
                                                              · simp only [Act.put, List.setIfInBounds_toArray, List.set_cons_zero, List.set_cons_succ, i64_w, i32_w]
                                                                rfl
                                                              refine pure_ (i := 17) (N := some 106) (v := ?_) (a' := ?_) #[true, true, true, true, true, true, true, true, true, true, true, true, true, true, false, true, true, true, false, false, false, false, false, false, false, false, false, false] rfl rfl (any_of HT_.out (by kernel_rfl)) (fun _ _ _ h => h) (Or.inl ⟨by rfl, ?_⟩) ?_ ?_
                                                              rotate_left
                                                              · intro w'
                                                                go_simp
                                                                with_reducible rfl
                                                              rotate_left
                                                              · simp only [Act.put, List.setIfInBounds_toArray, List.set_cons_zero, List.set_cons_succ, i64_w, i32_w]
                                                                rfl
                                                              refine take_ (i := 14) (N := some 103) (v := ?_) (a' := ?_) #[true, true, true, true, true, true, true, true, true, true, true, true, true, true, true, true, true, true, false, false, false, false, false, false, false, false, false, false] rfl rfl (take_ofW HT_.out HW_.out (by kernel_rfl)) (fun _ _ _ h => h) (Or.inl ⟨by rfl, ?_⟩) hHeld ?_ ?_
                                                              rotate_left
                                                              · rintro w' ⟨s0, s1, s2, s3⟩
                                                                go_simp
                                                                with_reducible rfl
                                                              rotate_left
                                                              · simp only [Act.put, List.setIfInBounds_toArray, List.set_cons_zero, List.set_cons_succ, i64_w, i32_w]
                                                                rfl
                                                              refine take_ (i := 18) (N := some 107) (v := ?_) (a' := ?_) #[true, true, true, true, true, true, true, true, true, true, true, true, true, true, true, true, true, true, true, false, false, false, false, false, false, false, false, false] rfl rfl (take_ofW HT_.out HW_.out (by kernel_rfl)) (fun _ _ _ h => h) (Or.inl ⟨by rfl, ?_⟩) hHeld ?_ ?_
                                                              rotate_left
                                                              · rintro w' ⟨s0, s1, s2, s3⟩
                                                                go_simp
                                                                with_reducible rfl
                                                              rotate_left
                                                              · simp only [Act.put, List.setIfInBounds_toArray, List.set_cons_zero, List.set_cons_succ, i64_w, i32_w]
                                                                rfl
                                                              refine pure_ (i := 19) (N := some 108) (v := ?_) (a' := ?_) #[true, true, true, true, true, true, true, true, true, true, true, true, true, true, true, true, true, true, true, true, false, false, false, false, false, false, false, false] rfl rfl (any_of HT_.out (by kernel_rfl)) (fun _ _ _ h => h) (Or.inl ⟨by rfl, ?_⟩) ?_ ?_
                                                              rotate_left
                                                              · intro w'
                                                                go_simp
                                                                with_reducible rfl
                                                              rotate_left
                                                              · simp only [Act.put, List.setIfInBounds_toArray, List.set_cons_zero, List.set_cons_succ, i64_w, i32_w]
                                                                rfl
                                                              refine pure_ (i := 20) (N := some 109) (v := ?_) (a' := ?_) #[true, true, true, true, true, true, true, true, true, true, true, true, true, true, true, true, true, true, true, true, true, false, false, false, false, false, false, false] rfl rfl (any_of HT_.out (by kernel_rfl)) (fun _ _ _ h => h) (Or.inl ⟨by rfl, ?_⟩) ?_ ?_
                                                              rotate_left
                                                              · intro w'
                                                                go_simp
                                                                with_reducible rfl
                                                              rotate_left
                                                              · simp only [Act.put, List.setIfInBounds_toArray, List.set_cons_zero, List.set_cons_succ, i64_w, i32_w]
                                                                rfl
                                                              refine pure_ (i := 21) (N := some 110) (v := ?_) (a' := ?_) #[true, true, true, true, true, true, true, true, true, true, true, true, true, true, true, true, true, true, true, true, true, true, false, false, false, false, false, false] rfl rfl (any_of HT_.out (by kernel_rfl)) (fun _ _ _ h => h) (Or.inl ⟨by rfl, ?_⟩) ?_ ?_
                                                              rotate_left
                                                              · intro w'
                                                                go_simp
                                                                with_reducible rfl
                                                              rotate_left
                                                              · simp only [Act.put, List.setIfInBounds_toArray, List.set_cons_zero, List.set_cons_succ, i64_w, i32_w]
                                                                rfl
                                                              refine pure_ (i := 22) (N := some 111) (v := undef) (a' := ?_) #[true, true, true, true, true, true, true, true, true, true, true, true, true, true, true, true, true, true, true, true, true, true, true, false, false, false, false, false] rfl rfl (any_of HT_.out (by kernel_rfl)) (fun _ _ _ h => h) (Or.inr ⟨by rfl, rfl⟩) ?_ ?_
                                                              rotate_left
                                                              · simp only [Act.put, List.setIfInBounds_toArray, List.set_cons_zero, List.set_cons_succ, i64_w, i32_w]
                                                                rfl
                                                              refine pure_ (i := 23) (N := some 112) (v := undef) (a' := ?_) #[true, true, true, true, true, true, true, true, true, true, true, true, true, true, true, true, true, true, true, true, true, true, true, true, false, false, false, false] rfl rfl (any_of HT_.out (by kernel_rfl)) (fun _ _ _ h => h) (Or.inr ⟨by rfl, rfl⟩) ?_ ?_
                                                              rotate_left
                                                              · simp only [Act.put, List.setIfInBounds_toArray, List.set_cons_zero, List.set_cons_succ, i64_w, i32_w]
                                                                rfl
                                                              refine pure_ (i := 24) (N := some 113) (v := undef) (a' := ?_) #[true, true, true, true, true, true, true, true, true, true, true, true, true, true, true, true, true, true, true, true, true, true, true, true, true, false, false, false] rfl rfl (any_of HT_.out (by kernel_rfl)) (fun _ _ _ h => h) (Or.inr ⟨by rfl, rfl⟩) ?_ ?_
                                                              rotate_left
                                                              · simp only [Act.put, List.setIfInBounds_toArray, List.set_cons_zero, List.set_cons_succ, i64_w, i32_w]
                                                                rfl
                                                              refine pure_ (i := 25) (N := some 114) (v := undef) (a' := ?_) #[true, true, true, true, true, true, true, true, true, true, true, true, true, true, true, true, true, true, true, true, true, true, true, true, true, true, false, false] rfl rfl (any_of HT_.out (by kernel_rfl)) (fun _ _ _ h => h) (Or.inr ⟨by rfl, rfl⟩) ?_ ?_
                                                              rotate_left
                                                              · simp only [Act.put, List.setIfInBounds_toArray, List.set_cons_zero, List.set_cons_succ, i64_w, i32_w]
                                                                rfl
                                                              refine pure_ (i := 26) (N := some 115) (v := undef) (a' := ?_) #[true, true, true, true, true, true, true, true, true, true, true, true, true, true, true, true, true, true, true, true, true, true, true, true, true, true, true, false] rfl rfl (any_of HT_.out (by kernel_rfl)) (fun _ _ _ h => h) (Or.inr ⟨by rfl, rfl⟩) ?_ ?_
                                                              rotate_left
                                                              · simp only [Act.put, List.setIfInBounds_toArray, List.set_cons_zero, List.set_cons_succ, i64_w, i32_w]
                                                                rfl
                                                              refine pure_ (i := 27) (N := some 116) (v := ?_) (a' := ?_) #[true, true, true, true, true, true, true, true, true, true, true, true, true, true, true, true, true, true, true, true, true, true, true, true, true, true, true, true] rfl rfl (any_of HT_.out (by kernel_rfl)) (fun _ _ _ h => h) (Or.inl ⟨by rfl, ?_⟩) ?_ ?_
                                                              rotate_left
                                                              · intro w'
                                                                go_simp
                                                                with_reducible rfl
                                                              rotate_left
                                                              · simp only [Act.put, List.setIfInBounds_toArray, List.set_cons_zero, List.set_cons_succ, i64_w, i32_w]
                                                                rfl
                                                              refine done_ (done_of HT_.out (by kernel_rfl)) ?_
                                                              try go_wp2
                                                              go_roundg k6
                                                              case measure => have := HJ5.out; have := HJ19.out; have := HJ29.out; have := HK4.out; have := HK5.out; have := HK6.out; omega
                                                              case rel => exact ⟨(wrap64 (x86_6 + 1)), (by first | rfl | (simp; done) | (simp [*]; done) | (simp [Go.Proofs.YtekjffooblcmnaaX.isEmpty_ne]; done)), H', ⟨by have := HJ5.out; have := HJ19.out; have := HJ29.out; have := HK4.out; have := HK5.out; have := HK6.out; omega⟩, ⟨by (with_reducible repeat (first | apply Kd.R_alloc | apply Kd.R_drewN | apply Kd.R_drew)); exact HO_6.out⟩, ⟨by repeat (first | (with_reducible first | exact HB.out | apply below_alloc | apply pw_below_drewN | apply below_drew1) | exact HB.out)⟩⟩
                                                          · rw [if_neg c61] at H
                                                            exact absurd H (by simp)
                                                        · rw [if_neg c60] at H
                                                          exact absurd H (by simp)
                                                      · replace c59 := Bool.eq_false_iff.mpr c59
                                                        subst c59
                                                        have H1 : (laws_FnAddedAhead.l2 k6 l0 t117 x82_5 (l0.length : Int) x82_5 x82_5 (wrap64 (x86_6 + 1))) = some r := by rw [if_neg (show ¬ (false = true) by decide)] at H; exact H
                                                        clear H
                                                        have H := H1
                                                        clear H1
                                                        have H' := Aside0.mk H
                                                        clear H
                                                        try go_wp2
                                                        have n0_ := Aside0.mk (Kd.R_drew HO_6.out)
                                                        have n1_ := Aside0.mk (below_drew1 HB.out)
                                                        clear HO_6
                                                        clear HB
                                                        have HO_6 := n0_
                                                        have HB := n1_
                                                        clear n0_ n1_
                                                        obtain ⟨Ao72, co72, eo72⟩ := Kd.R_slice HO_6.out
                                                        (first | subst eo72 | (injection eo72 with f1_ f2_ f3_; have f4_ := f1_.symm; have f5_ := f3_.symm; clear f1_ f2_ f3_; subst f4_; subst f5_))
                                                        have p126 : 0 ≤ (x82_5 : Int) := of_decide_eq_true (by first | (with_reducible assumption) | assumption)
                                                        have q126 : x82_5 < (t117.length : Int) := of_decide_eq_true (by first | (with_reducible assumption) | assumption)
                                                        obtain ⟨ad126, e126, hx126_0⟩ := Kd.at_bool (Kd.R_reads' HO_6.out).2.2 x82_5 p126 q126
                                                        (try rw [← Nbq54.out] at hx126_0)
                                                        (try rw [← Nbq58.out] at hx126_0)
                                                        cases e126
                                                        replace p126 := eq_true p126
                                                        replace q126 := eq_true q126
                                                        have p127 : 0 ≤ (x86_6 : Int) := of_decide_eq_true (by first | (with_reducible assumption) | assumption)
                                                        have q127 : x86_6 < (t117.length : Int) := of_decide_eq_true (by first | (with_reducible assumption) | assumption)
                                                        obtain ⟨ad127, e127, hx127_0⟩ := Kd.at_bool (Kd.R_reads' HO_6.out).2.2 x86_6 p127 q127
                                                        (try rw [← Nbq54.out] at hx127_0)
                                                        (try rw [← Nbq58.out] at hx127_0)
                                                        obtain rfl : ad126 = ad127 := (by injection e127)
                                                        replace p127 := eq_true p127
                                                        replace q127 := eq_true q127
                                                        refine start_ (n := 28) (S := fun w' => w'.cell? (ad126.add (x82_5).toNat) = some (.bool true) ∧ w'.cell? (ad126.add (x86_6).toNat) = some (.bool false)) (ds := []) #[false, false, false, false, false, false, false, false, false, false, false, false, false, false, false, false, false, false, false, false, false, false, false, false, false, false, false, false] (by kernel_rfl) rfl rfl ⟨hx126_0, hx127_0⟩ (fun hHeld => ?_); refine with_tabW laws_FnAddedAhead.tab23 laws_FnAddedAhead.bits23 (fun HT_ HW_ => ?_)
                                                        generalize wr.drew = w71 at HO_6 HB hx126_0 hx127_0 hHeld ⊢
                                                        refine pure_ (i := 0) (N := some 89) (v := ?_) (a' := ?_) #[true, false, false, false, false, false, false, false, false, false, false, false, false, false, false, false, false, false, false, false, false, false, false, false, false, false, false, false] rfl rfl (any_of HT_.out (by kernel_rfl)) (fun _ _ _ h => h) (Or.inl ⟨by rfl, ?_⟩) ?_ ?_
                                                        rotate_left
                                                        · intro w'
                                                          go_simp
                                                          with_reducible rfl
                                                        rotate_left
                                                        · simp only [Act.put, List.setIfInBounds_toArray, List.set_cons_zero, List.set_cons_succ, i64_w, i32_w]
                                                          rfl
                                                        refine pure_ (i := 1) (N := some 90) (v := ?_) (a' := ?_) #[true, true, false, false, false, false, false, false, false, false, false, false, false, false, false, false, false, false, false, false, false, false, false, false, false, false, false, false] rfl rfl (any_of HT_.out (by kernel_rfl)) (fun _ _ _ h => h) (Or.inl ⟨by rfl, ?_⟩) ?_ ?_
                                                        rotate_left
                                                        · intro w'
                                                          go_simp
                                                          with_reducible rfl
                                                        rotate_left
                                                        · simp only [Act.put, List.setIfInBounds_toArray, List.set_cons_zero, List.set_cons_succ, i64_w, i32_w]
                                                          rfl
                                                        refine pure_ (i := 2) (N := some 91) (v := ?_) (a' := ?_) #[true, true, true, false, false, false, false, false, false, false, false, false, false, false, false, false, false, false, false, false, false, false, false, false, false, false, false, false] rfl rfl (any_of HT_.out (by kernel_rfl)) (fun _ _ _ h => h) (Or.inl ⟨by rfl, ?_⟩) ?_ ?_
                                                        rotate_left
                                                        · intro w'
                                                          go_simp
                                                          with_reducible rfl
                                                        rotate_left
                                                        · simp only [Act.put, List.setIfInBounds_toArray, List.set_cons_zero, List.set_cons_succ, i64_w, i32_w]
                                                          rfl
                                                        refine take_ (i := 3) (N := some 92) (v := ?_) (a' := ?_) #[true, true, true, true, false, false, false, false, false, false, false, false, false, false, false, false, false, false, false, false, false, false, false, false, false, false, false, false] rfl rfl (take_ofW HT_.out HW_.out (by kernel_rfl)) (fun _ _ _ h => h) (Or.inl ⟨by rfl, ?_⟩) hHeld ?_ ?_
                                                        rotate_left
                                                        · rintro w' ⟨s0, s1⟩
                                                          go_simp
                                                          with_reducible rfl
                                                        rotate_left
                                                        · simp only [Act.put, List.setIfInBounds_toArray, List.set_cons_zero, List.set_cons_succ, i64_w, i32_w]
                                                          rfl
                                                        refine pure_ (i := 4) (N := some 93) (v := ?_) (a' := ?_) #[true, true, true, true, true, false, false, false, false, false, false, false, false, false, false, false, false, false, false, false, false, false, false, false, false, false, false, false] rfl rfl (any_of HT_.out (by kernel_rfl)) (fun _ _ _ h => h) (Or.inl ⟨by rfl, ?_⟩) ?_ ?_
                                                        rotate_left
                                                        · intro w'
                                                          go_simp
                                                          with_reducible rfl
                                                        rotate_left
                                                        · simp only [Act.put, List.setIfInBounds_toArray, List.set_cons_zero, List.set_cons_succ, i64_w, i32_w]
                                                          rfl
                                                        refine pure_ (i := 5) (N := some 94) (v := ?_) (a' := ?_) #[true, true, true, true, true, true, false, false, false, false, false, false, false, false, false, false, false, false, false, false, false, false, false, false, false, false, false, false] rfl rfl (any_of HT_.out (by kernel_rfl)) (fun _ _ _ h => h) (Or.inl ⟨by rfl, ?_⟩) ?_ ?_
                                                        rotate_left
                                                        · intro w'
                                                          go_simp
                                                          with_reducible rfl
                                                        rotate_left
                                                        · simp only [Act.put, List.setIfInBounds_toArray, List.set_cons_zero, List.set_cons_succ, i64_w, i32_w]
                                                          rfl
                                                        refine pure_ (i := 6) (N := some 95) (v := ?_) (a' := ?_) #[true, true, true, true, true, true, true, false, false, false, false, false, false, false, false, false, false, false, false, false, false, false, false, false, false, false, false, false] rfl rfl (any_of HT_.out (by kernel_rfl)) (fun _ _ _ h => h) (Or.inl ⟨by rfl, ?_⟩) ?_ ?_
                                                        rotate_left
                                                        · intro w'
                                                          go_simp
                                                          with_reducible rfl
                                                        rotate_left
                                                        · simp only [Act.put, List.setIfInBounds_toArray, List.set_cons_zero, List.set_cons_succ, i64_w, i32_w]
                                                          rfl
                                                        refine pure_ (i := 7) (N := some 96) (v := ?_) (a' := ?_) #[true, true, true, true, true, true, true, true, false, false, false, false, false, false, false, false, false, false, false, false, false, false, false, false, false, false, false, false] rfl rfl (any_of HT_.out (by kernel_rfl)) (fun _ _ _ h => h) (Or.inl ⟨by rfl, ?_⟩) ?_ ?_
                                                        rotate_left
                                                        · intro w'
                                                          go_simp
                                                          with_reducible rfl
                                                        rotate_left
                                                        · simp only [Act.put, List.setIfInBounds_toArray, List.set_cons_zero, List.set_cons_succ, i64_w, i32_w]
                                                          rfl
                                                        refine take_ (i := 8) (N := some 97) (v := ?_) (a' := ?_) #[true, true, true, true, true, true, true, true, true, false, false, false, false, false, false, false, false, false, false, false, false, false, false, false, false, false, false, false] rfl rfl (take_ofW HT_.out HW_.out (by kernel_rfl)) (fun _ _ _ h => h) (Or.inl ⟨by rfl, ?_⟩) hHeld ?_ ?_
                                                        rotate_left
                                                        · rintro w' ⟨s0, s1⟩
                                                          go_simp
                                                          with_reducible rfl
                                                        rotate_left
                                                        · simp only [Act.put, List.setIfInBounds_toArray, List.set_cons_zero, List.set_cons_succ, i64_w, i32_w]
                                                          rfl
                                                        refine pure_ (i := 9) (N := some 98) (v := ?_) (a' := ?_) #[true, true, true, true, true, true, true, true, true, true, false, false, false, false, false, false, false, false, false, false, false, false, false, false, false, false, false, false] rfl rfl (any_of HT_.out (by kernel_rfl)) (fun _ _ _ h => h) (Or.inl ⟨by rfl, ?_⟩) ?_ ?_
                                                        rotate_left
                                                        · intro w'
                                                          go_simp
                                                          with_reducible rfl
                                                        rotate_left
                                                        · simp only [Act.put, List.setIfInBounds_toArray, List.set_cons_zero, List.set_cons_succ, i64_w, i32_w]
                                                          rfl
                                                        refine pure_ (i := 10) (N := some 99) (v := ?_) (a' := ?_) #[true, true, true, true, true, true, true, true, true, true, true, false, false, false, false, false, false, false, false, false, false, false, false, false, false, false, false, false] rfl rfl (any_of HT_.out (by kernel_rfl)) (fun _ _ _ h => h) (Or.inl ⟨by rfl, ?_⟩) ?_ ?_
                                                        rotate_left
                                                        · intro w'
                                                          go_simp
                                                          with_reducible rfl
                                                        rotate_left
                                                        · simp only [Act.put, List.setIfInBounds_toArray, List.set_cons_zero, List.set_cons_succ, i64_w, i32_w]
                                                          rfl
                                                        refine pure_ (i := 11) (N := some 100) (v := undef) (a' := ?_) #[true, true, true, true, true, true, true, true, true, true, true, true, false, false, false, false, false, false, false, false, false, false, false, false, false, false, false, false] rfl rfl (any_of HT_.out (by kernel_rfl)) (fun _ _ _ h => h) (Or.inr ⟨by rfl, rfl⟩) ?_ ?_
                                                        rotate_left
                                                        · simp only [Act.put, List.setIfInBounds_toArray, List.set_cons_zero, List.set_cons_succ, i64_w, i32_w]
                                                          rfl
                                                        refine pure_ (i := 12) (N := some 101) (v := undef) (a' := ?_) #[true, true, true, true, true, true, true, true, true, true, true, true, true, false, false, false, false, false, false, false, false, false, false, false, false, false, false, false] rfl rfl (any_of HT_.out (by kernel_rfl)) (fun _ _ _ h => h) (Or.inr ⟨by rfl, rfl⟩) ?_ ?_
                                                        rotate_left
                                                        · simp only [Act.put, List.setIfInBounds_toArray, List.set_cons_zero, List.set_cons_succ, i64_w, i32_w]
                                                          rfl
                                                        refine pure_ (i := 13) (N := some 102) (v := undef) (a' := ?_) #[true, true, true, true, true, true, true, true, true, true, true, true, true, true, false, false, false, false, false, false, false, false, false, false, false, false, false, false] rfl rfl (any_of HT_.out (by kernel_rfl)) (fun _ _ _ h => h) (Or.inr ⟨by rfl, rfl⟩) ?_ ?_
                                                        rotate_left
                                                        · simp only [Act.put, List.setIfInBounds_toArray, List.set_cons_zero, List.set_cons_succ, i64_w, i32_w]
                                                          rfl
                                                        refine pure_ (i := 14) (N := some 103) (v := undef) (a' := ?_) #[true, true, true, true, true, true, true, true, true, true, true, true, true, true, true, false, false, false, false, false, false, false, false, false, false, false, false, false] rfl rfl (any_of HT_.out (by kernel_rfl)) (fun _ _ _ h => h) (Or.inr ⟨by rfl, rfl⟩) ?_ ?_
                                                        rotate_left
                                                        · simp only [Act.put, List.setIfInBounds_toArray, List.set_cons_zero, List.set_cons_succ, i64_w, i32_w]
                                                          rfl
                                                        refine pure_ (i := 15) (N := some 104) (v := undef) (a' := ?_) #[true, true, true, true, true, true, true, true, true, true, true, true, true, true, true, true, false, false, false, false, false, false, false, false, false, false, false, false] rfl rfl (any_of HT_.out (by kernel_rfl)) (fun _ _ _ h => h) (Or.inr ⟨by rfl, rfl⟩) ?_ ?_
                                                        rotate_left
                                                        · simp only [Act.put, List.setIfInBounds_toArray, List.set_cons_zero, List.set_cons_succ, i64_w, i32_w]
                                                          rfl
                                                        refine pure_ (i := 16) (N := some 105) (v := undef) (a' := ?_) #[true, true, true, true, true, true, true, true, true, true, true, true, true, true, true, true, true, false, false, false, false, false, false, false, false, false, false, false] rfl rfl (any_of HT_.out (by kernel_rfl)) (fun _ _ _ h => h) (Or.inr ⟨by rfl, rfl⟩) ?_ ?_
                                                        rotate_left
                                                        · simp only [Act.put, List.setIfInBounds_toArray, List.set_cons_zero, List.set_cons_succ, i64_w, i32_w]
                                                          rfl
                                                        refine pure_ (i := 17) (N := some 106) (v := undef) (a' := ?_) #[true, true, true, true, true, true, true, true, true, true, true, true, true, true, true, true, true, true, false, false, false, false, false, false, false, false, false, false] rfl rfl (any_of HT_.out (by kernel_rfl)) (fun _ _ _ h => h) (Or.inr ⟨by rfl, rfl⟩) ?_ ?_
                                                        rotate_left
                                                        · simp only [Act.put, List.setIfInBounds_toArray, List.set_cons_zero, List.set_cons_succ, i64_w, i32_w]
                                                          rfl
                                                        refine pure_ (i := 18) (N := some 107) (v := undef) (a' := ?_) #[true, true, true, true, true, true, true, true, true, true, true, true, true, true, true, true, true, true, true, false, false, false, false, false, false, false, false, false] rfl rfl (any_of HT_.out (by kernel_rfl)) (fun _ _ _ h => h) (Or.inr ⟨by rfl, rfl⟩) ?_ ?_
                                                        rotate_left
                                                        · simp only [Act.put, List.setIfInBounds_toArray, List.set_cons_zero, List.set_cons_succ, i64_w, i32_w]
                                                          rfl
                                                        refine pure_ (i := 19) (N := some 108) (v := undef) (a' := ?_) #[true, true, true, true, true, true, true, true, true, true, true, true, true, true, true, true, true, true, true, true, false, false, false, false, false, false, false, false] rfl rfl (any_of HT_.out (by kernel_rfl)) (fun _ _ _ h => h) (Or.inr ⟨by rfl, rfl⟩) ?_ ?_
                                                        rotate_left
                                                        · simp only [Act.put, List.setIfInBounds_toArray, List.set_cons_zero, List.set_cons_succ, i64_w, i32_w]
                                                          rfl
                                                        refine pure_ (i := 20) (N := some 109) (v := ?_) (a' := ?_) #[true, true, true, true, true, true, true, true, true, true, true, true, true, true, true, true, true, true, true, true, true, false, false, false, false, false, false, false] rfl rfl (any_of HT_.out (by kernel_rfl)) (fun _ _ _ h => h) (Or.inl ⟨by rfl, ?_⟩) ?_ ?_
                                                        rotate_left
                                                        · intro w'
                                                          go_simp
                                                          with_reducible rfl
                                                        rotate_left
                                                        · simp only [Act.put, List.setIfInBounds_toArray, List.set_cons_zero, List.set_cons_succ, i64_w, i32_w]
                                                          rfl
                                                        refine pure_ (i := 21) (N := some 110) (v := ?_) (a' := ?_) #[true, true, true, true, true, true, true, true, true, true, true, true, true, true, true, true, true, true, true, true, true, true, false, false, false, false, false, false] rfl rfl (any_of HT_.out (by kernel_rfl)) (fun _ _ _ h => h) (Or.inl ⟨by rfl, ?_⟩) ?_ ?_
                                                        rotate_left
                                                        · intro w'
                                                          go_simp
                                                          with_reducible rfl
                                                        rotate_left
                                                        · simp only [Act.put, List.setIfInBounds_toArray, List.set_cons_zero, List.set_cons_succ, i64_w, i32_w]
                                                          rfl
                                                        refine pure_ (i := 22) (N := some 111) (v := undef) (a' := ?_) #[true, true, true, true, true, true, true, true, true, true, true, true, true, true, true, true, true, true, true, true, true, true, true, false, false, false, false, false] rfl rfl (any_of HT_.out (by kernel_rfl)) (fun _ _ _ h => h) (Or.inr ⟨by rfl, rfl⟩) ?_ ?_
                                                        rotate_left
                                                        · simp only [Act.put, List.setIfInBounds_toArray, List.set_cons_zero, List.set_cons_succ, i64_w, i32_w]
                                                          rfl
                                                        refine pure_ (i := 23) (N := some 112) (v := undef) (a' := ?_) #[true, true, true, true, true, true, true, true, true, true, true, true, true, true, true, true, true, true, true, true, true, true, true, true, false, false, false, false] rfl rfl (any_of HT_.out (by kernel_rfl)) (fun _ _ _ h => h) (Or.inr ⟨by rfl, rfl⟩) ?_ ?_
                                                        rotate_left
                                                        · simp only [Act.put, List.setIfInBounds_toArray, List.set_cons_zero, List.set_cons_succ, i64_w, i32_w]
                                                          rfl
                                                        refine pure_ (i := 24) (N := some 113) (v := undef) (a' := ?_) #[true, true, true, true, true, true, true, true, true, true, true, true, true, true, true, true, true, true, true, true, true, true, true, true, true, false, false, false] rfl rfl (any_of HT_.out (by kernel_rfl)) (fun _ _ _ h => h) (Or.inr ⟨by rfl, rfl⟩) ?_ ?_
                                                        rotate_left
                                                        · simp only [Act.put, List.setIfInBounds_toArray, List.set_cons_zero, List.set_cons_succ, i64_w, i32_w]
                                                          rfl
                                                        refine pure_ (i := 25) (N := some 114) (v := undef) (a' := ?_) #[true, true, true, true, true, true, true, true, true, true, true, true, true, true, true, true, true, true, true, true, true, true, true, true, true, true, false, false] rfl rfl (any_of HT_.out (by kernel_rfl)) (fun _ _ _ h => h) (Or.inr ⟨by rfl, rfl⟩) ?_ ?_
                                                        rotate_left
                                                        · simp only [Act.put, List.setIfInBounds_toArray, List.set_cons_zero, List.set_cons_succ, i64_w, i32_w]
                                                          rfl
                                                        refine pure_ (i := 26) (N := some 115) (v := undef) (a' := ?_) #[true, true, true, true, true, true, true, true, true, true, true, true, true, true, true, true, true, true, true, true, true, true, true, true, true, true, true, false] rfl rfl (any_of HT_.out (by kernel_rfl)) (fun _ _ _ h => h) (Or.inr ⟨by rfl, rfl⟩) ?_ ?_
                                                        rotate_left
                                                        · simp only [Act.put, List.setIfInBounds_toArray, List.set_cons_zero, List.set_cons_succ, i64_w, i32_w]
                                                          rfl
                                                        refine pure_ (i := 27) (N := some 116) (v := ?_) (a' := ?_) #[true, true, true, true, true, true, true, true, true, true, true, true, true, true, true, true, true, true, true, true, true, true, true, true, true, true, true, true] rfl rfl (any_of HT_.out (by kernel_rfl)) (fun _ _ _ h => h) (Or.inl ⟨by rfl, ?_⟩) ?_ ?_
                                                        rotate_left
                                                        · intro w'
                                                          go_simp
                                                          with_reducible rfl
                                                        rotate_left
                                                        · simp only [Act.put, List.setIfInBounds_toArray, List.set_cons_zero, List.set_cons_succ, i64_w, i32_w]
                                                          rfl
                                                        refine done_ (done_of HT_.out (by kernel_rfl)) ?_
                                                        try go_wp2
                                                        go_roundg k6
                                                        case measure => have := HJ5.out; have := HJ19.out; have := HJ29.out; have := HK4.out; have := HK5.out; have := HK6.out; omega
                                                        case rel => exact ⟨(wrap64 (x86_6 + 1)), (by first | rfl | (simp; done) | (simp [*]; done) | (simp [Go.Proofs.YtekjffooblcmnaaX.isEmpty_ne]; done)), H', ⟨by have := HJ5.out; have := HJ19.out; have := HJ29.out; have := HK4.out; have := HK5.out; have := HK6.out; omega⟩, ⟨by (with_reducible repeat (first | apply Kd.R_alloc | apply Kd.R_drewN | apply Kd.R_drew)); exact HO_6.out⟩, ⟨by repeat (first | (with_reducible first | exact HB.out | apply below_alloc | apply pw_below_drewN | apply below_drew1) | exact HB.out)⟩⟩
                                                    · rw [if_neg c57] at H
                                                      exact absurd H (by simp)
                                                  · rw [if_neg c56] at H
                                                    exact absurd H (by simp)
                                                · replace c55 := Bool.eq_false_iff.mpr c55
                                                  subst c55
                                                  have H1 : (laws_FnAddedAhead.l2 k6 l0 t117 x82_5 (l0.length : Int) x82_5 x82_5 (wrap64 (x86_6 + 1))) = some r := by rw [if_neg (show ¬ (false = true) by decide)] at H; exact H
                                                  clear H
                                                  have H := H1
                                                  clear H1
                                                  have H' := Aside0.mk H
                                                  clear H
                                                  try go_wp2
                                                  have n0_ := Aside0.mk (Kd.R_drew HO_6.out)
                                                  have n1_ := Aside0.mk (below_drew1 HB.out)
                                                  clear HO_6
                                                  clear HB
                                                  have HO_6 := n0_
                                                  have HB := n1_
                                                  clear n0_ n1_
                                                  obtain ⟨Ao74, co74, eo74⟩ := Kd.R_slice HO_6.out
                                                  (first | subst eo74 | (injection eo74 with f1_ f2_ f3_; have f4_ := f1_.symm; have f5_ := f3_.symm; clear f1_ f2_ f3_; subst f4_; subst f5_))
                                                  have p126 : 0 ≤ (x82_5 : Int) := of_decide_eq_true (by first | (with_reducible assumption) | assumption)
                                                  have q126 : x82_5 < (t117.length : Int) := of_decide_eq_true (by first | (with_reducible assumption) | assumption)
                                                  obtain ⟨ad126, e126, hx126_0⟩ := Kd.at_bool (Kd.R_reads' HO_6.out).2.2 x82_5 p126 q126
                                                  (try rw [← Nbq54.out] at hx126_0)
                                                  cases e126
                                                  replace p126 := eq_true p126
                                                  replace q126 := eq_true q126
                                                  refine start_ (n := 28) (S := fun w' => w'.cell? (ad126.add (x82_5).toNat) = some (.bool false)) (ds := []) #[false, false, false, false, false, false, false, false, false, false, false, false, false, false, false, false, false, false, false, false, false, false, false, false, false, false, false, false] (by kernel_rfl) rfl rfl (hx126_0) (fun hHeld => ?_); refine with_tabW laws_FnAddedAhead.tab23 laws_FnAddedAhead.bits23 (fun HT_ HW_ => ?_)
                                                  generalize wr.drew = w73 at HO_6 HB hx126_0 hHeld ⊢
                                                  refine pure_ (i := 0) (N := some 89) (v := ?_) (a' := ?_) #[true, false, false, false, false, false, false, false, false, false, false, false, false, false, false, false, false, false, false, false, false, false, false, false, false, false, false, false] rfl rfl (any_of HT_.out (by kernel_rfl)) (fun _ _ _ h => h) (Or.inl ⟨by rfl, ?_⟩) ?_ ?_
                                                  rotate_left
                                                  · intro w'
                                                    go_simp
                                                    with_reducible rfl
                                                  rotate_left
                                                  · simp only [Act.put, List.setIfInBounds_toArray, List.set_cons_zero, List.set_cons_succ, i64_w, i32_w]
                                                    rfl
                                                  refine pure_ (i := 1) (N := some 90) (v := ?_) (a' := ?_) #[true, true, false, false, false, false, false, false, false, false, false, false, false, false, false, false, false, false, false, false, false, false, false, false, false, false, false, false] rfl rfl (any_of HT_.out (by kernel_rfl)) (fun _ _ _ h => h) (Or.inl ⟨by rfl, ?_⟩) ?_ ?_
                                                  rotate_left
                                                  · intro w'
                                                    go_simp
                                                    with_reducible rfl
                                                  rotate_left
                                                  · simp only [Act.put, List.setIfInBounds_toArray, List.set_cons_zero, List.set_cons_succ, i64_w, i32_w]
                                                    rfl
                                                  refine pure_ (i := 2) (N := some 91) (v := ?_) (a' := ?_) #[true, true, true, false, false, false, false, false, false, false, false, false, false, false, false, false, false, false, false, false, false, false, false, false, false, false, false, false] rfl rfl (any_of HT_.out (by kernel_rfl)) (fun _ _ _ h => h) (Or.inl ⟨by rfl, ?_⟩) ?_ ?_
                                                  rotate_left
                                                  · intro w'
                                                    go_simp
                                                    with_reducible rfl
                                                  rotate_left
                                                  · simp only [Act.put, List.setIfInBounds_toArray, List.set_cons_zero, List.set_cons_succ, i64_w, i32_w]
                                                    rfl
                                                  refine take_ (i := 3) (N := some 92) (v := ?_) (a' := ?_) #[true, true, true, true, false, false, false, false, false, false, false, false, false, false, false, false, false, false, false, false, false, false, false, false, false, false, false, false] rfl rfl (take_ofW HT_.out HW_.out (by kernel_rfl)) (fun _ _ _ h => h) (Or.inl ⟨by rfl, ?_⟩) hHeld ?_ ?_
                                                  rotate_left
                                                  · intro w' s0
                                                    go_simp
                                                    with_reducible rfl
                                                  rotate_left
                                                  · simp only [Act.put, List.setIfInBounds_toArray, List.set_cons_zero, List.set_cons_succ, i64_w, i32_w]
                                                    rfl
                                                  refine pure_ (i := 4) (N := some 93) (v := ?_) (a' := ?_) #[true, true, true, true, true, false, false, false, false, false, false, false, false, false, false, false, false, false, false, false, false, false, false, false, false, false, false, false] rfl rfl (any_of HT_.out (by kernel_rfl)) (fun _ _ _ h => h) (Or.inl ⟨by rfl, ?_⟩) ?_ ?_
                                                  rotate_left
                                                  · intro w'
                                                    go_simp
                                                    with_reducible rfl
                                                  rotate_left
                                                  · simp only [Act.put, List.setIfInBounds_toArray, List.set_cons_zero, List.set_cons_succ, i64_w, i32_w]
                                                    rfl
                                                  refine pure_ (i := 5) (N := some 94) (v := undef) (a' := ?_) #[true, true, true, true, true, true, false, false, false, false, false, false, false, false, false, false, false, false, false, false, false, false, false, false, false, false, false, false] rfl rfl (any_of HT_.out (by kernel_rfl)) (fun _ _ _ h => h) (Or.inr ⟨by rfl, rfl⟩) ?_ ?_
                                                  rotate_left
                                                  · simp only [Act.put, List.setIfInBounds_toArray, List.set_cons_zero, List.set_cons_succ, i64_w, i32_w]
                                                    rfl
                                                  refine pure_ (i := 6) (N := some 95) (v := undef) (a' := ?_) #[true, true, true, true, true, true, true, false, false, false, false, false, false, false, false, false, false, false, false, false, false, false, false, false, false, false, false, false] rfl rfl (any_of HT_.out (by kernel_rfl)) (fun _ _ _ h => h) (Or.inr ⟨by rfl, rfl⟩) ?_ ?_
                                                  rotate_left
                                                  · simp only [Act.put, List.setIfInBounds_toArray, List.set_cons_zero, List.set_cons_succ, i64_w, i32_w]
                                                    rfl
                                                  refine pure_ (i := 7) (N := some 96) (v := undef) (a' := ?_) #[true, true, true, true, true, true, true, true, false, false, false, false, false, false, false, false, false, false, false, false, false, false, false, false, false, false, false, false] rfl rfl (any_of HT_.out (by kernel_rfl)) (fun _ _ _ h => h) (Or.inr ⟨by rfl, rfl⟩) ?_ ?_
                                                  rotate_left
                                                  · simp only [Act.put, List.setIfInBounds_toArray, List.set_cons_zero, List.set_cons_succ, i64_w, i32_w]
                                                    rfl
                                                  refine pure_ (i := 8) (N := some 97) (v := undef) (a' := ?_) #[true, true, true, true, true, true, true, true, true, false, false, false, false, false, false, false, false, false, false, false, false, false, false, false, false, false, false, false] rfl rfl (any_of HT_.out (by kernel_rfl)) (fun _ _ _ h => h) (Or.inr ⟨by rfl, rfl⟩) ?_ ?_
                                                  rotate_left
                                                  · simp only [Act.put, List.setIfInBounds_toArray, List.set_cons_zero, List.set_cons_succ, i64_w, i32_w]
                                                    rfl
                                                  refine pure_ (i := 9) (N := some 98) (v := ?_) (a' := ?_) #[true, true, true, true, true, true, true, true, true, true, false, false, false, false, false, false, false, false, false, false, false, false, false, false, false, false, false, false] rfl rfl (any_of HT_.out (by kernel_rfl)) (fun _ _ _ h => h) (Or.inl ⟨by rfl, ?_⟩) ?_ ?_
                                                  rotate_left
                                                  · intro w'
                                                    go_simp
                                                    with_reducible rfl
                                                  rotate_left
                                                  · simp only [Act.put, List.setIfInBounds_toArray, List.set_cons_zero, List.set_cons_succ, i64_w, i32_w]
                                                    rfl
                                                  refine pure_ (i := 10) (N := some 99) (v := ?_) (a' := ?_) #[true, true, true, true, true, true, true, true, true, true, true, false, false, false, false, false, false, false, false, false, false, false, false, false, false, false, false, false] rfl rfl (any_of HT_.out (by kernel_rfl)) (fun _ _ _ h => h) (Or.inl ⟨by rfl, ?_⟩) ?_ ?_
                                                  rotate_left
                                                  · intro w'
                                                    go_simp
                                                    with_reducible rfl
                                                  rotate_left
                                                  · simp only [Act.put, List.setIfInBounds_toArray, List.set_cons_zero, List.set_cons_succ, i64_w, i32_w]
                                                    rfl
                                                  refine pure_ (i := 11) (N := some 100) (v := undef) (a' := ?_) #[true, true, true, true, true, true, true, true, true, true, true, true, false, false, false, false, false, false, false, false, false, false, false, false, false, false, false, false] rfl rfl (any_of HT_.out (by kernel_rfl)) (fun _ _ _ h => h) (Or.inr ⟨by rfl, rfl⟩) ?_ ?_
                                                  rotate_left
                                                  · simp only [Act.put, List.setIfInBounds_toArray, List.set_cons_zero, List.set_cons_succ, i64_w, i32_w]
                                                    rfl
                                                  refine pure_ (i := 12) (N := some 101) (v := undef) (a' := ?_) #[true, true, true, true, true, true, true, true, true, true, true, true, true, false, false, false, false, false, false, false, false, false, false, false, false, false, false, false] rfl rfl (any_of HT_.out (by kernel_rfl)) (fun _ _ _ h => h) (Or.inr ⟨by rfl, rfl⟩) ?_ ?_
                                                  rotate_left
                                                  · simp only [Act.put, List.setIfInBounds_toArray, List.set_cons_zero, List.set_cons_succ, i64_w, i32_w]
                                                    rfl
                                                  refine pure_ (i := 13) (N := some 102) (v := undef) (a' := ?_) #[true, true, true, true, true, true, true, true, true, true, true, true, true, true, false, false, false, false, false, false, false, false, false, false, false, false, false, false] rfl rfl (any_of HT_.out (by kernel_rfl)) (fun _ _ _ h => h) (Or.inr ⟨by rfl, rfl⟩) ?_ ?_
                                                  rotate_left
                                                  · simp only [Act.put, List.setIfInBounds_toArray, List.set_cons_zero, List.set_cons_succ, i64_w, i32_w]
                                                    rfl
                                                  refine pure_ (i := 14) (N := some 103) (v := undef) (a' := ?_) #[true, true, true, true, true, true, true, true, true, true, true, true, true, true, true, false, false, false, false, false, false, false, false, false, false, false, false, false] rfl rfl (any_of HT_.out (by kernel_rfl)) (fun _ _ _ h => h) (Or.inr ⟨by rfl, rfl⟩) ?_ ?_
                                                  rotate_left
                                                  · simp only [Act.put, List.setIfInBounds_toArray, List.set_cons_zero, List.set_cons_succ, i64_w, i32_w]
                                                    rfl
                                                  refine pure_ (i := 15) (N := some 104) (v := undef) (a' := ?_) #[true, true, true, true, true, true, true, true, true, true, true, true, true, true, true, true, false, false, false, false, false, false, false, false, false, false, false, false] rfl rfl (any_of HT_.out (by kernel_rfl)) (fun _ _ _ h => h) (Or.inr ⟨by rfl, rfl⟩) ?_ ?_
                                                  rotate_left
                                                  · simp only [Act.put, List.setIfInBounds_toArray, List.set_cons_zero, List.set_cons_succ, i64_w, i32_w]
                                                    rfl
                                                  refine pure_ (i := 16) (N := some 105) (v := undef) (a' := ?_) #[true, true, true, true, true, true, true, true, true, true, true, true, true, true, true, true, true, false, false, false, false, false, false, false, false, false, false, false] rfl rfl (any_of HT_.out (by kernel_rfl)) (fun _ _ _ h => h) (Or.inr ⟨by rfl, rfl⟩) ?_ ?_
                                                  rotate_left
                                                  · simp only [Act.put, List.setIfInBounds_toArray, List.set_cons_zero, List.set_cons_succ, i64_w, i32_w]
                                                    rfl
                                                  refine pure_ (i := 17) (N := some 106) (v := undef) (a' := ?_) #[true, true, true, true, true, true, true, true, true, true, true, true, true, true, true, true, true, true, false, false, false, false, false, false, false, false, false, false] rfl rfl (any_of HT_.out (by kernel_rfl)) (fun _ _ _ h => h) (Or.inr ⟨by rfl, rfl⟩) ?_ ?_
                                                  rotate_left
                                                  · simp only [Act.put, List.setIfInBounds_toArray, List.set_cons_zero, List.set_cons_succ, i64_w, i32_w]
                                                    rfl
                                                  refine pure_ (i := 18) (N := some 107) (v := undef) (a' := ?_) #[true, true, true, true, true, true, true, true, true, true, true, true, true, true, true, true, true, true, true, false, false, false, false, false, false, false, false, false] rfl rfl (any_of HT_.out (by kernel_rfl)) (fun _ _ _ h => h) (Or.inr ⟨by rfl, rfl⟩) ?_ ?_
                                                  rotate_left
                                                  · simp only [Act.put, List.setIfInBounds_toArray, List.set_cons_zero, List.set_cons_succ, i64_w, i32_w]
                                                    rfl
                                                  refine pure_ (i := 19) (N := some 108) (v := undef) (a' := ?_) #[true, true, true, true, true, true, true, true, true, true, true, true, true, true, true, true, true, true, true, true, false, false, false, false, false, false, false, false] rfl rfl (any_of HT_.out (by kernel_rfl)) (fun _ _ _ h => h) (Or.inr ⟨by rfl, rfl⟩) ?_ ?_
                                                  rotate_left
                                                  · simp only [Act.put, List.setIfInBounds_toArray, List.set_cons_zero, List.set_cons_succ, i64_w, i32_w]
                                                    rfl
                                                  refine pure_ (i := 20) (N := some 109) (v := ?_) (a' := ?_) #[true, true, true, true, true, true, true, true, true, true, true, true, true, true, true, true, true, true, true, true, true, false, false, false, false, false, false, false] rfl rfl (any_of HT_.out (by kernel_rfl)) (fun _ _ _ h => h) (Or.inl ⟨by rfl, ?_⟩) ?_ ?_
                                                  rotate_left
                                                  · intro w'
                                                    go_simp
                                                    with_reducible rfl
                                                  rotate_left
                                                  · simp only [Act.put, List.setIfInBounds_toArray, List.set_cons_zero, List.set_cons_succ, i64_w, i32_w]
                                                    rfl
                                                  refine pure_ (i := 21) (N := some 110) (v := ?_) (a' := ?_) #[true, true, true, true, true, true, true, true, true, true, true, true, true, true, true, true, true, true, true, true, true, true, false, false, false, false, false, false] rfl rfl (any_of HT_.out (by kernel_rfl)) (fun _ _ _ h => h) (Or.inl ⟨by rfl, ?_⟩) ?_ ?_
                                                  rotate_left
                                                  · intro w'
                                                    go_simp
                                                    with_reducible rfl
                                                  rotate_left
                                                  · simp only [Act.put, List.setIfInBounds_toArray, List.set_cons_zero, List.set_cons_succ, i64_w, i32_w]
                                                    rfl
                                                  refine pure_ (i := 22) (N := some 111) (v := undef) (a' := ?_) #[true, true, true, true, true, true, true, true, true, true, true, true, true, true, true, true, true, true, true, true, true, true, true, false, false, false, false, false] rfl rfl (any_of HT_.out (by kernel_rfl)) (fun _ _ _ h => h) (Or.inr ⟨by rfl, rfl⟩) ?_ ?_
                                                  rotate_left
                                                  · simp only [Act.put, List.setIfInBounds_toArray, List.set_cons_zero, List.set_cons_succ, i64_w, i32_w]
                                                    rfl
                                                  refine pure_ (i := 23) (N := some 112) (v := undef) (a' := ?_) #[true, true, true, true, true, true, true, true, true, true, true, true, true, true, true, true, true, true, true, true, true, true, true, true, false, false, false, false] rfl rfl (any_of HT_.out (by kernel_rfl)) (fun _ _ _ h => h) (Or.inr ⟨by rfl, rfl⟩) ?_ ?_
                                                  rotate_left
                                                  · simp only [Act.put, List.setIfInBounds_toArray, List.set_cons_zero, List.set_cons_succ, i64_w, i32_w]
                                                    rfl
                                                  refine pure_ (i := 24) (N := some 113) (v := undef) (a' := ?_) #[true, true, true, true, true, true, true, true, true, true, true, true, true, true, true, true, true, true, true, true, true, true, true, true, true, false, false, false] rfl rfl (any_of HT_.out (by kernel_rfl)) (fun _ _ _ h => h) (Or.inr ⟨by rfl, rfl⟩) ?_ ?_
                                                  rotate_left
                                                  · simp only [Act.put, List.setIfInBounds_toArray, List.set_cons_zero, List.set_cons_succ, i64_w, i32_w]
                                                    rfl
                                                  refine pure_ (i := 25) (N := some 114) (v := undef) (a' := ?_) #[true, true, true, true, true, true, true, true, true, true, true, true, true, true, true, true, true, true, true, true, true, true, true, true, true, true, false, false] rfl rfl (any_of HT_.out (by kernel_rfl)) (fun _ _ _ h => h) (Or.inr ⟨by rfl, rfl⟩) ?_ ?_
                                                  rotate_left
                                                  · simp only [Act.put, List.setIfInBounds_toArray, List.set_cons_zero, List.set_cons_succ, i64_w, i32_w]
                                                    rfl
                                                  refine pure_ (i := 26) (N := some 115) (v := undef) (a' := ?_) #[true, true, true, true, true, true, true, true, true, true, true, true, true, true, true, true, true, true, true, true, true, true, true, true, true, true, true, false] rfl rfl (any_of HT_.out (by kernel_rfl)) (fun _ _ _ h => h) (Or.inr ⟨by rfl, rfl⟩) ?_ ?_
                                                  rotate_left
                                                  · simp only [Act.put, List.setIfInBounds_toArray, List.set_cons_zero, List.set_cons_succ, i64_w, i32_w]
                                                    rfl
                                                  refine pure_ (i := 27) (N := some 116) (v := ?_) (a' := ?_) #[true, true, true, true, true, true, true, true, true, true, true, true, true, true, true, true, true, true, true, true, true, true, true, true, true, true, true, true] rfl rfl (any_of HT_.out (by kernel_rfl)) (fun _ _ _ h => h) (Or.inl ⟨by rfl, ?_⟩) ?_ ?_
                                                  rotate_left
                                                  · intro w'
                                                    go_simp
                                                    with_reducible rfl
                                                  rotate_left
                                                  · simp only [Act.put, List.setIfInBounds_toArray, List.set_cons_zero, List.set_cons_succ, i64_w, i32_w]
                                                    rfl
                                                  refine done_ (done_of HT_.out (by kernel_rfl)) ?_
                                                  try go_wp2
                                                  go_roundg k6
                                                  case measure => have := HJ5.out; have := HJ19.out; have := HJ29.out; have := HK4.out; have := HK5.out; have := HK6.out; omega
                                                  case rel => exact ⟨(wrap64 (x86_6 + 1)), (by first | rfl | (simp; done) | (simp [*]; done) | (simp [Go.Proofs.YtekjffooblcmnaaX.isEmpty_ne]; done)), H', ⟨by have := HJ5.out; have := HJ19.out; have := HJ29.out; have := HK4.out; have := HK5.out; have := HK6.out; omega⟩, ⟨by (with_reducible repeat (first | apply Kd.R_alloc | apply Kd.R_drewN | apply Kd.R_drew)); exact HO_6.out⟩, ⟨by repeat (first | (with_reducible first | exact HB.out | apply below_alloc | apply pw_below_drewN | apply below_drew1) | exact HB.out)⟩⟩
                                              · rw [if_neg c53] at H
                                                exact absurd H (by simp)
                                            · rw [if_neg c52] at H
                                              exact absurd H (by simp)
                                          · rw [if_neg c51] at H
                                            have c51b0 : decide (x86_6 < x82_5) = false := decide_eq_false c51
                                            clear c51
                                            have H' := Aside0.mk H
                                            clear H
                                            go_wp2
                                            go_roundg k6
                                            case measure => have := HJ5.out; have := HJ19.out; have := HJ29.out; have := HK4.out; have := HK5.out; have := HK6.out; omega
                                            case rel => exact ⟨(wrap64 (x82_5 + 1)), (by first | rfl | (simp; done) | (simp [*]; done) | (simp [Go.Proofs.YtekjffooblcmnaaX.isEmpty_ne]; done)), H', ⟨by have := HJ5.out; have := HJ19.out; have := HJ29.out; have := HK4.out; have := HK5.out; have := HK6.out; omega⟩, ⟨by (with_reducible repeat (first | apply Kd.R_alloc | apply Kd.R_drewN | apply Kd.R_drew)); exact HO_6.out⟩, ⟨by repeat (first | (with_reducible first | exact HB.out | apply below_alloc | apply pw_below_drewN | apply below_drew1) | exact HB.out)⟩⟩
                                    · rw [if_neg c50] at H
                                      have c50b0 : decide (x82_5 < (l0.length : Int)) = false := decide_eq_false c50
                                      clear c50
                                      obtain rfl := Option.some.inj H
                                      go_wp2
                                      go_ret
                                      exact ⟨by first | rfl | (simp [errW_none, errW_some] <;> rfl) | (simp [*, errW_none, errW_some] <;> rfl), by repeat (first | (with_reducible first | exact HB.out | apply below_alloc | apply pw_below_drewN | apply below_drew1) | exact HB.out)⟩
                  · rw [if_neg c28] at H
                    exact absurd H (by simp)
                · rw [if_neg c27] at H
                  exact absurd H (by simp)
  · replace c4 := Bool.eq_false_iff.mpr c4
    subst c4
    have H1 : (some true) = some r := by rw [if_neg (show ¬ (false = true) by decide)] at H; exact H
    clear H
    have H := H1
    clear H1
    obtain rfl := Option.some.inj H
    go_enter Try.func3, Try.ntmps3
    go_wp2_with (first | ((with_reducible refine gate_callee (f := 5) rfl ?_); refine goesL_ (some 12) rfl rfl Try.func5 (by kernel_rfl) rfl #[.slice A0 l0.length c0] rfl (by (try simp only [List.map_toArray, List.map_cons, List.map_nil]); first | done | rfl | (simp only [List.length_drop, List.length_take]; rfl)) ?_; (with_reducible refine (laws_zzFits1.calls k _ _ l0 false _ ?side1 ?side2 A3.out).mono ?_); (case side1 => repeat (first | exact HR0.out | (with_reducible refine Kd.C_alloc ?_ _) | (with_reducible refine Kd.C_drewN ?_ _) | (with_reducible refine Kd.C_drew ?_))); (case side2 => exact HC0.out); rintro e w' ⟨rfl, ⟨nd, rfl⟩⟩; refine ⟨_, rfl, ?_⟩))
    go_ret
    exact ⟨by first | rfl | (simp [errW_none, errW_some] <;> rfl) | (simp [*, errW_none, errW_some] <;> rfl), by repeat (first | (with_reducible first | exact HB.out | apply below_alloc | apply pw_below_drewN | apply below_drew1) | exact HB.out)⟩
end Go.Proofs.Ytekjffooblcmnaa.Q
end
