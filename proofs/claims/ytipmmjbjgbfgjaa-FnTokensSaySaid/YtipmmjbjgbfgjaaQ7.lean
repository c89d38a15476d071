import Derived.Test.YtipmmjbjgbfgjaaQ0
import Derived.Test.YtipmmjbjgbfgjaaQ3
import Derived.Test.YtipmmjbjgbfgjaaQ5
-- Written by a program of this session out of the translation, with the kit's printer. Not trusted: Lean checks it.
namespace Go.Proofs.Ytipmmjbjgbfgjaa.Q
open Go.RowKit Go.Proofs.YtipmmjbjgbfgjaaW.PrintWords Go.Proofs.YtipmmjbjgbfgjaaW.PrintLast Go.Proofs.YtipmmjbjgbfgjaaW.PrintMore
attribute [local go_sem] max2_int min2_int max_two min_two max_three min_three max_four min_four   -- for this text's walks alone
set_option linter.unusedVariables false
set_option linter.unusedSimpArgs false

/-! ### spec_Tokens: function 37 -/
def spec_Tokens.l0 : Nat → ByteArray → List (S57) → Int → Option ((List (S57)) × Int)
  | 0, _, _, _ => none
  | k + 1, x0, x4, x5 => if x5 < (x0.size : Int) then (if 0 ≤ x5 then ((spec_signOf.f (bt x0 x5)).bind fun t109 => (if (bt x0 x5) = 32 then (spec_Tokens.l0 k x0 x4 (wrap64 (x5 + 1))) else (if x5 ≤ (x0.size : Int) then ((spec_word.f k (x0.extract (x5 : Int).toNat x0.size)).bind fun t111 => (if t111 > 0 then ((spec_word.f k (x0.extract (x5 : Int).toNat x0.size)).bind fun t112 => (if x5 ≤ (wrap64 (x5 + t112)) then (if (wrap64 (x5 + t112)) ≤ (x0.size : Int) then (if (x0.extract (x5 : Int).toNat ((wrap64 (x5 + t112)) : Int).toNat).toList = ([101, 108, 115, 101] : List UInt8) then (if 0 ≤ (wrap64 (x5 + t112)) then ((spec_number.f k (x0.extract ((wrap64 (x5 + t112)) : Int).toNat x0.size)).bind fun t113 => (if t113 > 0 then (some (([] : List (S57)), 2)) else (if x4.length < 3518437208883 then (spec_Tokens.l0 k x0 (x4 ++ [(⟨9, x0.extract (x5 : Int).toNat ((wrap64 (x5 + t112)) : Int).toNat, x5, wrap64 ((wrap64 (x5 + t112)) - 1)⟩ : S57)]) (wrap64 (x5 + t112))) else (none)))) else (none)) else (if 0 ≤ (wrap64 (x5 + t112)) then ((spec_number.f k (x0.extract ((wrap64 (x5 + t112)) : Int).toNat x0.size)).bind fun t117 => (if t117 > 0 then (some (([] : List (S57)), 2)) else (if x4.length < 3518437208883 then (spec_Tokens.l0 k x0 (x4 ++ [(⟨8, x0.extract (x5 : Int).toNat ((wrap64 (x5 + t112)) : Int).toNat, x5, wrap64 ((wrap64 (x5 + t112)) - 1)⟩ : S57)]) (wrap64 (x5 + t112))) else (none)))) else (none))) else (none)) else (none))) else ((spec_number.f k (x0.extract (x5 : Int).toNat x0.size)).bind fun t121 => (if t121 > 0 then ((spec_number.f k (x0.extract (x5 : Int).toNat x0.size)).bind fun t122 => (if 0 ≤ (wrap64 (x5 + t122)) then (if (wrap64 (x5 + t122)) ≤ (x0.size : Int) then ((spec_word.f k (x0.extract ((wrap64 (x5 + t122)) : Int).toNat x0.size)).bind fun t123 => (if t123 > 0 then (some (([] : List (S57)), 2)) else (if x5 ≤ (wrap64 (x5 + t122)) then (if x4.length < 3518437208883 then (spec_Tokens.l0 k x0 (x4 ++ [(⟨10, x0.extract (x5 : Int).toNat ((wrap64 (x5 + t122)) : Int).toNat, x5, wrap64 ((wrap64 (x5 + t122)) - 1)⟩ : S57)]) (wrap64 (x5 + t122))) else (none)) else (none)))) else (none)) else (none))) else (if t109 = 0 then (some (([] : List (S57)), 2)) else (if x5 ≤ (wrap64 (x5 + 1)) then (if (wrap64 (x5 + 1)) ≤ (x0.size : Int) then (if x4.length < 3518437208883 then (spec_Tokens.l0 k x0 (x4 ++ [(⟨t109, x0.extract (x5 : Int).toNat ((wrap64 (x5 + 1)) : Int).toNat, x5, wrap64 ((wrap64 (x5 + 1)) - 1)⟩ : S57)]) (wrap64 (x5 + 1))) else (none)) else (none)) else (none))))))) else (none)))) else (none)) else (some (x4, 1))
def spec_Tokens.f (k : Nat) (a0 : ByteArray) : Option ((List (S57)) × Int) := spec_Tokens.l0 k a0 ([] : List (S57)) 0
theorem spec_Tokens.mono_l : ∀ k, (∀ y0 y1 y2, LeO (spec_Tokens.l0 k y0 y1 y2) (spec_Tokens.l0 (k + 1) y0 y1 y2))
  | 0 => fun _ _ _ r h => by simp [spec_Tokens.l0] at h
  | k + 1 => by
    have ih0 := spec_Tokens.mono_l k
    · intro y0 y1 y2
      unfold spec_Tokens.l0
      repeat' first
      | (with_reducible exact ih0 _ _ _)
      | (with_reducible exact spec_number.mono _ _)
      | (with_reducible exact spec_word.mono _ _)
      | (with_reducible exact LeO.refl _)
      | (with_reducible exact LeO.none _)
      | (with_reducible refine LeO.ite ?_ ?_)
      | (with_reducible refine LeO.bind ?_ (fun _ => ?_))
      | exact ih0 _ _ _
      | exact spec_number.mono _ _
      | exact spec_word.mono _ _
      | exact LeO.none _
      | refine LeO.ite ?_ ?_
      | refine LeO.bind ?_ (fun _ => ?_)
theorem spec_Tokens.mono : ∀ a0 k, LeO (spec_Tokens.f k a0) (spec_Tokens.f (k + 1) a0) := by
  intro a0 k
  have ih0 := spec_Tokens.mono_l k
  unfold spec_Tokens.f
  repeat' first
      | (with_reducible exact ih0 _ _ _)
      | (with_reducible exact spec_number.mono _ _)
      | (with_reducible exact spec_word.mono _ _)
      | (with_reducible exact LeO.refl _)
      | (with_reducible exact LeO.none _)
      | (with_reducible refine LeO.ite ?_ ?_)
      | (with_reducible refine LeO.bind ?_ (fun _ => ?_))
      | exact ih0 _ _ _
      | exact spec_number.mono _ _
      | exact spec_word.mono _ _
      | exact LeO.none _
      | refine LeO.ite ?_ ?_
      | refine LeO.bind ?_ (fun _ => ?_)
set_option maxHeartbeats 8000000 in
set_option maxRecDepth 100000 in
theorem spec_Tokens.calls (k : Nat) (a0 : ByteArray) (r1 : List (S57)) (r2 : Int) (w : World) (h : spec_Tokens.f k a0 = some (r1, r2)) :
    Calls Try.prog 37 #[.string a0] w fun e w' => ∃ v0_ : Value, e = .returned (.tuple #[v0_, .int .i64 r2]) ∧ Kd.R k57 57 w' w.heap.size (fun _ => True) v0_ r1 ∧ Below w.heap.size w w' := by
  have hu57 := Try.underlying57
  have HB := Aside0.mk (Below.refl w.heap.size w)
  have H : (spec_Tokens.l0 k a0 ([] : List (S57)) 0) = some (r1, r2) := h
  clear h
  have H' := Aside0.mk H
  clear H
  go_enter Try.func37, Try.ntmps37
  go_wp2
  go_loopg [4, 5] k (fun kq v4 v5 w' => ∃ (x4_1 : List (S57)) (x5_1 : Int), v5 = .int .i64 x5_1 ∧ Aside0 (spec_Tokens.l0 kq a0 x4_1 x5_1 = some (r1, r2)) ∧ Aside0 (kq ≤ k) ∧ Aside0 (Kd.R k57 57 w' w.heap.size (fun _ => True) v4 x4_1) ∧ Aside0 (Below w.heap.size w w'))
  case atStart => exact ⟨(([] : List (S57))), (0), (by first | rfl | (simp; done) | (simp [*]; done) | (simp [Go.Proofs.YtipmmjbjgbfgjaaX.isEmpty_ne]; done)), H', ⟨Nat.le_refl _⟩, ⟨by first | exact Kd.R_nil _ _ _ _ _ | exact Kd.N_nil _ _ _ _ _ | exact Kd.V_nil _ _ _ _ _ | exact Kd.Q_nil _ _ _ _ _ | exact Kd.S_nil _ _ _ _ _⟩, ⟨by repeat (first | (with_reducible first | exact HB.out | apply below_alloc | apply pw_below_drewN | apply below_drew1) | exact HB.out)⟩⟩
  case round =>
    clear H'
    obtain ⟨x4_1, x5_1, rfl, HA, HK1, HO_4, HB⟩ := hrel
    cases gk with
    | zero => exact absurd HA.out (by simp [spec_Tokens.l0])
    | succ k1 =>
      have H := HA.out
      clear HA
      simp only [spec_Tokens.l0] at H
      by_cases c2 : x5_1 < (a0.size : Int)
      · rw [if_pos c2] at H
        have c2b0 : decide (x5_1 < (a0.size : Int)) = true := decide_eq_true c2
        clear c2
        by_cases c3 : 0 ≤ x5_1
        · rw [if_pos c3] at H
          have c3b0 : decide (0 ≤ x5_1) = true := decide_eq_true c3
          clear c3
          replace H := Option.bind_eq_some_iff.mp H
          obtain ⟨t109, A50, H⟩ := H
          replace H : (if (bt a0 x5_1) = 32 then (spec_Tokens.l0 k1 a0 x4_1 (wrap64 (x5_1 + 1))) else (if x5_1 ≤ (a0.size : Int) then ((spec_word.f k1 (a0.extract (x5_1 : Int).toNat a0.size)).bind fun t111 => (if t111 > 0 then ((spec_word.f k1 (a0.extract (x5_1 : Int).toNat a0.size)).bind fun t112 => (if x5_1 ≤ (wrap64 (x5_1 + t112)) then (if (wrap64 (x5_1 + t112)) ≤ (a0.size : Int) then (if (a0.extract (x5_1 : Int).toNat ((wrap64 (x5_1 + t112)) : Int).toNat).toList = ([101, 108, 115, 101] : List UInt8) then (if 0 ≤ (wrap64 (x5_1 + t112)) then ((spec_number.f k1 (a0.extract ((wrap64 (x5_1 + t112)) : Int).toNat a0.size)).bind fun t113 => (if t113 > 0 then (some (([] : List (S57)), 2)) else (if x4_1.length < 3518437208883 then (spec_Tokens.l0 k1 a0 (x4_1 ++ [(⟨9, a0.extract (x5_1 : Int).toNat ((wrap64 (x5_1 + t112)) : Int).toNat, x5_1, wrap64 ((wrap64 (x5_1 + t112)) - 1)⟩ : S57)]) (wrap64 (x5_1 + t112))) else (none)))) else (none)) else (if 0 ≤ (wrap64 (x5_1 + t112)) then ((spec_number.f k1 (a0.extract ((wrap64 (x5_1 + t112)) : Int).toNat a0.size)).bind fun t117 => (if t117 > 0 then (some (([] : List (S57)), 2)) else (if x4_1.length < 3518437208883 then (spec_Tokens.l0 k1 a0 (x4_1 ++ [(⟨8, a0.extract (x5_1 : Int).toNat ((wrap64 (x5_1 + t112)) : Int).toNat, x5_1, wrap64 ((wrap64 (x5_1 + t112)) - 1)⟩ : S57)]) (wrap64 (x5_1 + t112))) else (none)))) else (none))) else (none)) else (none))) else ((spec_number.f k1 (a0.extract (x5_1 : Int).toNat a0.size)).bind fun t121 => (if t121 > 0 then ((spec_number.f k1 (a0.extract (x5_1 : Int).toNat a0.size)).bind fun t122 => (if 0 ≤ (wrap64 (x5_1 + t122)) then (if (wrap64 (x5_1 + t122)) ≤ (a0.size : Int) then ((spec_word.f k1 (a0.extract ((wrap64 (x5_1 + t122)) : Int).toNat a0.size)).bind fun t123 => (if t123 > 0 then (some (([] : List (S57)), 2)) else (if x5_1 ≤ (wrap64 (x5_1 + t122)) then (if x4_1.length < 3518437208883 then (spec_Tokens.l0 k1 a0 (x4_1 ++ [(⟨10, a0.extract (x5_1 : Int).toNat ((wrap64 (x5_1 + t122)) : Int).toNat, x5_1, wrap64 ((wrap64 (x5_1 + t122)) - 1)⟩ : S57)]) (wrap64 (x5_1 + t122))) else (none)) else (none)))) else (none)) else (none))) else (if t109 = 0 then (some (([] : List (S57)), 2)) else (if x5_1 ≤ (wrap64 (x5_1 + 1)) then (if (wrap64 (x5_1 + 1)) ≤ (a0.size : Int) then (if x4_1.length < 3518437208883 then (spec_Tokens.l0 k1 a0 (x4_1 ++ [(⟨t109, a0.extract (x5_1 : Int).toNat ((wrap64 (x5_1 + 1)) : Int).toNat, x5_1, wrap64 ((wrap64 (x5_1 + 1)) - 1)⟩ : S57)]) (wrap64 (x5_1 + 1))) else (none)) else (none)) else (none))))))) else (none))) = some (r1, r2) := H
          have A5 := Aside0.mk A50
          clear A50
          by_cases c7 : (bt a0 x5_1) = 32
          · rw [if_pos c7] at H
            have c7b0 : ((bt a0 x5_1) == 32) = true := beq_iff_eq.mpr c7
            have c7b1 : ((bt a0 x5_1) != 32) = false := bne_eq_false_iff_eq.mpr c7
            clear c7
            have H' := Aside0.mk H
            clear H
            have p4 : 0 ≤ (x5_1 : Int) := of_decide_eq_true (by first | (with_reducible assumption) | assumption)
            have q4 : x5_1 < (a0.size : Int) := of_decide_eq_true (by first | (with_reducible assumption) | assumption)
            have hx4 := bt_at a0 x5_1
            replace p4 := eq_true p4
            replace q4 := eq_true q4
            go_wp2_with (first | ((with_reducible refine gate_callee (f := 76) rfl ?_); refine goesL_ (some 15) rfl rfl Try.func76 (by kernel_rfl) rfl #[.int .u8 (bt a0 x5_1)] rfl (by (try simp only [List.map_toArray, List.map_cons, List.map_nil]); first | done | rfl | (simp only [List.length_drop, List.length_take]; rfl)) ?_; (with_reducible refine (spec_signOf.calls (bt a0 x5_1) t109 _ A5.out).mono ?_); rintro e w' ⟨rfl, ⟨nd, rfl⟩⟩; refine ⟨_, rfl, ?_⟩; (try (rw [drewN_self wr]; generalize hq_ : World.drewN wr _ = wr; have n0_ : Aside0 (Kd.R k57 57 wr w.heap.size (fun _ => True) u4 x4_1) := ⟨by rw [← hq_]; exact (by (with_reducible repeat (first | apply Kd.R_alloc | apply Kd.R_drewN | apply Kd.R_drew)); exact HO_4.out)⟩; have n1_ : Aside0 (Below w.heap.size w wr) := ⟨by rw [← hq_]; exact (by repeat (first | (with_reducible first | exact HB.out | apply below_alloc | apply pw_below_drewN | apply below_drew1) | exact HB.out))⟩; clear HO_4 HB hq_; have HO_4 := n0_; have HB := n1_; clear n0_ n1_))) | ((with_reducible refine gate_dst (N := 7) rfl ?_); refine box_event ?hg (N := 7) ?hd (cs := #[.int .i64 0, .string (⟨#[]⟩ : ByteArray), .int .i64 0, .int .i64 0]) (t := 57) ?hr ?_; (case hd => rfl); (case hg => rfl); (case hr => first | (go_simp; done) | (go_simp; rfl)); intro gb110 hg w8 hbox hb; have n0_ := Aside0.mk (Kd.R_below (Kd.R_elderB (by (with_reducible repeat (first | apply Kd.R_alloc | apply Kd.R_drewN | apply Kd.R_drew)); exact HO_4.out) gb110 (Nat.le_of_eq hg.symm)) hb); have n1_ := Aside0.mk (below_step (by repeat (first | (with_reducible first | exact HB.out | apply below_alloc | apply pw_below_drewN | apply below_drew1) | exact HB.out)) hb); have n2_ := Aside0.mk (hbox); have n3_ := Aside0.mk ((by rw [hg]; exact (below_size (by repeat (first | (with_reducible first | exact HB.out | apply below_alloc | apply pw_below_drewN | apply below_drew1) | exact HB.out))) : w.heap.size ≤ gb110)); have n4_ := Aside0.mk ((by rw [hg]; exact (below_size (by repeat (first | (with_reducible first | exact HB.out | apply below_alloc | apply pw_below_drewN | apply below_drew1) | exact HB.out))) : w.heap.size ≤ gb110)); clear HO_4; clear HB; have HO_4 := n0_; have HB := n1_; have BK110 := n2_; have GW110 := n3_; have GE110 := n4_; clear n0_ n1_ n2_ n3_ n4_; clear hb hbox hg; have hcz9_0 : w8.cell? ⟨gb110, 0, none⟩ = some (.int .i64 0) := (blk_cell BK110.out 0).trans rfl; have hcz9_1 : w8.cell? ⟨gb110, 1, none⟩ = some (.string (⟨#[]⟩ : ByteArray)) := (blk_cell BK110.out 1).trans rfl; have hcz9_2 : w8.cell? ⟨gb110, 2, none⟩ = some (.int .i64 0) := (blk_cell BK110.out 2).trans rfl; have hcz9_3 : w8.cell? ⟨gb110, 3, none⟩ = some (.int .i64 0) := (blk_cell BK110.out 3).trans rfl; have hfz9_0 := blk_frozen BK110.out 0; have hfz9_1 := blk_frozen BK110.out 1; have hfz9_2 := blk_frozen BK110.out 2; have hfz9_3 := blk_frozen BK110.out 3; have p6 : 0 ≤ (x5_1 : Int) := of_decide_eq_true (by first | (with_reducible assumption) | assumption); have q6 : x5_1 < (a0.size : Int) := of_decide_eq_true (by first | (with_reducible assumption) | assumption); have hx6 := bt_at a0 x5_1; replace p6 := eq_true p6; replace q6 := eq_true q6))
            go_roundg k1
            case measure => have := HK1.out; omega
            case rel => exact ⟨(x4_1), (wrap64 (x5_1 + 1)), (by first | rfl | (simp; done) | (simp [*]; done) | (simp [Go.Proofs.YtipmmjbjgbfgjaaX.isEmpty_ne]; done)), H', ⟨by have := HK1.out; omega⟩, ⟨by (with_reducible repeat (first | apply Kd.R_alloc | apply Kd.R_drewN | apply Kd.R_drew)); exact Kd.R_mono (Kd.R_far (p := ⟨gb110, 3, none⟩) (Kd.R_far (p := ⟨gb110, 2, none⟩) (Kd.R_far (p := ⟨gb110, 1, none⟩) (Kd.R_far (p := ⟨gb110, 0, none⟩) (Kd.R_mono HO_4.out (fun k_ hk => (⟨hk, hk.2⟩ : _ ∧ k_ ≠ gb110))) (fun _ hk => hk.2) (.int .i64 t109)) (fun _ hk => hk.2) (.string (⟨#[]⟩ : ByteArray))) (fun _ hk => hk.2) (.int .i64 x5_1)) (fun _ hk => hk.2) (.int .i64 0)) (fun _ hk => trivial)⟩, ⟨by repeat (first | (with_reducible first | exact HB.out | apply below_alloc | apply pw_below_drewN | apply below_drew1 | refine below_set ?_ GE110.out) | exact HB.out)⟩⟩
          · rw [if_neg c7] at H
            have c7b0 : ((bt a0 x5_1) == 32) = false := beq_eq_false_iff_ne.mpr c7
            have c7b1 : ((bt a0 x5_1) != 32) = true := bne_iff_ne.mpr c7
            have c10b0 := eq_true (of_decide_eq_true (by first | (with_reducible assumption) | assumption) : 0 ≤ x5_1)
            by_cases c11 : x5_1 ≤ (a0.size : Int)
            · rw [if_pos c11] at H
              have c11b0 := eq_true c11
              have c11b1 : decide (x5_1 ≤ (a0.size : Int)) = true := decide_eq_true c11
              clear c11
              replace H := Option.bind_eq_some_iff.mp H
              obtain ⟨t111, A120, H⟩ := H
              replace H : (if t111 > 0 then ((spec_word.f k1 (a0.extract (x5_1 : Int).toNat a0.size)).bind fun t112 => (if x5_1 ≤ (wrap64 (x5_1 + t112)) then (if (wrap64 (x5_1 + t112)) ≤ (a0.size : Int) then (if (a0.extract (x5_1 : Int).toNat ((wrap64 (x5_1 + t112)) : Int).toNat).toList = ([101, 108, 115, 101] : List UInt8) then (if 0 ≤ (wrap64 (x5_1 + t112)) then ((spec_number.f k1 (a0.extract ((wrap64 (x5_1 + t112)) : Int).toNat a0.size)).bind fun t113 => (if t113 > 0 then (some (([] : List (S57)), 2)) else (if x4_1.length < 3518437208883 then (spec_Tokens.l0 k1 a0 (x4_1 ++ [(⟨9, a0.extract (x5_1 : Int).toNat ((wrap64 (x5_1 + t112)) : Int).toNat, x5_1, wrap64 ((wrap64 (x5_1 + t112)) - 1)⟩ : S57)]) (wrap64 (x5_1 + t112))) else (none)))) else (none)) else (if 0 ≤ (wrap64 (x5_1 + t112)) then ((spec_number.f k1 (a0.extract ((wrap64 (x5_1 + t112)) : Int).toNat a0.size)).bind fun t117 => (if t117 > 0 then (some (([] : List (S57)), 2)) else (if x4_1.length < 3518437208883 then (spec_Tokens.l0 k1 a0 (x4_1 ++ [(⟨8, a0.extract (x5_1 : Int).toNat ((wrap64 (x5_1 + t112)) : Int).toNat, x5_1, wrap64 ((wrap64 (x5_1 + t112)) - 1)⟩ : S57)]) (wrap64 (x5_1 + t112))) else (none)))) else (none))) else (none)) else (none))) else ((spec_number.f k1 (a0.extract (x5_1 : Int).toNat a0.size)).bind fun t121 => (if t121 > 0 then ((spec_number.f k1 (a0.extract (x5_1 : Int).toNat a0.size)).bind fun t122 => (if 0 ≤ (wrap64 (x5_1 + t122)) then (if (wrap64 (x5_1 + t122)) ≤ (a0.size : Int) then ((spec_word.f k1 (a0.extract ((wrap64 (x5_1 + t122)) : Int).toNat a0.size)).bind fun t123 => (if t123 > 0 then (some (([] : List (S57)), 2)) else (if x5_1 ≤ (wrap64 (x5_1 + t122)) then (if x4_1.length < 3518437208883 then (spec_Tokens.l0 k1 a0 (x4_1 ++ [(⟨10, a0.extract (x5_1 : Int).toNat ((wrap64 (x5_1 + t122)) : Int).toNat, x5_1, wrap64 ((wrap64 (x5_1 + t122)) - 1)⟩ : S57)]) (wrap64 (x5_1 + t122))) else (none)) else (none)))) else (none)) else (none))) else (if t109 = 0 then (some (([] : List (S57)), 2)) else (if x5_1 ≤ (wrap64 (x5_1 + 1)) then (if (wrap64 (x5_1 + 1)) ≤ (a0.size : Int) then (if x4_1.length < 3518437208883 then (spec_Tokens.l0 k1 a0 (x4_1 ++ [(⟨t109, a0.extract (x5_1 : Int).toNat ((wrap64 (x5_1 + 1)) : Int).toNat, x5_1, wrap64 ((wrap64 (x5_1 + 1)) - 1)⟩ : S57)]) (wrap64 (x5_1 + 1))) else (none)) else (none)) else (none)))))) = some (r1, r2) := H
              have A12 := Aside0.mk A120
              clear A120
              by_cases c13 : t111 > 0
              · rw [if_pos c13] at H
                have c13b0 : decide (0 < t111) = true := decide_eq_true c13
                clear c13
                have c14b0 := eq_true (of_decide_eq_true (by first | (with_reducible assumption) | assumption) : 0 ≤ x5_1)
                have c15b0 := eq_true (of_decide_eq_true (by first | (with_reducible assumption) | assumption) : x5_1 ≤ (a0.size : Int))
                replace H := Option.bind_eq_some_iff.mp H
                obtain ⟨t112, A160, H⟩ := H
                replace H : (if x5_1 ≤ (wrap64 (x5_1 + t112)) then (if (wrap64 (x5_1 + t112)) ≤ (a0.size : Int) then (if (a0.extract (x5_1 : Int).toNat ((wrap64 (x5_1 + t112)) : Int).toNat).toList = ([101, 108, 115, 101] : List UInt8) then (if 0 ≤ (wrap64 (x5_1 + t112)) then ((spec_number.f k1 (a0.extract ((wrap64 (x5_1 + t112)) : Int).toNat a0.size)).bind fun t113 => (if t113 > 0 then (some (([] : List (S57)), 2)) else (if x4_1.length < 3518437208883 then (spec_Tokens.l0 k1 a0 (x4_1 ++ [(⟨9, a0.extract (x5_1 : Int).toNat ((wrap64 (x5_1 + t112)) : Int).toNat, x5_1, wrap64 ((wrap64 (x5_1 + t112)) - 1)⟩ : S57)]) (wrap64 (x5_1 + t112))) else (none)))) else (none)) else (if 0 ≤ (wrap64 (x5_1 + t112)) then ((spec_number.f k1 (a0.extract ((wrap64 (x5_1 + t112)) : Int).toNat a0.size)).bind fun t117 => (if t117 > 0 then (some (([] : List (S57)), 2)) else (if x4_1.length < 3518437208883 then (spec_Tokens.l0 k1 a0 (x4_1 ++ [(⟨8, a0.extract (x5_1 : Int).toNat ((wrap64 (x5_1 + t112)) : Int).toNat, x5_1, wrap64 ((wrap64 (x5_1 + t112)) - 1)⟩ : S57)]) (wrap64 (x5_1 + t112))) else (none)))) else (none))) else (none)) else (none)) = some (r1, r2) := H
                have A16 := Aside0.mk A160
                clear A160
                have c17b0 := eq_true (of_decide_eq_true (by first | (with_reducible assumption) | assumption) : 0 ≤ x5_1)
                by_cases c18 : x5_1 ≤ (wrap64 (x5_1 + t112))
                · rw [if_pos c18] at H
                  have c18b0 := eq_true c18
                  have c18b1 : decide (x5_1 ≤ (wrap64 (x5_1 + t112))) = true := decide_eq_true c18
                  by_cases c19 : (wrap64 (x5_1 + t112)) ≤ (a0.size : Int)
                  · rw [if_pos c19] at H
                    have c19b0 := eq_true c19
                    have c19b1 : decide ((wrap64 (x5_1 + t112)) ≤ (a0.size : Int)) = true := decide_eq_true c19
                    by_cases c20 : (a0.extract (x5_1 : Int).toNat ((wrap64 (x5_1 + t112)) : Int).toNat).toList = ([101, 108, 115, 101] : List UInt8)
                    · rw [if_pos c20] at H
                      have c20b0 : ((a0.extract (x5_1 : Int).toNat ((wrap64 (x5_1 + t112)) : Int).toNat).toList == ([101, 108, 115, 101] : List UInt8)) = true := beq_iff_eq.mpr c20
                      have c20b1 : ((a0.extract (x5_1 : Int).toNat ((wrap64 (x5_1 + t112)) : Int).toNat).toList != ([101, 108, 115, 101] : List UInt8)) = false := bne_eq_false_iff_eq.mpr c20
                      clear c20
                      obtain ⟨ji21, hji21⟩ : ∃ j_ : Int, (wrap64 (x5_1 + t112)) = j_ := ⟨_, rfl⟩
                      replace H : (if 0 ≤ (ji21) then ((spec_number.f k1 (a0.extract ((ji21) : Int).toNat a0.size)).bind fun t113 => (if t113 > 0 then (some (([] : List (S57)), 2)) else (if x4_1.length < 3518437208883 then (spec_Tokens.l0 k1 a0 (x4_1 ++ [(⟨9, a0.extract (x5_1 : Int).toNat ((ji21) : Int).toNat, x5_1, wrap64 ((ji21) - 1)⟩ : S57)]) ji21) else (none)))) else (none)) = some (r1, r2) := by first | (rw [hji21] at H; exact H) | (simp only [hji21] at H ⊢; exact H)
                      (try rw [hji21] at c18b0)
                      (try rw [hji21] at c18b1)
                      (try rw [hji21] at c18)
                      (try rw [hji21] at c19b0)
                      (try rw [hji21] at c19b1)
                      (try rw [hji21] at c19)
                      (try rw [hji21] at c20b0)
                      (try rw [hji21] at c20b1)
                      (try rw [hji21] at A5)
                      (try rw [hji21] at A12)
                      (try rw [hji21] at A16)
                      have hji21w : (IntKind.i64.wrap (x5_1 + t112)) = ji21 := (i64_w _).trans hji21
                      by_cases c22 : 0 ≤ (ji21)
                      · rw [if_pos c22] at H
                        have c22b0 := eq_true c22
                        have c22b1 : decide (0 ≤ (ji21)) = true := decide_eq_true c22
                        clear c22
                        have c23b0 := eq_true (of_decide_eq_true (by first | (with_reducible assumption) | assumption) : (ji21) ≤ (a0.size : Int))
                        replace H := Option.bind_eq_some_iff.mp H
                        obtain ⟨t113, A240, H⟩ := H
                        replace H : (if t113 > 0 then (some (([] : List (S57)), 2)) else (if x4_1.length < 3518437208883 then (spec_Tokens.l0 k1 a0 (x4_1 ++ [(⟨9, a0.extract (x5_1 : Int).toNat ((ji21) : Int).toNat, x5_1, wrap64 ((ji21) - 1)⟩ : S57)]) ji21) else (none))) = some (r1, r2) := H
                        have A24 := Aside0.mk A240
                        clear A240
                        by_cases c25 : t113 > 0
                        · rw [if_pos c25] at H
                          have c25b0 : decide (0 < t113) = true := decide_eq_true c25
                          clear c25
                          simp only [Option.some.injEq, Prod.mk.injEq] at H
                          obtain ⟨rfl, rfl⟩ := H
                          have p4 : 0 ≤ (x5_1 : Int) := of_decide_eq_true (by first | (with_reducible assumption) | assumption)
                          have q4 : x5_1 < (a0.size : Int) := of_decide_eq_true (by first | (with_reducible assumption) | assumption)
                          have hx4 := bt_at a0 x5_1
                          replace p4 := eq_true p4
                          replace q4 := eq_true q4
                          go_wp2_with (first | ((with_reducible refine gate_callee (f := 76) rfl ?_); refine goesL_ (some 15) rfl rfl Try.func76 (by kernel_rfl) rfl #[.int .u8 (bt a0 x5_1)] rfl (by (try simp only [List.map_toArray, List.map_cons, List.map_nil]); first | done | rfl | (simp only [List.length_drop, List.length_take]; rfl)) ?_; (with_reducible refine (spec_signOf.calls (bt a0 x5_1) t109 _ A5.out).mono ?_); rintro e w' ⟨rfl, ⟨nd, rfl⟩⟩; refine ⟨_, rfl, ?_⟩; (try (rw [drewN_self wr]; generalize hq_ : World.drewN wr _ = wr; have n0_ : Aside0 (Kd.R k57 57 wr w.heap.size (fun _ => True) u4 x4_1) := ⟨by rw [← hq_]; exact (by (with_reducible repeat (first | apply Kd.R_alloc | apply Kd.R_drewN | apply Kd.R_drew)); exact HO_4.out)⟩; have n1_ : Aside0 (Below w.heap.size w wr) := ⟨by rw [← hq_]; exact (by repeat (first | (with_reducible first | exact HB.out | apply below_alloc | apply pw_below_drewN | apply below_drew1) | exact HB.out))⟩; clear HO_4 HB hq_; have HO_4 := n0_; have HB := n1_; clear n0_ n1_))) | ((with_reducible refine gate_dst (N := 7) rfl ?_); refine box_event ?hg (N := 7) ?hd (cs := #[.int .i64 0, .string (⟨#[]⟩ : ByteArray), .int .i64 0, .int .i64 0]) (t := 57) ?hr ?_; (case hd => rfl); (case hg => rfl); (case hr => first | (go_simp; done) | (go_simp; rfl)); intro gb110 hg w26 hbox hb; have n0_ := Aside0.mk (Kd.R_below (Kd.R_elderB (by (with_reducible repeat (first | apply Kd.R_alloc | apply Kd.R_drewN | apply Kd.R_drew)); exact HO_4.out) gb110 (Nat.le_of_eq hg.symm)) hb); have n1_ := Aside0.mk (below_step (by repeat (first | (with_reducible first | exact HB.out | apply below_alloc | apply pw_below_drewN | apply below_drew1) | exact HB.out)) hb); have n2_ := Aside0.mk (hbox); have n3_ := Aside0.mk ((by rw [hg]; exact (below_size (by repeat (first | (with_reducible first | exact HB.out | apply below_alloc | apply pw_below_drewN | apply below_drew1) | exact HB.out))) : w.heap.size ≤ gb110)); have n4_ := Aside0.mk ((by rw [hg]; exact (below_size (by repeat (first | (with_reducible first | exact HB.out | apply below_alloc | apply pw_below_drewN | apply below_drew1) | exact HB.out))) : w.heap.size ≤ gb110)); clear HO_4; clear HB; have HO_4 := n0_; have HB := n1_; have BK110 := n2_; have GW110 := n3_; have GE110 := n4_; clear n0_ n1_ n2_ n3_ n4_; clear hb hbox hg; have hcz27_0 : w26.cell? ⟨gb110, 0, none⟩ = some (.int .i64 0) := (blk_cell BK110.out 0).trans rfl; have hcz27_1 : w26.cell? ⟨gb110, 1, none⟩ = some (.string (⟨#[]⟩ : ByteArray)) := (blk_cell BK110.out 1).trans rfl; have hcz27_2 : w26.cell? ⟨gb110, 2, none⟩ = some (.int .i64 0) := (blk_cell BK110.out 2).trans rfl; have hcz27_3 : w26.cell? ⟨gb110, 3, none⟩ = some (.int .i64 0) := (blk_cell BK110.out 3).trans rfl; have hfz27_0 := blk_frozen BK110.out 0; have hfz27_1 := blk_frozen BK110.out 1; have hfz27_2 := blk_frozen BK110.out 2; have hfz27_3 := blk_frozen BK110.out 3; have p6 : 0 ≤ (x5_1 : Int) := of_decide_eq_true (by first | (with_reducible assumption) | assumption); have q6 : x5_1 < (a0.size : Int) := of_decide_eq_true (by first | (with_reducible assumption) | assumption); have hx6 := bt_at a0 x5_1; replace p6 := eq_true p6; replace q6 := eq_true q6) | ((with_reducible refine gate_callee (f := 77) rfl ?_); refine goesL_ (some 29) rfl rfl Try.func77 (by kernel_rfl) rfl #[.string (a0.extract (x5_1 : Int).toNat a0.size)] rfl (by (try simp only [List.map_toArray, List.map_cons, List.map_nil]); first | done | rfl | (simp only [List.length_drop, List.length_take]; rfl)) ?_; (with_reducible refine (spec_word.calls k1 (a0.extract (x5_1 : Int).toNat a0.size) t111 _ A12.out).mono ?_); rintro e w' ⟨rfl, ⟨nd, rfl⟩⟩; refine ⟨_, rfl, ?_⟩) | ((with_reducible refine gate_callee (f := 77) rfl ?_); refine goesL_ (some 34) rfl rfl Try.func77 (by kernel_rfl) rfl #[.string (a0.extract (x5_1 : Int).toNat a0.size)] rfl (by (try simp only [List.map_toArray, List.map_cons, List.map_nil]); first | done | rfl | (simp only [List.length_drop, List.length_take]; rfl)) ?_; (with_reducible refine (spec_word.calls k1 (a0.extract (x5_1 : Int).toNat a0.size) t112 _ A16.out).mono ?_); rintro e w' ⟨rfl, ⟨nd, rfl⟩⟩; refine ⟨_, rfl, ?_⟩) | ((with_reducible refine gate_callee (f := 78) rfl ?_); refine goesL_ (some 49) rfl rfl Try.func78 (by kernel_rfl) rfl #[.string (a0.extract ((ji21) : Int).toNat a0.size)] rfl (by (try simp only [List.map_toArray, List.map_cons, List.map_nil]); first | done | (simp only [hji21]; rfl) | rfl | (simp only [List.length_drop, List.length_take]; rfl)) ?_; (with_reducible refine (spec_number.calls k1 (a0.extract ((ji21) : Int).toNat a0.size) t113 _ A24.out).mono ?_); rintro e w' ⟨rfl, ⟨nd, rfl⟩⟩; refine ⟨_, rfl, ?_⟩))
                          go_ret2
                          exact ⟨_, by first | rfl | (simp [errW_none, errW_some] <;> rfl) | (simp only [← hji21]; first | rfl | (simp [errW_none, errW_some] <;> rfl)) | (simp [*, errW_none, errW_some] <;> rfl), by first | exact Kd.R_nil _ _ _ _ _ | exact Kd.N_nil _ _ _ _ _ | exact Kd.V_nil _ _ _ _ _ | exact Kd.Q_nil _ _ _ _ _ | exact Kd.S_nil _ _ _ _ _, by repeat (first | (with_reducible first | exact HB.out | apply below_alloc | apply pw_below_drewN | apply below_drew1 | refine below_set ?_ GE110.out) | exact HB.out)⟩
                        · rw [if_neg c25] at H
                          have c25b0 : decide (0 < t113) = false := decide_eq_false c25
                          clear c25
                          have c28b0 := eq_true (of_decide_eq_true (by first | (with_reducible assumption) | assumption) : 0 ≤ x5_1)
                          have c29b0 := eq_true (of_decide_eq_true (by first | (with_reducible assumption) | assumption) : x5_1 ≤ (ji21))
                          have c30b0 := eq_true (of_decide_eq_true (by first | (with_reducible assumption) | assumption) : (ji21) ≤ (a0.size : Int))
                          by_cases c31 : x4_1.length < 3518437208883
                          · rw [if_pos c31] at H
                            have LMc31 := Aside0.mk c31
                            clear c31
                            obtain ⟨y114, hy114⟩ : ∃ y_ : List (S57), y_ = (x4_1 ++ [(⟨9, a0.extract (x5_1 : Int).toNat ((ji21) : Int).toNat, x5_1, wrap64 ((ji21) - 1)⟩ : S57)]) := ⟨_, rfl⟩
                            replace H : (spec_Tokens.l0 k1 a0 y114 ji21) = some (r1, r2) := by first | (rw [hy114]; with_reducible exact H) | (have H2_ := (Option.bind_some _ _).symm.trans H; rw [hy114]; with_reducible exact H2_) | (have H2_ := (Option.bind_some _ _).symm.trans H; with_reducible exact H2_) | with_reducible exact H | (rw [hy114]; exact H) | exact H
                            have Ny114 := Aside0.mk hy114
                            clear hy114
                            have H' := Aside0.mk H
                            clear H
                            have p4 : 0 ≤ (x5_1 : Int) := of_decide_eq_true (by first | (with_reducible assumption) | assumption)
                            have q4 : x5_1 < (a0.size : Int) := of_decide_eq_true (by first | (with_reducible assumption) | assumption)
                            have hx4 := bt_at a0 x5_1
                            replace p4 := eq_true p4
                            replace q4 := eq_true q4
                            go_upto_region 22 with (first | ((with_reducible refine gate_callee (f := 76) rfl ?_); refine goesL_ (some 15) rfl rfl Try.func76 (by kernel_rfl) rfl #[.int .u8 (bt a0 x5_1)] rfl (by (try simp only [List.map_toArray, List.map_cons, List.map_nil]); first | done | rfl | (simp only [List.length_drop, List.length_take]; rfl)) ?_; (with_reducible refine (spec_signOf.calls (bt a0 x5_1) t109 _ A5.out).mono ?_); rintro e w' ⟨rfl, ⟨nd, rfl⟩⟩; refine ⟨_, rfl, ?_⟩; (try (rw [drewN_self wr]; generalize hq_ : World.drewN wr _ = wr; have n0_ : Aside0 (Kd.R k57 57 wr w.heap.size (fun _ => True) u4 x4_1) := ⟨by rw [← hq_]; exact (by (with_reducible repeat (first | apply Kd.R_alloc | apply Kd.R_drewN | apply Kd.R_drew)); exact HO_4.out)⟩; have n1_ : Aside0 (Below w.heap.size w wr) := ⟨by rw [← hq_]; exact (by repeat (first | (with_reducible first | exact HB.out | apply below_alloc | apply pw_below_drewN | apply below_drew1) | exact HB.out))⟩; clear HO_4 HB hq_; have HO_4 := n0_; have HB := n1_; clear n0_ n1_))) | ((with_reducible refine gate_dst (N := 7) rfl ?_); refine box_event ?hg (N := 7) ?hd (cs := #[.int .i64 0, .string (⟨#[]⟩ : ByteArray), .int .i64 0, .int .i64 0]) (t := 57) ?hr ?_; (case hd => rfl); (case hg => rfl); (case hr => first | (go_simp; done) | (go_simp; rfl)); intro gb110 hg w32 hbox hb; have n0_ := Aside0.mk (Kd.R_below (Kd.R_elderB (by (with_reducible repeat (first | apply Kd.R_alloc | apply Kd.R_drewN | apply Kd.R_drew)); exact HO_4.out) gb110 (Nat.le_of_eq hg.symm)) hb); have n1_ := Aside0.mk (below_step (by repeat (first | (with_reducible first | exact HB.out | apply below_alloc | apply pw_below_drewN | apply below_drew1) | exact HB.out)) hb); have n2_ := Aside0.mk (hbox); have n3_ := Aside0.mk ((by rw [hg]; exact (below_size (by repeat (first | (with_reducible first | exact HB.out | apply below_alloc | apply pw_below_drewN | apply below_drew1) | exact HB.out))) : w.heap.size ≤ gb110)); have n4_ := Aside0.mk ((by rw [hg]; exact (below_size (by repeat (first | (with_reducible first | exact HB.out | apply below_alloc | apply pw_below_drewN | apply below_drew1) | exact HB.out))) : w.heap.size ≤ gb110)); clear HO_4; clear HB; have HO_4 := n0_; have HB := n1_; have BK110 := n2_; have GW110 := n3_; have GE110 := n4_; clear n0_ n1_ n2_ n3_ n4_; clear hb hbox hg; have hcz33_0 : w32.cell? ⟨gb110, 0, none⟩ = some (.int .i64 0) := (blk_cell BK110.out 0).trans rfl; have hcz33_1 : w32.cell? ⟨gb110, 1, none⟩ = some (.string (⟨#[]⟩ : ByteArray)) := (blk_cell BK110.out 1).trans rfl; have hcz33_2 : w32.cell? ⟨gb110, 2, none⟩ = some (.int .i64 0) := (blk_cell BK110.out 2).trans rfl; have hcz33_3 : w32.cell? ⟨gb110, 3, none⟩ = some (.int .i64 0) := (blk_cell BK110.out 3).trans rfl; have hfz33_0 := blk_frozen BK110.out 0; have hfz33_1 := blk_frozen BK110.out 1; have hfz33_2 := blk_frozen BK110.out 2; have hfz33_3 := blk_frozen BK110.out 3; have p6 : 0 ≤ (x5_1 : Int) := of_decide_eq_true (by first | (with_reducible assumption) | assumption); have q6 : x5_1 < (a0.size : Int) := of_decide_eq_true (by first | (with_reducible assumption) | assumption); have hx6 := bt_at a0 x5_1; replace p6 := eq_true p6; replace q6 := eq_true q6) | ((with_reducible refine gate_callee (f := 77) rfl ?_); refine goesL_ (some 29) rfl rfl Try.func77 (by kernel_rfl) rfl #[.string (a0.extract (x5_1 : Int).toNat a0.size)] rfl (by (try simp only [List.map_toArray, List.map_cons, List.map_nil]); first | done | rfl | (simp only [List.length_drop, List.length_take]; rfl)) ?_; (with_reducible refine (spec_word.calls k1 (a0.extract (x5_1 : Int).toNat a0.size) t111 _ A12.out).mono ?_); rintro e w' ⟨rfl, ⟨nd, rfl⟩⟩; refine ⟨_, rfl, ?_⟩) | ((with_reducible refine gate_callee (f := 77) rfl ?_); refine goesL_ (some 34) rfl rfl Try.func77 (by kernel_rfl) rfl #[.string (a0.extract (x5_1 : Int).toNat a0.size)] rfl (by (try simp only [List.map_toArray, List.map_cons, List.map_nil]); first | done | rfl | (simp only [List.length_drop, List.length_take]; rfl)) ?_; (with_reducible refine (spec_word.calls k1 (a0.extract (x5_1 : Int).toNat a0.size) t112 _ A16.out).mono ?_); rintro e w' ⟨rfl, ⟨nd, rfl⟩⟩; refine ⟨_, rfl, ?_⟩) | ((with_reducible refine gate_callee (f := 78) rfl ?_); refine goesL_ (some 49) rfl rfl Try.func78 (by kernel_rfl) rfl #[.string (a0.extract ((ji21) : Int).toNat a0.size)] rfl (by (try simp only [List.map_toArray, List.map_cons, List.map_nil]); first | done | (simp only [hji21]; rfl) | rfl | (simp only [List.length_drop, List.length_take]; rfl)) ?_; (with_reducible refine (spec_number.calls k1 (a0.extract ((ji21) : Int).toNat a0.size) t113 _ A24.out).mono ?_); rintro e w' ⟨rfl, ⟨nd, rfl⟩⟩; refine ⟨_, rfl, ?_⟩))
                            refine Go.Proofs.YtipmmjbjgbfgjaaX.gen_world (fun W_ => W_.heap[gb110]? = some (.cells #[.int .i64 (9), .string (⟨#[]⟩ : ByteArray), .int .i64 x5_1, .int .i64 0] 57 (0, 0)) ∧ Kd.R k57 57 W_ w.heap.size (fun k_ => k_ ≠ gb110) u4 x4_1 ∧ Below w.heap.size w W_) ⟨(by (with_reducible repeat (first | refine blk_drewN ?_ _ | refine blk_drew ?_ | refine blk_alloc ?_ _)); refine blk_put (cs := #[.int .i64 8, .string (⟨#[]⟩ : ByteArray), .int .i64 x5_1, .int .i64 0]) ?_ 0 _ rfl; (with_reducible repeat (first | refine blk_drewN ?_ _ | refine blk_drew ?_ | refine blk_alloc ?_ _)); refine blk_put (cs := #[.int .i64 t109, .string (⟨#[]⟩ : ByteArray), .int .i64 x5_1, .int .i64 0]) ?_ 0 _ rfl; (with_reducible repeat (first | refine blk_drewN ?_ _ | refine blk_drew ?_ | refine blk_alloc ?_ _)); refine blk_put (cs := #[.int .i64 t109, .string (⟨#[]⟩ : ByteArray), .int .i64 x5_1, .int .i64 0]) ?_ 3 _ rfl; (with_reducible repeat (first | refine blk_drewN ?_ _ | refine blk_drew ?_ | refine blk_alloc ?_ _)); refine blk_put (cs := #[.int .i64 t109, .string (⟨#[]⟩ : ByteArray), .int .i64 0, .int .i64 0]) ?_ 2 _ rfl; (with_reducible repeat (first | refine blk_drewN ?_ _ | refine blk_drew ?_ | refine blk_alloc ?_ _)); refine blk_put (cs := #[.int .i64 t109, .string (⟨#[]⟩ : ByteArray), .int .i64 0, .int .i64 0]) ?_ 1 _ rfl; (with_reducible repeat (first | refine blk_drewN ?_ _ | refine blk_drew ?_ | refine blk_alloc ?_ _)); refine blk_put (cs := #[.int .i64 0, .string (⟨#[]⟩ : ByteArray), .int .i64 0, .int .i64 0]) ?_ 0 _ rfl; (with_reducible repeat (first | refine blk_drewN ?_ _ | refine blk_drew ?_ | refine blk_alloc ?_ _)); exact BK110.out), ?oo, (by repeat (first | (with_reducible first | exact HB.out | apply below_alloc | apply pw_below_drewN | apply below_drew1 | refine below_set ?_ GE110.out) | exact HB.out))⟩ ?_
                            case oo => (with_reducible repeat (first | apply Kd.R_alloc | apply Kd.R_drewN | apply Kd.R_drew | refine Kd.R_far (p := ⟨gb110, _, none⟩) ?_ (fun _ hk => hk) _)); exact Kd.R_mono HO_4.out (fun _ hk => hk.2)
                            clear BK110 HO_4 HB hcz33_0 hcz33_1 hcz33_2 hcz33_3 hfz33_0 hfz33_1 hfz33_2 hfz33_3
                            intro W22 hF_
                            obtain ⟨hz_, ho_, hb_⟩ := hF_
                            have zc0_ := (blk_cell hz_ 0).trans rfl
                            have zc1_ := (blk_cell hz_ 1).trans rfl
                            have zc2_ := (blk_cell hz_ 2).trans rfl
                            have zc3_ := (blk_cell hz_ 3).trans rfl
                            have zf1_ := blk_frozen hz_ 1
                            have zf3_ := blk_frozen hz_ 3
                            have BK110 := Aside0.mk hz_
                            have HO_4 := Aside0.mk ho_
                            have HB := Aside0.mk hb_
                            clear hz_ ho_ hb_
                            go_upto_region 23 with (fail)
                            refine Go.Proofs.YtipmmjbjgbfgjaaX.gen_world (fun W_ => W_.heap[gb110]? = some (.cells #[.int .i64 (9), .string (a0.extract (x5_1 : Int).toNat ((ji21) : Int).toNat), .int .i64 x5_1, .int .i64 (wrap64 ((ji21) - 1))] 57 (0, 0)) ∧ Kd.R k57 57 W_ w.heap.size (fun k_ => k_ ≠ gb110) u4 x4_1 ∧ Below w.heap.size w W_) ⟨(by refine blk_put (cs := #[.int .i64 (9), .string (a0.extract (x5_1 : Int).toNat ((ji21) : Int).toNat), .int .i64 x5_1, .int .i64 0]) ?_ 3 _ rfl; refine blk_put (cs := #[.int .i64 (9), .string (⟨#[]⟩ : ByteArray), .int .i64 x5_1, .int .i64 0]) ?_ 1 _ rfl; exact BK110.out), ?oo, (by repeat (first | (with_reducible first | exact HB.out | apply below_alloc | apply pw_below_drewN | apply below_drew1 | refine below_set ?_ GE110.out) | exact HB.out))⟩ ?_
                            case oo => (with_reducible repeat (first | apply Kd.R_alloc | apply Kd.R_drewN | apply Kd.R_drew | refine Kd.R_far (p := ⟨gb110, _, none⟩) ?_ (fun _ hk => hk) _)); exact HO_4.out
                            clear BK110 HO_4 HB zc0_ zc1_ zc2_ zc3_ zf1_ zf3_
                            intro W23 hF_
                            obtain ⟨hz_, ho_, hb_⟩ := hF_
                            have zc0_ := (blk_cell hz_ 0).trans rfl
                            have zc1_ := (blk_cell hz_ 1).trans rfl
                            have zc2_ := (blk_cell hz_ 2).trans rfl
                            have zc3_ := (blk_cell hz_ 3).trans rfl
                            have BK110 := Aside0.mk hz_
                            have HO_4 := Aside0.mk ho_
                            have HB := Aside0.mk hb_
                            clear hz_ ho_ hb_
                            go_wp2_with (first | ((with_reducible refine gate_builtin (b := .append) (xs := #[.tmp 85, .tmp 87]) rfl ?_); at_builtin; refine Kd.R_append k57 (w0 := w) w.heap.size rfl (.tmp 85) (.tmp 87) 52 57 (.agg #[(.int .i64 0), (.string ⟨#[]⟩), (.int .i64 0), (.int .i64 0)]) 40 rfl Try.underlying52 info57 rfl (by decide) (by omega) u4 x4_1 (⟨9, a0.extract (x5_1 : Int).toNat ((ji21) : Int).toNat, x5_1, wrap64 ((ji21) - 1)⟩ : S57) [.int .i64 9, .string (a0.extract (x5_1 : Int).toNat ((ji21) : Int).toNat), .int .i64 x5_1, .int .i64 (wrap64 ((ji21) - 1))] (fun k_ => k_ ≠ gb110) (fun _ => False) rfl (by first | (go_simp; done) | (go_simp; rfl)) ?aP (fun _ hk => hk.elim) ?aF ?aO ?aB ?aS ?aL ?_; (case aP => exact k57_mkM _ _ _ (⟨9, a0.extract (x5_1 : Int).toNat ((ji21) : Int).toNat, x5_1, wrap64 ((ji21) - 1)⟩ : S57)); (case aB => exact (by repeat (first | (with_reducible first | exact HB.out | apply below_alloc | apply pw_below_drewN | apply below_drew1 | refine below_set ?_ GE110.out) | exact HB.out))); (case aF => exact (fun k_ hk => Kd.freshB (g := gb110) (o := .cells #[.int .i64 (9), .string (a0.extract (x5_1 : Int).toNat ((ji21) : Int).toNat), .int .i64 x5_1, .int .i64 (wrap64 ((ji21) - 1))] 57 (0, 0)) (by (with_reducible repeat (first | refine blk_drewN ?_ _ | refine blk_drew ?_ | refine blk_alloc ?_ _)); exact BK110.out) k_ hk)); (case aO => exact (by (with_reducible repeat (first | apply Kd.R_alloc | apply Kd.R_drewN | apply Kd.R_drew)); exact HO_4.out)); (case aS => exact (below_size (by repeat (first | (with_reducible first | exact HB.out | apply below_alloc | apply pw_below_drewN | apply below_drew1 | refine below_set ?_ GE110.out) | exact HB.out)))); (case aL => have := LMc31.out; omega); intro v1_ w6_ ho hb hg hat; rw [← Ny114.out] at ho; have n1_ := Aside0.mk hb; have HO116 := Aside0.mk ho; clear BK110 HB HO_4 zc0_ zc1_ zc2_ zc3_; have HB := n1_; clear n1_ ho hb hg hat))
                            go_roundg k1
                            case measure => have := HK1.out; omega
                            case rel => exact ⟨(y114), (ji21), (by first | rfl | (simp; done) | (simp only [← hji21] <;> (first | rfl | simp)) | (simp [*]; done) | (simp [Go.Proofs.YtipmmjbjgbfgjaaX.isEmpty_ne]; done)), H', ⟨by have := HK1.out; omega⟩, ⟨by (with_reducible repeat (first | apply Kd.R_alloc | apply Kd.R_drewN | apply Kd.R_drew)); exact Kd.R_mono HO116.out (fun _ hk => trivial)⟩, ⟨by repeat (first | (with_reducible first | exact HB.out | apply below_alloc | apply pw_below_drewN | apply below_drew1 | refine below_set ?_ GE110.out) | exact HB.out)⟩⟩
                          · rw [if_neg c31] at H
                            exact absurd H (by simp)
                      · rw [if_neg c22] at H
                        exact absurd H (by simp)
                    · rw [if_neg c20] at H
                      have c20b0 : ((a0.extract (x5_1 : Int).toNat ((wrap64 (x5_1 + t112)) : Int).toNat).toList == ([101, 108, 115, 101] : List UInt8)) = false := beq_eq_false_iff_ne.mpr c20
                      have c20b1 : ((a0.extract (x5_1 : Int).toNat ((wrap64 (x5_1 + t112)) : Int).toNat).toList != ([101, 108, 115, 101] : List UInt8)) = true := bne_iff_ne.mpr c20
                      obtain ⟨ji35, hji35⟩ : ∃ j_ : Int, (wrap64 (x5_1 + t112)) = j_ := ⟨_, rfl⟩
                      replace H : (if 0 ≤ (ji35) then ((spec_number.f k1 (a0.extract ((ji35) : Int).toNat a0.size)).bind fun t117 => (if t117 > 0 then (some (([] : List (S57)), 2)) else (if x4_1.length < 3518437208883 then (spec_Tokens.l0 k1 a0 (x4_1 ++ [(⟨8, a0.extract (x5_1 : Int).toNat ((ji35) : Int).toNat, x5_1, wrap64 ((ji35) - 1)⟩ : S57)]) ji35) else (none)))) else (none)) = some (r1, r2) := by first | (rw [hji35] at H; exact H) | (simp only [hji35] at H ⊢; exact H)
                      (try rw [hji35] at c18b0)
                      (try rw [hji35] at c18b1)
                      (try rw [hji35] at c18)
                      (try rw [hji35] at c19b0)
                      (try rw [hji35] at c19b1)
                      (try rw [hji35] at c19)
                      (try rw [hji35] at c20b0)
                      (try rw [hji35] at c20b1)
                      (try rw [hji35] at A5)
                      (try rw [hji35] at A12)
                      (try rw [hji35] at A16)
                      have hji35w : (IntKind.i64.wrap (x5_1 + t112)) = ji35 := (i64_w _).trans hji35
                      by_cases c36 : 0 ≤ (ji35)
                      · rw [if_pos c36] at H
                        have c36b0 := eq_true c36
                        have c36b1 : decide (0 ≤ (ji35)) = true := decide_eq_true c36
                        clear c36
                        have c37b0 := eq_true (of_decide_eq_true (by first | (with_reducible assumption) | assumption) : (ji35) ≤ (a0.size : Int))
                        replace H := Option.bind_eq_some_iff.mp H
                        obtain ⟨t117, A380, H⟩ := H
                        replace H : (if t117 > 0 then (some (([] : List (S57)), 2)) else (if x4_1.length < 3518437208883 then (spec_Tokens.l0 k1 a0 (x4_1 ++ [(⟨8, a0.extract (x5_1 : Int).toNat ((ji35) : Int).toNat, x5_1, wrap64 ((ji35) - 1)⟩ : S57)]) ji35) else (none))) = some (r1, r2) := H
                        have A38 := Aside0.mk A380
                        clear A380
                        by_cases c39 : t117 > 0
                        · rw [if_pos c39] at H
                          have c39b0 : decide (0 < t117) = true := decide_eq_true c39
                          clear c39
                          simp only [Option.some.injEq, Prod.mk.injEq] at H
                          obtain ⟨rfl, rfl⟩ := H
                          have p4 : 0 ≤ (x5_1 : Int) := of_decide_eq_true (by first | (with_reducible assumption) | assumption)
                          have q4 : x5_1 < (a0.size : Int) := of_decide_eq_true (by first | (with_reducible assumption) | assumption)
                          have hx4 := bt_at a0 x5_1
                          replace p4 := eq_true p4
                          replace q4 := eq_true q4
                          go_wp2_with (first | ((with_reducible refine gate_callee (f := 76) rfl ?_); refine goesL_ (some 15) rfl rfl Try.func76 (by kernel_rfl) rfl #[.int .u8 (bt a0 x5_1)] rfl (by (try simp only [List.map_toArray, List.map_cons, List.map_nil]); first | done | rfl | (simp only [List.length_drop, List.length_take]; rfl)) ?_; (with_reducible refine (spec_signOf.calls (bt a0 x5_1) t109 _ A5.out).mono ?_); rintro e w' ⟨rfl, ⟨nd, rfl⟩⟩; refine ⟨_, rfl, ?_⟩; (try (rw [drewN_self wr]; generalize hq_ : World.drewN wr _ = wr; have n0_ : Aside0 (Kd.R k57 57 wr w.heap.size (fun _ => True) u4 x4_1) := ⟨by rw [← hq_]; exact (by (with_reducible repeat (first | apply Kd.R_alloc | apply Kd.R_drewN | apply Kd.R_drew)); exact HO_4.out)⟩; have n1_ : Aside0 (Below w.heap.size w wr) := ⟨by rw [← hq_]; exact (by repeat (first | (with_reducible first | exact HB.out | apply below_alloc | apply pw_below_drewN | apply below_drew1) | exact HB.out))⟩; clear HO_4 HB hq_; have HO_4 := n0_; have HB := n1_; clear n0_ n1_))) | ((with_reducible refine gate_dst (N := 7) rfl ?_); refine box_event ?hg (N := 7) ?hd (cs := #[.int .i64 0, .string (⟨#[]⟩ : ByteArray), .int .i64 0, .int .i64 0]) (t := 57) ?hr ?_; (case hd => rfl); (case hg => rfl); (case hr => first | (go_simp; done) | (go_simp; rfl)); intro gb110 hg w40 hbox hb; have n0_ := Aside0.mk (Kd.R_below (Kd.R_elderB (by (with_reducible repeat (first | apply Kd.R_alloc | apply Kd.R_drewN | apply Kd.R_drew)); exact HO_4.out) gb110 (Nat.le_of_eq hg.symm)) hb); have n1_ := Aside0.mk (below_step (by repeat (first | (with_reducible first | exact HB.out | apply below_alloc | apply pw_below_drewN | apply below_drew1) | exact HB.out)) hb); have n2_ := Aside0.mk (hbox); have n3_ := Aside0.mk ((by rw [hg]; exact (below_size (by repeat (first | (with_reducible first | exact HB.out | apply below_alloc | apply pw_below_drewN | apply below_drew1) | exact HB.out))) : w.heap.size ≤ gb110)); have n4_ := Aside0.mk ((by rw [hg]; exact (below_size (by repeat (first | (with_reducible first | exact HB.out | apply below_alloc | apply pw_below_drewN | apply below_drew1) | exact HB.out))) : w.heap.size ≤ gb110)); clear HO_4; clear HB; have HO_4 := n0_; have HB := n1_; have BK110 := n2_; have GW110 := n3_; have GE110 := n4_; clear n0_ n1_ n2_ n3_ n4_; clear hb hbox hg; have hcz41_0 : w40.cell? ⟨gb110, 0, none⟩ = some (.int .i64 0) := (blk_cell BK110.out 0).trans rfl; have hcz41_1 : w40.cell? ⟨gb110, 1, none⟩ = some (.string (⟨#[]⟩ : ByteArray)) := (blk_cell BK110.out 1).trans rfl; have hcz41_2 : w40.cell? ⟨gb110, 2, none⟩ = some (.int .i64 0) := (blk_cell BK110.out 2).trans rfl; have hcz41_3 : w40.cell? ⟨gb110, 3, none⟩ = some (.int .i64 0) := (blk_cell BK110.out 3).trans rfl; have hfz41_0 := blk_frozen BK110.out 0; have hfz41_1 := blk_frozen BK110.out 1; have hfz41_2 := blk_frozen BK110.out 2; have hfz41_3 := blk_frozen BK110.out 3; have p6 : 0 ≤ (x5_1 : Int) := of_decide_eq_true (by first | (with_reducible assumption) | assumption); have q6 : x5_1 < (a0.size : Int) := of_decide_eq_true (by first | (with_reducible assumption) | assumption); have hx6 := bt_at a0 x5_1; replace p6 := eq_true p6; replace q6 := eq_true q6) | ((with_reducible refine gate_callee (f := 77) rfl ?_); refine goesL_ (some 29) rfl rfl Try.func77 (by kernel_rfl) rfl #[.string (a0.extract (x5_1 : Int).toNat a0.size)] rfl (by (try simp only [List.map_toArray, List.map_cons, List.map_nil]); first | done | rfl | (simp only [List.length_drop, List.length_take]; rfl)) ?_; (with_reducible refine (spec_word.calls k1 (a0.extract (x5_1 : Int).toNat a0.size) t111 _ A12.out).mono ?_); rintro e w' ⟨rfl, ⟨nd, rfl⟩⟩; refine ⟨_, rfl, ?_⟩) | ((with_reducible refine gate_callee (f := 77) rfl ?_); refine goesL_ (some 34) rfl rfl Try.func77 (by kernel_rfl) rfl #[.string (a0.extract (x5_1 : Int).toNat a0.size)] rfl (by (try simp only [List.map_toArray, List.map_cons, List.map_nil]); first | done | rfl | (simp only [List.length_drop, List.length_take]; rfl)) ?_; (with_reducible refine (spec_word.calls k1 (a0.extract (x5_1 : Int).toNat a0.size) t112 _ A16.out).mono ?_); rintro e w' ⟨rfl, ⟨nd, rfl⟩⟩; refine ⟨_, rfl, ?_⟩) | ((with_reducible refine gate_callee (f := 78) rfl ?_); refine goesL_ (some 49) rfl rfl Try.func78 (by kernel_rfl) rfl #[.string (a0.extract ((ji35) : Int).toNat a0.size)] rfl (by (try simp only [List.map_toArray, List.map_cons, List.map_nil]); first | done | (simp only [hji35]; rfl) | rfl | (simp only [List.length_drop, List.length_take]; rfl)) ?_; (with_reducible refine (spec_number.calls k1 (a0.extract ((ji35) : Int).toNat a0.size) t117 _ A38.out).mono ?_); rintro e w' ⟨rfl, ⟨nd, rfl⟩⟩; refine ⟨_, rfl, ?_⟩))
                          go_ret2
                          exact ⟨_, by first | rfl | (simp [errW_none, errW_some] <;> rfl) | (simp only [← hji35]; first | rfl | (simp [errW_none, errW_some] <;> rfl)) | (simp [*, errW_none, errW_some] <;> rfl), by first | exact Kd.R_nil _ _ _ _ _ | exact Kd.N_nil _ _ _ _ _ | exact Kd.V_nil _ _ _ _ _ | exact Kd.Q_nil _ _ _ _ _ | exact Kd.S_nil _ _ _ _ _, by repeat (first | (with_reducible first | exact HB.out | apply below_alloc | apply pw_below_drewN | apply below_drew1 | refine below_set ?_ GE110.out) | exact HB.out)⟩
                        · rw [if_neg c39] at H
                          have c39b0 : decide (0 < t117) = false := decide_eq_false c39
                          clear c39
                          have c42b0 := eq_true (of_decide_eq_true (by first | (with_reducible assumption) | assumption) : 0 ≤ x5_1)
                          have c43b0 := eq_true (of_decide_eq_true (by first | (with_reducible assumption) | assumption) : x5_1 ≤ (ji35))
                          have c44b0 := eq_true (of_decide_eq_true (by first | (with_reducible assumption) | assumption) : (ji35) ≤ (a0.size : Int))
                          by_cases c45 : x4_1.length < 3518437208883
                          · rw [if_pos c45] at H
                            have LMc45 := Aside0.mk c45
                            clear c45
                            obtain ⟨y118, hy118⟩ : ∃ y_ : List (S57), y_ = (x4_1 ++ [(⟨8, a0.extract (x5_1 : Int).toNat ((ji35) : Int).toNat, x5_1, wrap64 ((ji35) - 1)⟩ : S57)]) := ⟨_, rfl⟩
                            replace H : (spec_Tokens.l0 k1 a0 y118 ji35) = some (r1, r2) := by first | (rw [hy118]; with_reducible exact H) | (have H2_ := (Option.bind_some _ _).symm.trans H; rw [hy118]; with_reducible exact H2_) | (have H2_ := (Option.bind_some _ _).symm.trans H; with_reducible exact H2_) | with_reducible exact H | (rw [hy118]; exact H) | exact H
                            have Ny118 := Aside0.mk hy118
                            clear hy118
                            have H' := Aside0.mk H
                            clear H
                            have p4 : 0 ≤ (x5_1 : Int) := of_decide_eq_true (by first | (with_reducible assumption) | assumption)
                            have q4 : x5_1 < (a0.size : Int) := of_decide_eq_true (by first | (with_reducible assumption) | assumption)
                            have hx4 := bt_at a0 x5_1
                            replace p4 := eq_true p4
                            replace q4 := eq_true q4
                            go_upto_region 22 with (first | ((with_reducible refine gate_callee (f := 76) rfl ?_); refine goesL_ (some 15) rfl rfl Try.func76 (by kernel_rfl) rfl #[.int .u8 (bt a0 x5_1)] rfl (by (try simp only [List.map_toArray, List.map_cons, List.map_nil]); first | done | rfl | (simp only [List.length_drop, List.length_take]; rfl)) ?_; (with_reducible refine (spec_signOf.calls (bt a0 x5_1) t109 _ A5.out).mono ?_); rintro e w' ⟨rfl, ⟨nd, rfl⟩⟩; refine ⟨_, rfl, ?_⟩; (try (rw [drewN_self wr]; generalize hq_ : World.drewN wr _ = wr; have n0_ : Aside0 (Kd.R k57 57 wr w.heap.size (fun _ => True) u4 x4_1) := ⟨by rw [← hq_]; exact (by (with_reducible repeat (first | apply Kd.R_alloc | apply Kd.R_drewN | apply Kd.R_drew)); exact HO_4.out)⟩; have n1_ : Aside0 (Below w.heap.size w wr) := ⟨by rw [← hq_]; exact (by repeat (first | (with_reducible first | exact HB.out | apply below_alloc | apply pw_below_drewN | apply below_drew1) | exact HB.out))⟩; clear HO_4 HB hq_; have HO_4 := n0_; have HB := n1_; clear n0_ n1_))) | ((with_reducible refine gate_dst (N := 7) rfl ?_); refine box_event ?hg (N := 7) ?hd (cs := #[.int .i64 0, .string (⟨#[]⟩ : ByteArray), .int .i64 0, .int .i64 0]) (t := 57) ?hr ?_; (case hd => rfl); (case hg => rfl); (case hr => first | (go_simp; done) | (go_simp; rfl)); intro gb110 hg w46 hbox hb; have n0_ := Aside0.mk (Kd.R_below (Kd.R_elderB (by (with_reducible repeat (first | apply Kd.R_alloc | apply Kd.R_drewN | apply Kd.R_drew)); exact HO_4.out) gb110 (Nat.le_of_eq hg.symm)) hb); have n1_ := Aside0.mk (below_step (by repeat (first | (with_reducible first | exact HB.out | apply below_alloc | apply pw_below_drewN | apply below_drew1) | exact HB.out)) hb); have n2_ := Aside0.mk (hbox); have n3_ := Aside0.mk ((by rw [hg]; exact (below_size (by repeat (first | (with_reducible first | exact HB.out | apply below_alloc | apply pw_below_drewN | apply below_drew1) | exact HB.out))) : w.heap.size ≤ gb110)); have n4_ := Aside0.mk ((by rw [hg]; exact (below_size (by repeat (first | (with_reducible first | exact HB.out | apply below_alloc | apply pw_below_drewN | apply below_drew1) | exact HB.out))) : w.heap.size ≤ gb110)); clear HO_4; clear HB; have HO_4 := n0_; have HB := n1_; have BK110 := n2_; have GW110 := n3_; have GE110 := n4_; clear n0_ n1_ n2_ n3_ n4_; clear hb hbox hg; have hcz47_0 : w46.cell? ⟨gb110, 0, none⟩ = some (.int .i64 0) := (blk_cell BK110.out 0).trans rfl; have hcz47_1 : w46.cell? ⟨gb110, 1, none⟩ = some (.string (⟨#[]⟩ : ByteArray)) := (blk_cell BK110.out 1).trans rfl; have hcz47_2 : w46.cell? ⟨gb110, 2, none⟩ = some (.int .i64 0) := (blk_cell BK110.out 2).trans rfl; have hcz47_3 : w46.cell? ⟨gb110, 3, none⟩ = some (.int .i64 0) := (blk_cell BK110.out 3).trans rfl; have hfz47_0 := blk_frozen BK110.out 0; have hfz47_1 := blk_frozen BK110.out 1; have hfz47_2 := blk_frozen BK110.out 2; have hfz47_3 := blk_frozen BK110.out 3; have p6 : 0 ≤ (x5_1 : Int) := of_decide_eq_true (by first | (with_reducible assumption) | assumption); have q6 : x5_1 < (a0.size : Int) := of_decide_eq_true (by first | (with_reducible assumption) | assumption); have hx6 := bt_at a0 x5_1; replace p6 := eq_true p6; replace q6 := eq_true q6) | ((with_reducible refine gate_callee (f := 77) rfl ?_); refine goesL_ (some 29) rfl rfl Try.func77 (by kernel_rfl) rfl #[.string (a0.extract (x5_1 : Int).toNat a0.size)] rfl (by (try simp only [List.map_toArray, List.map_cons, List.map_nil]); first | done | rfl | (simp only [List.length_drop, List.length_take]; rfl)) ?_; (with_reducible refine (spec_word.calls k1 (a0.extract (x5_1 : Int).toNat a0.size) t111 _ A12.out).mono ?_); rintro e w' ⟨rfl, ⟨nd, rfl⟩⟩; refine ⟨_, rfl, ?_⟩) | ((with_reducible refine gate_callee (f := 77) rfl ?_); refine goesL_ (some 34) rfl rfl Try.func77 (by kernel_rfl) rfl #[.string (a0.extract (x5_1 : Int).toNat a0.size)] rfl (by (try simp only [List.map_toArray, List.map_cons, List.map_nil]); first | done | rfl | (simp only [List.length_drop, List.length_take]; rfl)) ?_; (with_reducible refine (spec_word.calls k1 (a0.extract (x5_1 : Int).toNat a0.size) t112 _ A16.out).mono ?_); rintro e w' ⟨rfl, ⟨nd, rfl⟩⟩; refine ⟨_, rfl, ?_⟩) | ((with_reducible refine gate_callee (f := 78) rfl ?_); refine goesL_ (some 49) rfl rfl Try.func78 (by kernel_rfl) rfl #[.string (a0.extract ((ji35) : Int).toNat a0.size)] rfl (by (try simp only [List.map_toArray, List.map_cons, List.map_nil]); first | done | (simp only [hji35]; rfl) | rfl | (simp only [List.length_drop, List.length_take]; rfl)) ?_; (with_reducible refine (spec_number.calls k1 (a0.extract ((ji35) : Int).toNat a0.size) t117 _ A38.out).mono ?_); rintro e w' ⟨rfl, ⟨nd, rfl⟩⟩; refine ⟨_, rfl, ?_⟩))
                            refine Go.Proofs.YtipmmjbjgbfgjaaX.gen_world (fun W_ => W_.heap[gb110]? = some (.cells #[.int .i64 (8), .string (⟨#[]⟩ : ByteArray), .int .i64 x5_1, .int .i64 0] 57 (0, 0)) ∧ Kd.R k57 57 W_ w.heap.size (fun k_ => k_ ≠ gb110) u4 x4_1 ∧ Below w.heap.size w W_) ⟨(by (with_reducible repeat (first | refine blk_drewN ?_ _ | refine blk_drew ?_ | refine blk_alloc ?_ _)); refine blk_put (cs := #[.int .i64 t109, .string (⟨#[]⟩ : ByteArray), .int .i64 x5_1, .int .i64 0]) ?_ 0 _ rfl; (with_reducible repeat (first | refine blk_drewN ?_ _ | refine blk_drew ?_ | refine blk_alloc ?_ _)); refine blk_put (cs := #[.int .i64 t109, .string (⟨#[]⟩ : ByteArray), .int .i64 x5_1, .int .i64 0]) ?_ 3 _ rfl; (with_reducible repeat (first | refine blk_drewN ?_ _ | refine blk_drew ?_ | refine blk_alloc ?_ _)); refine blk_put (cs := #[.int .i64 t109, .string (⟨#[]⟩ : ByteArray), .int .i64 0, .int .i64 0]) ?_ 2 _ rfl; (with_reducible repeat (first | refine blk_drewN ?_ _ | refine blk_drew ?_ | refine blk_alloc ?_ _)); refine blk_put (cs := #[.int .i64 t109, .string (⟨#[]⟩ : ByteArray), .int .i64 0, .int .i64 0]) ?_ 1 _ rfl; (with_reducible repeat (first | refine blk_drewN ?_ _ | refine blk_drew ?_ | refine blk_alloc ?_ _)); refine blk_put (cs := #[.int .i64 0, .string (⟨#[]⟩ : ByteArray), .int .i64 0, .int .i64 0]) ?_ 0 _ rfl; (with_reducible repeat (first | refine blk_drewN ?_ _ | refine blk_drew ?_ | refine blk_alloc ?_ _)); exact BK110.out), ?oo, (by repeat (first | (with_reducible first | exact HB.out | apply below_alloc | apply pw_below_drewN | apply below_drew1 | refine below_set ?_ GE110.out) | exact HB.out))⟩ ?_
                            case oo => (with_reducible repeat (first | apply Kd.R_alloc | apply Kd.R_drewN | apply Kd.R_drew | refine Kd.R_far (p := ⟨gb110, _, none⟩) ?_ (fun _ hk => hk) _)); exact Kd.R_mono HO_4.out (fun _ hk => hk.2)
                            clear BK110 HO_4 HB hcz47_0 hcz47_1 hcz47_2 hcz47_3 hfz47_0 hfz47_1 hfz47_2 hfz47_3
                            intro W22 hF_
                            obtain ⟨hz_, ho_, hb_⟩ := hF_
                            have zc0_ := (blk_cell hz_ 0).trans rfl
                            have zc1_ := (blk_cell hz_ 1).trans rfl
                            have zc2_ := (blk_cell hz_ 2).trans rfl
                            have zc3_ := (blk_cell hz_ 3).trans rfl
                            have zf1_ := blk_frozen hz_ 1
                            have zf3_ := blk_frozen hz_ 3
                            have BK110 := Aside0.mk hz_
                            have HO_4 := Aside0.mk ho_
                            have HB := Aside0.mk hb_
                            clear hz_ ho_ hb_
                            go_upto_region 23 with (fail)
                            refine Go.Proofs.YtipmmjbjgbfgjaaX.gen_world (fun W_ => W_.heap[gb110]? = some (.cells #[.int .i64 (8), .string (a0.extract (x5_1 : Int).toNat ((ji35) : Int).toNat), .int .i64 x5_1, .int .i64 (wrap64 ((ji35) - 1))] 57 (0, 0)) ∧ Kd.R k57 57 W_ w.heap.size (fun k_ => k_ ≠ gb110) u4 x4_1 ∧ Below w.heap.size w W_) ⟨(by refine blk_put (cs := #[.int .i64 (8), .string (a0.extract (x5_1 : Int).toNat ((ji35) : Int).toNat), .int .i64 x5_1, .int .i64 0]) ?_ 3 _ rfl; refine blk_put (cs := #[.int .i64 (8), .string (⟨#[]⟩ : ByteArray), .int .i64 x5_1, .int .i64 0]) ?_ 1 _ rfl; exact BK110.out), ?oo, (by repeat (first | (with_reducible first | exact HB.out | apply below_alloc | apply pw_below_drewN | apply below_drew1 | refine below_set ?_ GE110.out) | exact HB.out))⟩ ?_
                            case oo => (with_reducible repeat (first | apply Kd.R_alloc | apply Kd.R_drewN | apply Kd.R_drew | refine Kd.R_far (p := ⟨gb110, _, none⟩) ?_ (fun _ hk => hk) _)); exact HO_4.out
                            clear BK110 HO_4 HB zc0_ zc1_ zc2_ zc3_ zf1_ zf3_
                            intro W23 hF_
                            obtain ⟨hz_, ho_, hb_⟩ := hF_
                            have zc0_ := (blk_cell hz_ 0).trans rfl
                            have zc1_ := (blk_cell hz_ 1).trans rfl
                            have zc2_ := (blk_cell hz_ 2).trans rfl
                            have zc3_ := (blk_cell hz_ 3).trans rfl
                            have BK110 := Aside0.mk hz_
                            have HO_4 := Aside0.mk ho_
                            have HB := Aside0.mk hb_
                            clear hz_ ho_ hb_
                            go_wp2_with (first | ((with_reducible refine gate_builtin (b := .append) (xs := #[.tmp 85, .tmp 87]) rfl ?_); at_builtin; refine Kd.R_append k57 (w0 := w) w.heap.size rfl (.tmp 85) (.tmp 87) 52 57 (.agg #[(.int .i64 0), (.string ⟨#[]⟩), (.int .i64 0), (.int .i64 0)]) 40 rfl Try.underlying52 info57 rfl (by decide) (by omega) u4 x4_1 (⟨8, a0.extract (x5_1 : Int).toNat ((ji35) : Int).toNat, x5_1, wrap64 ((ji35) - 1)⟩ : S57) [.int .i64 8, .string (a0.extract (x5_1 : Int).toNat ((ji35) : Int).toNat), .int .i64 x5_1, .int .i64 (wrap64 ((ji35) - 1))] (fun k_ => k_ ≠ gb110) (fun _ => False) rfl (by first | (go_simp; done) | (go_simp; rfl)) ?aP (fun _ hk => hk.elim) ?aF ?aO ?aB ?aS ?aL ?_; (case aP => exact k57_mkM _ _ _ (⟨8, a0.extract (x5_1 : Int).toNat ((ji35) : Int).toNat, x5_1, wrap64 ((ji35) - 1)⟩ : S57)); (case aB => exact (by repeat (first | (with_reducible first | exact HB.out | apply below_alloc | apply pw_below_drewN | apply below_drew1 | refine below_set ?_ GE110.out) | exact HB.out))); (case aF => exact (fun k_ hk => Kd.freshB (g := gb110) (o := .cells #[.int .i64 (8), .string (a0.extract (x5_1 : Int).toNat ((ji35) : Int).toNat), .int .i64 x5_1, .int .i64 (wrap64 ((ji35) - 1))] 57 (0, 0)) (by (with_reducible repeat (first | refine blk_drewN ?_ _ | refine blk_drew ?_ | refine blk_alloc ?_ _)); exact BK110.out) k_ hk)); (case aO => exact (by (with_reducible repeat (first | apply Kd.R_alloc | apply Kd.R_drewN | apply Kd.R_drew)); exact HO_4.out)); (case aS => exact (below_size (by repeat (first | (with_reducible first | exact HB.out | apply below_alloc | apply pw_below_drewN | apply below_drew1 | refine below_set ?_ GE110.out) | exact HB.out)))); (case aL => have := LMc45.out; omega); intro v1_ w6_ ho hb hg hat; rw [← Ny118.out] at ho; have n1_ := Aside0.mk hb; have HO120 := Aside0.mk ho; clear BK110 HB HO_4 zc0_ zc1_ zc2_ zc3_; have HB := n1_; clear n1_ ho hb hg hat))
                            go_roundg k1
                            case measure => have := HK1.out; omega
                            case rel => exact ⟨(y118), (ji35), (by first | rfl | (simp; done) | (simp only [← hji35] <;> (first | rfl | simp)) | (simp [*]; done) | (simp [Go.Proofs.YtipmmjbjgbfgjaaX.isEmpty_ne]; done)), H', ⟨by have := HK1.out; omega⟩, ⟨by (with_reducible repeat (first | apply Kd.R_alloc | apply Kd.R_drewN | apply Kd.R_drew)); exact Kd.R_mono HO120.out (fun _ hk => trivial)⟩, ⟨by repeat (first | (with_reducible first | exact HB.out | apply below_alloc | apply pw_below_drewN | apply below_drew1 | refine below_set ?_ GE110.out) | exact HB.out)⟩⟩
                          · rw [if_neg c45] at H
                            exact absurd H (by simp)
                      · rw [if_neg c36] at H
                        exact absurd H (by simp)
                  · rw [if_neg c19] at H
                    exact absurd H (by simp)
                · rw [if_neg c18] at H
                  exact absurd H (by simp)
              · rw [if_neg c13] at H
                have c13b0 : decide (0 < t111) = false := decide_eq_false c13
                clear c13
                have c49b0 := eq_true (of_decide_eq_true (by first | (with_reducible assumption) | assumption) : 0 ≤ x5_1)
                have c50b0 := eq_true (of_decide_eq_true (by first | (with_reducible assumption) | assumption) : x5_1 ≤ (a0.size : Int))
                replace H := Option.bind_eq_some_iff.mp H
                obtain ⟨t121, A510, H⟩ := H
                replace H : (if t121 > 0 then ((spec_number.f k1 (a0.extract (x5_1 : Int).toNat a0.size)).bind fun t122 => (if 0 ≤ (wrap64 (x5_1 + t122)) then (if (wrap64 (x5_1 + t122)) ≤ (a0.size : Int) then ((spec_word.f k1 (a0.extract ((wrap64 (x5_1 + t122)) : Int).toNat a0.size)).bind fun t123 => (if t123 > 0 then (some (([] : List (S57)), 2)) else (if x5_1 ≤ (wrap64 (x5_1 + t122)) then (if x4_1.length < 3518437208883 then (spec_Tokens.l0 k1 a0 (x4_1 ++ [(⟨10, a0.extract (x5_1 : Int).toNat ((wrap64 (x5_1 + t122)) : Int).toNat, x5_1, wrap64 ((wrap64 (x5_1 + t122)) - 1)⟩ : S57)]) (wrap64 (x5_1 + t122))) else (none)) else (none)))) else (none)) else (none))) else (if t109 = 0 then (some (([] : List (S57)), 2)) else (if x5_1 ≤ (wrap64 (x5_1 + 1)) then (if (wrap64 (x5_1 + 1)) ≤ (a0.size : Int) then (if x4_1.length < 3518437208883 then (spec_Tokens.l0 k1 a0 (x4_1 ++ [(⟨t109, a0.extract (x5_1 : Int).toNat ((wrap64 (x5_1 + 1)) : Int).toNat, x5_1, wrap64 ((wrap64 (x5_1 + 1)) - 1)⟩ : S57)]) (wrap64 (x5_1 + 1))) else (none)) else (none)) else (none)))) = some (r1, r2) := H
                have A51 := Aside0.mk A510
                clear A510
                by_cases c52 : t121 > 0
                · rw [if_pos c52] at H
                  have c52b0 : decide (0 < t121) = true := decide_eq_true c52
                  clear c52
                  have c53b0 := eq_true (of_decide_eq_true (by first | (with_reducible assumption) | assumption) : 0 ≤ x5_1)
                  have c54b0 := eq_true (of_decide_eq_true (by first | (with_reducible assumption) | assumption) : x5_1 ≤ (a0.size : Int))
                  replace H := Option.bind_eq_some_iff.mp H
                  obtain ⟨t122, A550, H⟩ := H
                  replace H : (if 0 ≤ (wrap64 (x5_1 + t122)) then (if (wrap64 (x5_1 + t122)) ≤ (a0.size : Int) then ((spec_word.f k1 (a0.extract ((wrap64 (x5_1 + t122)) : Int).toNat a0.size)).bind fun t123 => (if t123 > 0 then (some (([] : List (S57)), 2)) else (if x5_1 ≤ (wrap64 (x5_1 + t122)) then (if x4_1.length < 3518437208883 then (spec_Tokens.l0 k1 a0 (x4_1 ++ [(⟨10, a0.extract (x5_1 : Int).toNat ((wrap64 (x5_1 + t122)) : Int).toNat, x5_1, wrap64 ((wrap64 (x5_1 + t122)) - 1)⟩ : S57)]) (wrap64 (x5_1 + t122))) else (none)) else (none)))) else (none)) else (none)) = some (r1, r2) := H
                  have A55 := Aside0.mk A550
                  clear A550
                  obtain ⟨ji56, hji56⟩ : ∃ j_ : Int, (wrap64 (x5_1 + t122)) = j_ := ⟨_, rfl⟩
                  replace H : (if 0 ≤ (ji56) then (if (ji56) ≤ (a0.size : Int) then ((spec_word.f k1 (a0.extract ((ji56) : Int).toNat a0.size)).bind fun t123 => (if t123 > 0 then (some (([] : List (S57)), 2)) else (if x5_1 ≤ (ji56) then (if x4_1.length < 3518437208883 then (spec_Tokens.l0 k1 a0 (x4_1 ++ [(⟨10, a0.extract (x5_1 : Int).toNat ((ji56) : Int).toNat, x5_1, wrap64 ((ji56) - 1)⟩ : S57)]) ji56) else (none)) else (none)))) else (none)) else (none)) = some (r1, r2) := by first | (rw [hji56] at H; exact H) | (simp only [hji56] at H ⊢; exact H)
                  (try rw [hji56] at A5)
                  (try rw [hji56] at A12)
                  (try rw [hji56] at A51)
                  (try rw [hji56] at A55)
                  have hji56w : (IntKind.i64.wrap (x5_1 + t122)) = ji56 := (i64_w _).trans hji56
                  by_cases c57 : 0 ≤ (ji56)
                  · rw [if_pos c57] at H
                    have c57b0 := eq_true c57
                    have c57b1 : decide (0 ≤ (ji56)) = true := decide_eq_true c57
                    clear c57
                    by_cases c58 : (ji56) ≤ (a0.size : Int)
                    · rw [if_pos c58] at H
                      have c58b0 := eq_true c58
                      have c58b1 : decide ((ji56) ≤ (a0.size : Int)) = true := decide_eq_true c58
                      clear c58
                      replace H := Option.bind_eq_some_iff.mp H
                      obtain ⟨t123, A590, H⟩ := H
                      replace H : (if t123 > 0 then (some (([] : List (S57)), 2)) else (if x5_1 ≤ (ji56) then (if x4_1.length < 3518437208883 then (spec_Tokens.l0 k1 a0 (x4_1 ++ [(⟨10, a0.extract (x5_1 : Int).toNat ((ji56) : Int).toNat, x5_1, wrap64 ((ji56) - 1)⟩ : S57)]) ji56) else (none)) else (none))) = some (r1, r2) := H
                      have A59 := Aside0.mk A590
                      clear A590
                      by_cases c60 : t123 > 0
                      · rw [if_pos c60] at H
                        have c60b0 : decide (0 < t123) = true := decide_eq_true c60
                        clear c60
                        simp only [Option.some.injEq, Prod.mk.injEq] at H
                        obtain ⟨rfl, rfl⟩ := H
                        have p4 : 0 ≤ (x5_1 : Int) := of_decide_eq_true (by first | (with_reducible assumption) | assumption)
                        have q4 : x5_1 < (a0.size : Int) := of_decide_eq_true (by first | (with_reducible assumption) | assumption)
                        have hx4 := bt_at a0 x5_1
                        replace p4 := eq_true p4
                        replace q4 := eq_true q4
                        go_wp2_with (first | ((with_reducible refine gate_callee (f := 76) rfl ?_); refine goesL_ (some 15) rfl rfl Try.func76 (by kernel_rfl) rfl #[.int .u8 (bt a0 x5_1)] rfl (by (try simp only [List.map_toArray, List.map_cons, List.map_nil]); first | done | rfl | (simp only [List.length_drop, List.length_take]; rfl)) ?_; (with_reducible refine (spec_signOf.calls (bt a0 x5_1) t109 _ A5.out).mono ?_); rintro e w' ⟨rfl, ⟨nd, rfl⟩⟩; refine ⟨_, rfl, ?_⟩; (try (rw [drewN_self wr]; generalize hq_ : World.drewN wr _ = wr; have n0_ : Aside0 (Kd.R k57 57 wr w.heap.size (fun _ => True) u4 x4_1) := ⟨by rw [← hq_]; exact (by (with_reducible repeat (first | apply Kd.R_alloc | apply Kd.R_drewN | apply Kd.R_drew)); exact HO_4.out)⟩; have n1_ : Aside0 (Below w.heap.size w wr) := ⟨by rw [← hq_]; exact (by repeat (first | (with_reducible first | exact HB.out | apply below_alloc | apply pw_below_drewN | apply below_drew1) | exact HB.out))⟩; clear HO_4 HB hq_; have HO_4 := n0_; have HB := n1_; clear n0_ n1_))) | ((with_reducible refine gate_dst (N := 7) rfl ?_); refine box_event ?hg (N := 7) ?hd (cs := #[.int .i64 0, .string (⟨#[]⟩ : ByteArray), .int .i64 0, .int .i64 0]) (t := 57) ?hr ?_; (case hd => rfl); (case hg => rfl); (case hr => first | (go_simp; done) | (go_simp; rfl)); intro gb110 hg w61 hbox hb; have n0_ := Aside0.mk (Kd.R_below (Kd.R_elderB (by (with_reducible repeat (first | apply Kd.R_alloc | apply Kd.R_drewN | apply Kd.R_drew)); exact HO_4.out) gb110 (Nat.le_of_eq hg.symm)) hb); have n1_ := Aside0.mk (below_step (by repeat (first | (with_reducible first | exact HB.out | apply below_alloc | apply pw_below_drewN | apply below_drew1) | exact HB.out)) hb); have n2_ := Aside0.mk (hbox); have n3_ := Aside0.mk ((by rw [hg]; exact (below_size (by repeat (first | (with_reducible first | exact HB.out | apply below_alloc | apply pw_below_drewN | apply below_drew1) | exact HB.out))) : w.heap.size ≤ gb110)); have n4_ := Aside0.mk ((by rw [hg]; exact (below_size (by repeat (first | (with_reducible first | exact HB.out | apply below_alloc | apply pw_below_drewN | apply below_drew1) | exact HB.out))) : w.heap.size ≤ gb110)); clear HO_4; clear HB; have HO_4 := n0_; have HB := n1_; have BK110 := n2_; have GW110 := n3_; have GE110 := n4_; clear n0_ n1_ n2_ n3_ n4_; clear hb hbox hg; have hcz62_0 : w61.cell? ⟨gb110, 0, none⟩ = some (.int .i64 0) := (blk_cell BK110.out 0).trans rfl; have hcz62_1 : w61.cell? ⟨gb110, 1, none⟩ = some (.string (⟨#[]⟩ : ByteArray)) := (blk_cell BK110.out 1).trans rfl; have hcz62_2 : w61.cell? ⟨gb110, 2, none⟩ = some (.int .i64 0) := (blk_cell BK110.out 2).trans rfl; have hcz62_3 : w61.cell? ⟨gb110, 3, none⟩ = some (.int .i64 0) := (blk_cell BK110.out 3).trans rfl; have hfz62_0 := blk_frozen BK110.out 0; have hfz62_1 := blk_frozen BK110.out 1; have hfz62_2 := blk_frozen BK110.out 2; have hfz62_3 := blk_frozen BK110.out 3; have p6 : 0 ≤ (x5_1 : Int) := of_decide_eq_true (by first | (with_reducible assumption) | assumption); have q6 : x5_1 < (a0.size : Int) := of_decide_eq_true (by first | (with_reducible assumption) | assumption); have hx6 := bt_at a0 x5_1; replace p6 := eq_true p6; replace q6 := eq_true q6) | ((with_reducible refine gate_callee (f := 77) rfl ?_); refine goesL_ (some 29) rfl rfl Try.func77 (by kernel_rfl) rfl #[.string (a0.extract (x5_1 : Int).toNat a0.size)] rfl (by (try simp only [List.map_toArray, List.map_cons, List.map_nil]); first | done | rfl | (simp only [List.length_drop, List.length_take]; rfl)) ?_; (with_reducible refine (spec_word.calls k1 (a0.extract (x5_1 : Int).toNat a0.size) t111 _ A12.out).mono ?_); rintro e w' ⟨rfl, ⟨nd, rfl⟩⟩; refine ⟨_, rfl, ?_⟩) | ((with_reducible refine gate_callee (f := 78) rfl ?_); refine goesL_ (some 55) rfl rfl Try.func78 (by kernel_rfl) rfl #[.string (a0.extract (x5_1 : Int).toNat a0.size)] rfl (by (try simp only [List.map_toArray, List.map_cons, List.map_nil]); first | done | rfl | (simp only [List.length_drop, List.length_take]; rfl)) ?_; (with_reducible refine (spec_number.calls k1 (a0.extract (x5_1 : Int).toNat a0.size) t121 _ A51.out).mono ?_); rintro e w' ⟨rfl, ⟨nd, rfl⟩⟩; refine ⟨_, rfl, ?_⟩) | ((with_reducible refine gate_callee (f := 78) rfl ?_); refine goesL_ (some 60) rfl rfl Try.func78 (by kernel_rfl) rfl #[.string (a0.extract (x5_1 : Int).toNat a0.size)] rfl (by (try simp only [List.map_toArray, List.map_cons, List.map_nil]); first | done | rfl | (simp only [List.length_drop, List.length_take]; rfl)) ?_; (with_reducible refine (spec_number.calls k1 (a0.extract (x5_1 : Int).toNat a0.size) t122 _ A55.out).mono ?_); rintro e w' ⟨rfl, ⟨nd, rfl⟩⟩; refine ⟨_, rfl, ?_⟩) | ((with_reducible refine gate_callee (f := 77) rfl ?_); refine goesL_ (some 67) rfl rfl Try.func77 (by kernel_rfl) rfl #[.string (a0.extract ((ji56) : Int).toNat a0.size)] rfl (by (try simp only [List.map_toArray, List.map_cons, List.map_nil]); first | done | (simp only [hji56]; rfl) | rfl | (simp only [List.length_drop, List.length_take]; rfl)) ?_; (with_reducible refine (spec_word.calls k1 (a0.extract ((ji56) : Int).toNat a0.size) t123 _ A59.out).mono ?_); rintro e w' ⟨rfl, ⟨nd, rfl⟩⟩; refine ⟨_, rfl, ?_⟩))
                        go_ret2
                        exact ⟨_, by first | rfl | (simp [errW_none, errW_some] <;> rfl) | (simp only [← hji56]; first | rfl | (simp [errW_none, errW_some] <;> rfl)) | (simp [*, errW_none, errW_some] <;> rfl), by first | exact Kd.R_nil _ _ _ _ _ | exact Kd.N_nil _ _ _ _ _ | exact Kd.V_nil _ _ _ _ _ | exact Kd.Q_nil _ _ _ _ _ | exact Kd.S_nil _ _ _ _ _, by repeat (first | (with_reducible first | exact HB.out | apply below_alloc | apply pw_below_drewN | apply below_drew1 | refine below_set ?_ GE110.out) | exact HB.out)⟩
                      · rw [if_neg c60] at H
                        have c60b0 : decide (0 < t123) = false := decide_eq_false c60
                        clear c60
                        have c63b0 := eq_true (of_decide_eq_true (by first | (with_reducible assumption) | assumption) : 0 ≤ x5_1)
                        by_cases c64 : x5_1 ≤ (ji56)
                        · rw [if_pos c64] at H
                          have c64b0 := eq_true c64
                          have c64b1 : decide (x5_1 ≤ (ji56)) = true := decide_eq_true c64
                          clear c64
                          have c65b0 := eq_true (of_decide_eq_true (by first | (with_reducible assumption) | assumption) : (ji56) ≤ (a0.size : Int))
                          by_cases c66 : x4_1.length < 3518437208883
                          · rw [if_pos c66] at H
                            have LMc66 := Aside0.mk c66
                            clear c66
                            obtain ⟨y124, hy124⟩ : ∃ y_ : List (S57), y_ = (x4_1 ++ [(⟨10, a0.extract (x5_1 : Int).toNat ((ji56) : Int).toNat, x5_1, wrap64 ((ji56) - 1)⟩ : S57)]) := ⟨_, rfl⟩
                            replace H : (spec_Tokens.l0 k1 a0 y124 ji56) = some (r1, r2) := by first | (rw [hy124]; with_reducible exact H) | (have H2_ := (Option.bind_some _ _).symm.trans H; rw [hy124]; with_reducible exact H2_) | (have H2_ := (Option.bind_some _ _).symm.trans H; with_reducible exact H2_) | with_reducible exact H | (rw [hy124]; exact H) | exact H
                            have Ny124 := Aside0.mk hy124
                            clear hy124
                            have H' := Aside0.mk H
                            clear H
                            have p4 : 0 ≤ (x5_1 : Int) := of_decide_eq_true (by first | (with_reducible assumption) | assumption)
                            have q4 : x5_1 < (a0.size : Int) := of_decide_eq_true (by first | (with_reducible assumption) | assumption)
                            have hx4 := bt_at a0 x5_1
                            replace p4 := eq_true p4
                            replace q4 := eq_true q4
                            go_upto_region 22 with (first | ((with_reducible refine gate_callee (f := 76) rfl ?_); refine goesL_ (some 15) rfl rfl Try.func76 (by kernel_rfl) rfl #[.int .u8 (bt a0 x5_1)] rfl (by (try simp only [List.map_toArray, List.map_cons, List.map_nil]); first | done | rfl | (simp only [List.length_drop, List.length_take]; rfl)) ?_; (with_reducible refine (spec_signOf.calls (bt a0 x5_1) t109 _ A5.out).mono ?_); rintro e w' ⟨rfl, ⟨nd, rfl⟩⟩; refine ⟨_, rfl, ?_⟩; (try (rw [drewN_self wr]; generalize hq_ : World.drewN wr _ = wr; have n0_ : Aside0 (Kd.R k57 57 wr w.heap.size (fun _ => True) u4 x4_1) := ⟨by rw [← hq_]; exact (by (with_reducible repeat (first | apply Kd.R_alloc | apply Kd.R_drewN | apply Kd.R_drew)); exact HO_4.out)⟩; have n1_ : Aside0 (Below w.heap.size w wr) := ⟨by rw [← hq_]; exact (by repeat (first | (with_reducible first | exact HB.out | apply below_alloc | apply pw_below_drewN | apply below_drew1) | exact HB.out))⟩; clear HO_4 HB hq_; have HO_4 := n0_; have HB := n1_; clear n0_ n1_))) | ((with_reducible refine gate_dst (N := 7) rfl ?_); refine box_event ?hg (N := 7) ?hd (cs := #[.int .i64 0, .string (⟨#[]⟩ : ByteArray), .int .i64 0, .int .i64 0]) (t := 57) ?hr ?_; (case hd => rfl); (case hg => rfl); (case hr => first | (go_simp; done) | (go_simp; rfl)); intro gb110 hg w67 hbox hb; have n0_ := Aside0.mk (Kd.R_below (Kd.R_elderB (by (with_reducible repeat (first | apply Kd.R_alloc | apply Kd.R_drewN | apply Kd.R_drew)); exact HO_4.out) gb110 (Nat.le_of_eq hg.symm)) hb); have n1_ := Aside0.mk (below_step (by repeat (first | (with_reducible first | exact HB.out | apply below_alloc | apply pw_below_drewN | apply below_drew1) | exact HB.out)) hb); have n2_ := Aside0.mk (hbox); have n3_ := Aside0.mk ((by rw [hg]; exact (below_size (by repeat (first | (with_reducible first | exact HB.out | apply below_alloc | apply pw_below_drewN | apply below_drew1) | exact HB.out))) : w.heap.size ≤ gb110)); have n4_ := Aside0.mk ((by rw [hg]; exact (below_size (by repeat (first | (with_reducible first | exact HB.out | apply below_alloc | apply pw_below_drewN | apply below_drew1) | exact HB.out))) : w.heap.size ≤ gb110)); clear HO_4; clear HB; have HO_4 := n0_; have HB := n1_; have BK110 := n2_; have GW110 := n3_; have GE110 := n4_; clear n0_ n1_ n2_ n3_ n4_; clear hb hbox hg; have hcz68_0 : w67.cell? ⟨gb110, 0, none⟩ = some (.int .i64 0) := (blk_cell BK110.out 0).trans rfl; have hcz68_1 : w67.cell? ⟨gb110, 1, none⟩ = some (.string (⟨#[]⟩ : ByteArray)) := (blk_cell BK110.out 1).trans rfl; have hcz68_2 : w67.cell? ⟨gb110, 2, none⟩ = some (.int .i64 0) := (blk_cell BK110.out 2).trans rfl; have hcz68_3 : w67.cell? ⟨gb110, 3, none⟩ = some (.int .i64 0) := (blk_cell BK110.out 3).trans rfl; have hfz68_0 := blk_frozen BK110.out 0; have hfz68_1 := blk_frozen BK110.out 1; have hfz68_2 := blk_frozen BK110.out 2; have hfz68_3 := blk_frozen BK110.out 3; have p6 : 0 ≤ (x5_1 : Int) := of_decide_eq_true (by first | (with_reducible assumption) | assumption); have q6 : x5_1 < (a0.size : Int) := of_decide_eq_true (by first | (with_reducible assumption) | assumption); have hx6 := bt_at a0 x5_1; replace p6 := eq_true p6; replace q6 := eq_true q6) | ((with_reducible refine gate_callee (f := 77) rfl ?_); refine goesL_ (some 29) rfl rfl Try.func77 (by kernel_rfl) rfl #[.string (a0.extract (x5_1 : Int).toNat a0.size)] rfl (by (try simp only [List.map_toArray, List.map_cons, List.map_nil]); first | done | rfl | (simp only [List.length_drop, List.length_take]; rfl)) ?_; (with_reducible refine (spec_word.calls k1 (a0.extract (x5_1 : Int).toNat a0.size) t111 _ A12.out).mono ?_); rintro e w' ⟨rfl, ⟨nd, rfl⟩⟩; refine ⟨_, rfl, ?_⟩) | ((with_reducible refine gate_callee (f := 78) rfl ?_); refine goesL_ (some 55) rfl rfl Try.func78 (by kernel_rfl) rfl #[.string (a0.extract (x5_1 : Int).toNat a0.size)] rfl (by (try simp only [List.map_toArray, List.map_cons, List.map_nil]); first | done | rfl | (simp only [List.length_drop, List.length_take]; rfl)) ?_; (with_reducible refine (spec_number.calls k1 (a0.extract (x5_1 : Int).toNat a0.size) t121 _ A51.out).mono ?_); rintro e w' ⟨rfl, ⟨nd, rfl⟩⟩; refine ⟨_, rfl, ?_⟩) | ((with_reducible refine gate_callee (f := 78) rfl ?_); refine goesL_ (some 60) rfl rfl Try.func78 (by kernel_rfl) rfl #[.string (a0.extract (x5_1 : Int).toNat a0.size)] rfl (by (try simp only [List.map_toArray, List.map_cons, List.map_nil]); first | done | rfl | (simp only [List.length_drop, List.length_take]; rfl)) ?_; (with_reducible refine (spec_number.calls k1 (a0.extract (x5_1 : Int).toNat a0.size) t122 _ A55.out).mono ?_); rintro e w' ⟨rfl, ⟨nd, rfl⟩⟩; refine ⟨_, rfl, ?_⟩) | ((with_reducible refine gate_callee (f := 77) rfl ?_); refine goesL_ (some 67) rfl rfl Try.func77 (by kernel_rfl) rfl #[.string (a0.extract ((ji56) : Int).toNat a0.size)] rfl (by (try simp only [List.map_toArray, List.map_cons, List.map_nil]); first | done | (simp only [hji56]; rfl) | rfl | (simp only [List.length_drop, List.length_take]; rfl)) ?_; (with_reducible refine (spec_word.calls k1 (a0.extract ((ji56) : Int).toNat a0.size) t123 _ A59.out).mono ?_); rintro e w' ⟨rfl, ⟨nd, rfl⟩⟩; refine ⟨_, rfl, ?_⟩))
                            refine Go.Proofs.YtipmmjbjgbfgjaaX.gen_world (fun W_ => W_.heap[gb110]? = some (.cells #[.int .i64 (10), .string (⟨#[]⟩ : ByteArray), .int .i64 x5_1, .int .i64 0] 57 (0, 0)) ∧ Kd.R k57 57 W_ w.heap.size (fun k_ => k_ ≠ gb110) u4 x4_1 ∧ Below w.heap.size w W_) ⟨(by (with_reducible repeat (first | refine blk_drewN ?_ _ | refine blk_drew ?_ | refine blk_alloc ?_ _)); refine blk_put (cs := #[.int .i64 t109, .string (⟨#[]⟩ : ByteArray), .int .i64 x5_1, .int .i64 0]) ?_ 0 _ rfl; (with_reducible repeat (first | refine blk_drewN ?_ _ | refine blk_drew ?_ | refine blk_alloc ?_ _)); refine blk_put (cs := #[.int .i64 t109, .string (⟨#[]⟩ : ByteArray), .int .i64 x5_1, .int .i64 0]) ?_ 3 _ rfl; (with_reducible repeat (first | refine blk_drewN ?_ _ | refine blk_drew ?_ | refine blk_alloc ?_ _)); refine blk_put (cs := #[.int .i64 t109, .string (⟨#[]⟩ : ByteArray), .int .i64 0, .int .i64 0]) ?_ 2 _ rfl; (with_reducible repeat (first | refine blk_drewN ?_ _ | refine blk_drew ?_ | refine blk_alloc ?_ _)); refine blk_put (cs := #[.int .i64 t109, .string (⟨#[]⟩ : ByteArray), .int .i64 0, .int .i64 0]) ?_ 1 _ rfl; (with_reducible repeat (first | refine blk_drewN ?_ _ | refine blk_drew ?_ | refine blk_alloc ?_ _)); refine blk_put (cs := #[.int .i64 0, .string (⟨#[]⟩ : ByteArray), .int .i64 0, .int .i64 0]) ?_ 0 _ rfl; (with_reducible repeat (first | refine blk_drewN ?_ _ | refine blk_drew ?_ | refine blk_alloc ?_ _)); exact BK110.out), ?oo, (by repeat (first | (with_reducible first | exact HB.out | apply below_alloc | apply pw_below_drewN | apply below_drew1 | refine below_set ?_ GE110.out) | exact HB.out))⟩ ?_
                            case oo => (with_reducible repeat (first | apply Kd.R_alloc | apply Kd.R_drewN | apply Kd.R_drew | refine Kd.R_far (p := ⟨gb110, _, none⟩) ?_ (fun _ hk => hk) _)); exact Kd.R_mono HO_4.out (fun _ hk => hk.2)
                            clear BK110 HO_4 HB hcz68_0 hcz68_1 hcz68_2 hcz68_3 hfz68_0 hfz68_1 hfz68_2 hfz68_3
                            intro W22 hF_
                            obtain ⟨hz_, ho_, hb_⟩ := hF_
                            have zc0_ := (blk_cell hz_ 0).trans rfl
                            have zc1_ := (blk_cell hz_ 1).trans rfl
                            have zc2_ := (blk_cell hz_ 2).trans rfl
                            have zc3_ := (blk_cell hz_ 3).trans rfl
                            have zf1_ := blk_frozen hz_ 1
                            have zf3_ := blk_frozen hz_ 3
                            have BK110 := Aside0.mk hz_
                            have HO_4 := Aside0.mk ho_
                            have HB := Aside0.mk hb_
                            clear hz_ ho_ hb_
                            go_upto_region 23 with (fail)
                            refine Go.Proofs.YtipmmjbjgbfgjaaX.gen_world (fun W_ => W_.heap[gb110]? = some (.cells #[.int .i64 (10), .string (a0.extract (x5_1 : Int).toNat ((ji56) : Int).toNat), .int .i64 x5_1, .int .i64 (wrap64 ((ji56) - 1))] 57 (0, 0)) ∧ Kd.R k57 57 W_ w.heap.size (fun k_ => k_ ≠ gb110) u4 x4_1 ∧ Below w.heap.size w W_) ⟨(by refine blk_put (cs := #[.int .i64 (10), .string (a0.extract (x5_1 : Int).toNat ((ji56) : Int).toNat), .int .i64 x5_1, .int .i64 0]) ?_ 3 _ rfl; refine blk_put (cs := #[.int .i64 (10), .string (⟨#[]⟩ : ByteArray), .int .i64 x5_1, .int .i64 0]) ?_ 1 _ rfl; exact BK110.out), ?oo, (by repeat (first | (with_reducible first | exact HB.out | apply below_alloc | apply pw_below_drewN | apply below_drew1 | refine below_set ?_ GE110.out) | exact HB.out))⟩ ?_
                            case oo => (with_reducible repeat (first | apply Kd.R_alloc | apply Kd.R_drewN | apply Kd.R_drew | refine Kd.R_far (p := ⟨gb110, _, none⟩) ?_ (fun _ hk => hk) _)); exact HO_4.out
                            clear BK110 HO_4 HB zc0_ zc1_ zc2_ zc3_ zf1_ zf3_
                            intro W23 hF_
                            obtain ⟨hz_, ho_, hb_⟩ := hF_
                            have zc0_ := (blk_cell hz_ 0).trans rfl
                            have zc1_ := (blk_cell hz_ 1).trans rfl
                            have zc2_ := (blk_cell hz_ 2).trans rfl
                            have zc3_ := (blk_cell hz_ 3).trans rfl
                            have BK110 := Aside0.mk hz_
                            have HO_4 := Aside0.mk ho_
                            have HB := Aside0.mk hb_
                            clear hz_ ho_ hb_
                            go_wp2_with (first | ((with_reducible refine gate_builtin (b := .append) (xs := #[.tmp 85, .tmp 87]) rfl ?_); at_builtin; refine Kd.R_append k57 (w0 := w) w.heap.size rfl (.tmp 85) (.tmp 87) 52 57 (.agg #[(.int .i64 0), (.string ⟨#[]⟩), (.int .i64 0), (.int .i64 0)]) 40 rfl Try.underlying52 info57 rfl (by decide) (by omega) u4 x4_1 (⟨10, a0.extract (x5_1 : Int).toNat ((ji56) : Int).toNat, x5_1, wrap64 ((ji56) - 1)⟩ : S57) [.int .i64 10, .string (a0.extract (x5_1 : Int).toNat ((ji56) : Int).toNat), .int .i64 x5_1, .int .i64 (wrap64 ((ji56) - 1))] (fun k_ => k_ ≠ gb110) (fun _ => False) rfl (by first | (go_simp; done) | (go_simp; rfl)) ?aP (fun _ hk => hk.elim) ?aF ?aO ?aB ?aS ?aL ?_; (case aP => exact k57_mkM _ _ _ (⟨10, a0.extract (x5_1 : Int).toNat ((ji56) : Int).toNat, x5_1, wrap64 ((ji56) - 1)⟩ : S57)); (case aB => exact (by repeat (first | (with_reducible first | exact HB.out | apply below_alloc | apply pw_below_drewN | apply below_drew1 | refine below_set ?_ GE110.out) | exact HB.out))); (case aF => exact (fun k_ hk => Kd.freshB (g := gb110) (o := .cells #[.int .i64 (10), .string (a0.extract (x5_1 : Int).toNat ((ji56) : Int).toNat), .int .i64 x5_1, .int .i64 (wrap64 ((ji56) - 1))] 57 (0, 0)) (by (with_reducible repeat (first | refine blk_drewN ?_ _ | refine blk_drew ?_ | refine blk_alloc ?_ _)); exact BK110.out) k_ hk)); (case aO => exact (by (with_reducible repeat (first | apply Kd.R_alloc | apply Kd.R_drewN | apply Kd.R_drew)); exact HO_4.out)); (case aS => exact (below_size (by repeat (first | (with_reducible first | exact HB.out | apply below_alloc | apply pw_below_drewN | apply below_drew1 | refine below_set ?_ GE110.out) | exact HB.out)))); (case aL => have := LMc66.out; omega); intro v1_ w6_ ho hb hg hat; rw [← Ny124.out] at ho; have n1_ := Aside0.mk hb; have HO126 := Aside0.mk ho; clear BK110 HB HO_4 zc0_ zc1_ zc2_ zc3_; have HB := n1_; clear n1_ ho hb hg hat))
                            go_roundg k1
                            case measure => have := HK1.out; omega
                            case rel => exact ⟨(y124), (ji56), (by first | rfl | (simp; done) | (simp only [← hji56] <;> (first | rfl | simp)) | (simp [*]; done) | (simp [Go.Proofs.YtipmmjbjgbfgjaaX.isEmpty_ne]; done)), H', ⟨by have := HK1.out; omega⟩, ⟨by (with_reducible repeat (first | apply Kd.R_alloc | apply Kd.R_drewN | apply Kd.R_drew)); exact Kd.R_mono HO126.out (fun _ hk => trivial)⟩, ⟨by repeat (first | (with_reducible first | exact HB.out | apply below_alloc | apply pw_below_drewN | apply below_drew1 | refine below_set ?_ GE110.out) | exact HB.out)⟩⟩
                          · rw [if_neg c66] at H
                            exact absurd H (by simp)
                        · rw [if_neg c64] at H
                          exact absurd H (by simp)
                    · rw [if_neg c58] at H
                      exact absurd H (by simp)
                  · rw [if_neg c57] at H
                    exact absurd H (by simp)
                · rw [if_neg c52] at H
                  have c52b0 : decide (0 < t121) = false := decide_eq_false c52
                  clear c52
                  by_cases c70 : t109 = 0
                  · rw [if_pos c70] at H
                    have c70b0 : (t109 == 0) = true := beq_iff_eq.mpr c70
                    have c70b1 : (t109 != 0) = false := bne_eq_false_iff_eq.mpr c70
                    clear c70
                    simp only [Option.some.injEq, Prod.mk.injEq] at H
                    obtain ⟨rfl, rfl⟩ := H
                    have p4 : 0 ≤ (x5_1 : Int) := of_decide_eq_true (by first | (with_reducible assumption) | assumption)
                    have q4 : x5_1 < (a0.size : Int) := of_decide_eq_true (by first | (with_reducible assumption) | assumption)
                    have hx4 := bt_at a0 x5_1
                    replace p4 := eq_true p4
                    replace q4 := eq_true q4
                    go_wp2_with (first | ((with_reducible refine gate_callee (f := 76) rfl ?_); refine goesL_ (some 15) rfl rfl Try.func76 (by kernel_rfl) rfl #[.int .u8 (bt a0 x5_1)] rfl (by (try simp only [List.map_toArray, List.map_cons, List.map_nil]); first | done | rfl | (simp only [List.length_drop, List.length_take]; rfl)) ?_; (with_reducible refine (spec_signOf.calls (bt a0 x5_1) t109 _ A5.out).mono ?_); rintro e w' ⟨rfl, ⟨nd, rfl⟩⟩; refine ⟨_, rfl, ?_⟩; (try (rw [drewN_self wr]; generalize hq_ : World.drewN wr _ = wr; have n0_ : Aside0 (Kd.R k57 57 wr w.heap.size (fun _ => True) u4 x4_1) := ⟨by rw [← hq_]; exact (by (with_reducible repeat (first | apply Kd.R_alloc | apply Kd.R_drewN | apply Kd.R_drew)); exact HO_4.out)⟩; have n1_ : Aside0 (Below w.heap.size w wr) := ⟨by rw [← hq_]; exact (by repeat (first | (with_reducible first | exact HB.out | apply below_alloc | apply pw_below_drewN | apply below_drew1) | exact HB.out))⟩; clear HO_4 HB hq_; have HO_4 := n0_; have HB := n1_; clear n0_ n1_))) | ((with_reducible refine gate_dst (N := 7) rfl ?_); refine box_event ?hg (N := 7) ?hd (cs := #[.int .i64 0, .string (⟨#[]⟩ : ByteArray), .int .i64 0, .int .i64 0]) (t := 57) ?hr ?_; (case hd => rfl); (case hg => rfl); (case hr => first | (go_simp; done) | (go_simp; rfl)); intro gb110 hg w71 hbox hb; have n0_ := Aside0.mk (Kd.R_below (Kd.R_elderB (by (with_reducible repeat (first | apply Kd.R_alloc | apply Kd.R_drewN | apply Kd.R_drew)); exact HO_4.out) gb110 (Nat.le_of_eq hg.symm)) hb); have n1_ := Aside0.mk (below_step (by repeat (first | (with_reducible first | exact HB.out | apply below_alloc | apply pw_below_drewN | apply below_drew1) | exact HB.out)) hb); have n2_ := Aside0.mk (hbox); have n3_ := Aside0.mk ((by rw [hg]; exact (below_size (by repeat (first | (with_reducible first | exact HB.out | apply below_alloc | apply pw_below_drewN | apply below_drew1) | exact HB.out))) : w.heap.size ≤ gb110)); have n4_ := Aside0.mk ((by rw [hg]; exact (below_size (by repeat (first | (with_reducible first | exact HB.out | apply below_alloc | apply pw_below_drewN | apply below_drew1) | exact HB.out))) : w.heap.size ≤ gb110)); clear HO_4; clear HB; have HO_4 := n0_; have HB := n1_; have BK110 := n2_; have GW110 := n3_; have GE110 := n4_; clear n0_ n1_ n2_ n3_ n4_; clear hb hbox hg; have hcz72_0 : w71.cell? ⟨gb110, 0, none⟩ = some (.int .i64 0) := (blk_cell BK110.out 0).trans rfl; have hcz72_1 : w71.cell? ⟨gb110, 1, none⟩ = some (.string (⟨#[]⟩ : ByteArray)) := (blk_cell BK110.out 1).trans rfl; have hcz72_2 : w71.cell? ⟨gb110, 2, none⟩ = some (.int .i64 0) := (blk_cell BK110.out 2).trans rfl; have hcz72_3 : w71.cell? ⟨gb110, 3, none⟩ = some (.int .i64 0) := (blk_cell BK110.out 3).trans rfl; have hfz72_0 := blk_frozen BK110.out 0; have hfz72_1 := blk_frozen BK110.out 1; have hfz72_2 := blk_frozen BK110.out 2; have hfz72_3 := blk_frozen BK110.out 3; have p6 : 0 ≤ (x5_1 : Int) := of_decide_eq_true (by first | (with_reducible assumption) | assumption); have q6 : x5_1 < (a0.size : Int) := of_decide_eq_true (by first | (with_reducible assumption) | assumption); have hx6 := bt_at a0 x5_1; replace p6 := eq_true p6; replace q6 := eq_true q6) | ((with_reducible refine gate_callee (f := 77) rfl ?_); refine goesL_ (some 29) rfl rfl Try.func77 (by kernel_rfl) rfl #[.string (a0.extract (x5_1 : Int).toNat a0.size)] rfl (by (try simp only [List.map_toArray, List.map_cons, List.map_nil]); first | done | rfl | (simp only [List.length_drop, List.length_take]; rfl)) ?_; (with_reducible refine (spec_word.calls k1 (a0.extract (x5_1 : Int).toNat a0.size) t111 _ A12.out).mono ?_); rintro e w' ⟨rfl, ⟨nd, rfl⟩⟩; refine ⟨_, rfl, ?_⟩) | ((with_reducible refine gate_callee (f := 78) rfl ?_); refine goesL_ (some 55) rfl rfl Try.func78 (by kernel_rfl) rfl #[.string (a0.extract (x5_1 : Int).toNat a0.size)] rfl (by (try simp only [List.map_toArray, List.map_cons, List.map_nil]); first | done | rfl | (simp only [List.length_drop, List.length_take]; rfl)) ?_; (with_reducible refine (spec_number.calls k1 (a0.extract (x5_1 : Int).toNat a0.size) t121 _ A51.out).mono ?_); rintro e w' ⟨rfl, ⟨nd, rfl⟩⟩; refine ⟨_, rfl, ?_⟩))
                    go_ret2
                    exact ⟨_, by first | rfl | (simp [errW_none, errW_some] <;> rfl) | (simp [*, errW_none, errW_some] <;> rfl), by first | exact Kd.R_nil _ _ _ _ _ | exact Kd.N_nil _ _ _ _ _ | exact Kd.V_nil _ _ _ _ _ | exact Kd.Q_nil _ _ _ _ _ | exact Kd.S_nil _ _ _ _ _, by repeat (first | (with_reducible first | exact HB.out | apply below_alloc | apply pw_below_drewN | apply below_drew1 | refine below_set ?_ GE110.out) | exact HB.out)⟩
                  · rw [if_neg c70] at H
                    have c70b0 : (t109 == 0) = false := beq_eq_false_iff_ne.mpr c70
                    have c70b1 : (t109 != 0) = true := bne_iff_ne.mpr c70
                    have c73b0 := eq_true (of_decide_eq_true (by first | (with_reducible assumption) | assumption) : 0 ≤ x5_1)
                    by_cases c74 : x5_1 ≤ (wrap64 (x5_1 + 1))
                    · rw [if_pos c74] at H
                      have c74b0 := eq_true c74
                      have c74b1 : decide (x5_1 ≤ (wrap64 (x5_1 + 1))) = true := decide_eq_true c74
                      by_cases c75 : (wrap64 (x5_1 + 1)) ≤ (a0.size : Int)
                      · rw [if_pos c75] at H
                        have c75b0 := eq_true c75
                        have c75b1 : decide ((wrap64 (x5_1 + 1)) ≤ (a0.size : Int)) = true := decide_eq_true c75
                        by_cases c76 : x4_1.length < 3518437208883
                        · rw [if_pos c76] at H
                          have LMc76 := Aside0.mk c76
                          clear c76
                          obtain ⟨y127, hy127⟩ : ∃ y_ : List (S57), y_ = (x4_1 ++ [(⟨t109, a0.extract (x5_1 : Int).toNat ((wrap64 (x5_1 + 1)) : Int).toNat, x5_1, wrap64 ((wrap64 (x5_1 + 1)) - 1)⟩ : S57)]) := ⟨_, rfl⟩
                          replace H : (spec_Tokens.l0 k1 a0 y127 (wrap64 (x5_1 + 1))) = some (r1, r2) := by first | (rw [hy127]; with_reducible exact H) | (have H2_ := (Option.bind_some _ _).symm.trans H; rw [hy127]; with_reducible exact H2_) | (have H2_ := (Option.bind_some _ _).symm.trans H; with_reducible exact H2_) | with_reducible exact H | (rw [hy127]; exact H) | exact H
                          have Ny127 := Aside0.mk hy127
                          clear hy127
                          have H' := Aside0.mk H
                          clear H
                          have p4 : 0 ≤ (x5_1 : Int) := of_decide_eq_true (by first | (with_reducible assumption) | assumption)
                          have q4 : x5_1 < (a0.size : Int) := of_decide_eq_true (by first | (with_reducible assumption) | assumption)
                          have hx4 := bt_at a0 x5_1
                          replace p4 := eq_true p4
                          replace q4 := eq_true q4
                          go_upto_region 22 with (first | ((with_reducible refine gate_callee (f := 76) rfl ?_); refine goesL_ (some 15) rfl rfl Try.func76 (by kernel_rfl) rfl #[.int .u8 (bt a0 x5_1)] rfl (by (try simp only [List.map_toArray, List.map_cons, List.map_nil]); first | done | rfl | (simp only [List.length_drop, List.length_take]; rfl)) ?_; (with_reducible refine (spec_signOf.calls (bt a0 x5_1) t109 _ A5.out).mono ?_); rintro e w' ⟨rfl, ⟨nd, rfl⟩⟩; refine ⟨_, rfl, ?_⟩; (try (rw [drewN_self wr]; generalize hq_ : World.drewN wr _ = wr; have n0_ : Aside0 (Kd.R k57 57 wr w.heap.size (fun _ => True) u4 x4_1) := ⟨by rw [← hq_]; exact (by (with_reducible repeat (first | apply Kd.R_alloc | apply Kd.R_drewN | apply Kd.R_drew)); exact HO_4.out)⟩; have n1_ : Aside0 (Below w.heap.size w wr) := ⟨by rw [← hq_]; exact (by repeat (first | (with_reducible first | exact HB.out | apply below_alloc | apply pw_below_drewN | apply below_drew1) | exact HB.out))⟩; clear HO_4 HB hq_; have HO_4 := n0_; have HB := n1_; clear n0_ n1_))) | ((with_reducible refine gate_dst (N := 7) rfl ?_); refine box_event ?hg (N := 7) ?hd (cs := #[.int .i64 0, .string (⟨#[]⟩ : ByteArray), .int .i64 0, .int .i64 0]) (t := 57) ?hr ?_; (case hd => rfl); (case hg => rfl); (case hr => first | (go_simp; done) | (go_simp; rfl)); intro gb110 hg w77 hbox hb; have n0_ := Aside0.mk (Kd.R_below (Kd.R_elderB (by (with_reducible repeat (first | apply Kd.R_alloc | apply Kd.R_drewN | apply Kd.R_drew)); exact HO_4.out) gb110 (Nat.le_of_eq hg.symm)) hb); have n1_ := Aside0.mk (below_step (by repeat (first | (with_reducible first | exact HB.out | apply below_alloc | apply pw_below_drewN | apply below_drew1) | exact HB.out)) hb); have n2_ := Aside0.mk (hbox); have n3_ := Aside0.mk ((by rw [hg]; exact (below_size (by repeat (first | (with_reducible first | exact HB.out | apply below_alloc | apply pw_below_drewN | apply below_drew1) | exact HB.out))) : w.heap.size ≤ gb110)); have n4_ := Aside0.mk ((by rw [hg]; exact (below_size (by repeat (first | (with_reducible first | exact HB.out | apply below_alloc | apply pw_below_drewN | apply below_drew1) | exact HB.out))) : w.heap.size ≤ gb110)); clear HO_4; clear HB; have HO_4 := n0_; have HB := n1_; have BK110 := n2_; have GW110 := n3_; have GE110 := n4_; clear n0_ n1_ n2_ n3_ n4_; clear hb hbox hg; have hcz78_0 : w77.cell? ⟨gb110, 0, none⟩ = some (.int .i64 0) := (blk_cell BK110.out 0).trans rfl; have hcz78_1 : w77.cell? ⟨gb110, 1, none⟩ = some (.string (⟨#[]⟩ : ByteArray)) := (blk_cell BK110.out 1).trans rfl; have hcz78_2 : w77.cell? ⟨gb110, 2, none⟩ = some (.int .i64 0) := (blk_cell BK110.out 2).trans rfl; have hcz78_3 : w77.cell? ⟨gb110, 3, none⟩ = some (.int .i64 0) := (blk_cell BK110.out 3).trans rfl; have hfz78_0 := blk_frozen BK110.out 0; have hfz78_1 := blk_frozen BK110.out 1; have hfz78_2 := blk_frozen BK110.out 2; have hfz78_3 := blk_frozen BK110.out 3; have p6 : 0 ≤ (x5_1 : Int) := of_decide_eq_true (by first | (with_reducible assumption) | assumption); have q6 : x5_1 < (a0.size : Int) := of_decide_eq_true (by first | (with_reducible assumption) | assumption); have hx6 := bt_at a0 x5_1; replace p6 := eq_true p6; replace q6 := eq_true q6) | ((with_reducible refine gate_callee (f := 77) rfl ?_); refine goesL_ (some 29) rfl rfl Try.func77 (by kernel_rfl) rfl #[.string (a0.extract (x5_1 : Int).toNat a0.size)] rfl (by (try simp only [List.map_toArray, List.map_cons, List.map_nil]); first | done | rfl | (simp only [List.length_drop, List.length_take]; rfl)) ?_; (with_reducible refine (spec_word.calls k1 (a0.extract (x5_1 : Int).toNat a0.size) t111 _ A12.out).mono ?_); rintro e w' ⟨rfl, ⟨nd, rfl⟩⟩; refine ⟨_, rfl, ?_⟩) | ((with_reducible refine gate_callee (f := 78) rfl ?_); refine goesL_ (some 55) rfl rfl Try.func78 (by kernel_rfl) rfl #[.string (a0.extract (x5_1 : Int).toNat a0.size)] rfl (by (try simp only [List.map_toArray, List.map_cons, List.map_nil]); first | done | rfl | (simp only [List.length_drop, List.length_take]; rfl)) ?_; (with_reducible refine (spec_number.calls k1 (a0.extract (x5_1 : Int).toNat a0.size) t121 _ A51.out).mono ?_); rintro e w' ⟨rfl, ⟨nd, rfl⟩⟩; refine ⟨_, rfl, ?_⟩))
                          refine Go.Proofs.YtipmmjbjgbfgjaaX.gen_world (fun W_ => W_.heap[gb110]? = some (.cells #[.int .i64 (t109), .string (⟨#[]⟩ : ByteArray), .int .i64 x5_1, .int .i64 0] 57 (0, 0)) ∧ Kd.R k57 57 W_ w.heap.size (fun k_ => k_ ≠ gb110) u4 x4_1 ∧ Below w.heap.size w W_) ⟨(by (with_reducible repeat (first | refine blk_drewN ?_ _ | refine blk_drew ?_ | refine blk_alloc ?_ _)); refine blk_put (cs := #[.int .i64 t109, .string (⟨#[]⟩ : ByteArray), .int .i64 x5_1, .int .i64 0]) ?_ 3 _ rfl; (with_reducible repeat (first | refine blk_drewN ?_ _ | refine blk_drew ?_ | refine blk_alloc ?_ _)); refine blk_put (cs := #[.int .i64 t109, .string (⟨#[]⟩ : ByteArray), .int .i64 0, .int .i64 0]) ?_ 2 _ rfl; (with_reducible repeat (first | refine blk_drewN ?_ _ | refine blk_drew ?_ | refine blk_alloc ?_ _)); refine blk_put (cs := #[.int .i64 t109, .string (⟨#[]⟩ : ByteArray), .int .i64 0, .int .i64 0]) ?_ 1 _ rfl; (with_reducible repeat (first | refine blk_drewN ?_ _ | refine blk_drew ?_ | refine blk_alloc ?_ _)); refine blk_put (cs := #[.int .i64 0, .string (⟨#[]⟩ : ByteArray), .int .i64 0, .int .i64 0]) ?_ 0 _ rfl; (with_reducible repeat (first | refine blk_drewN ?_ _ | refine blk_drew ?_ | refine blk_alloc ?_ _)); exact BK110.out), ?oo, (by repeat (first | (with_reducible first | exact HB.out | apply below_alloc | apply pw_below_drewN | apply below_drew1 | refine below_set ?_ GE110.out) | exact HB.out))⟩ ?_
                          case oo => (with_reducible repeat (first | apply Kd.R_alloc | apply Kd.R_drewN | apply Kd.R_drew | refine Kd.R_far (p := ⟨gb110, _, none⟩) ?_ (fun _ hk => hk) _)); exact Kd.R_mono HO_4.out (fun _ hk => hk.2)
                          clear BK110 HO_4 HB hcz78_0 hcz78_1 hcz78_2 hcz78_3 hfz78_0 hfz78_1 hfz78_2 hfz78_3
                          intro W22 hF_
                          obtain ⟨hz_, ho_, hb_⟩ := hF_
                          have zc0_ := (blk_cell hz_ 0).trans rfl
                          have zc1_ := (blk_cell hz_ 1).trans rfl
                          have zc2_ := (blk_cell hz_ 2).trans rfl
                          have zc3_ := (blk_cell hz_ 3).trans rfl
                          have zf1_ := blk_frozen hz_ 1
                          have zf3_ := blk_frozen hz_ 3
                          have BK110 := Aside0.mk hz_
                          have HO_4 := Aside0.mk ho_
                          have HB := Aside0.mk hb_
                          clear hz_ ho_ hb_
                          go_upto_region 23 with (fail)
                          refine Go.Proofs.YtipmmjbjgbfgjaaX.gen_world (fun W_ => W_.heap[gb110]? = some (.cells #[.int .i64 (t109), .string (a0.extract (x5_1 : Int).toNat ((wrap64 (x5_1 + 1)) : Int).toNat), .int .i64 x5_1, .int .i64 (wrap64 ((wrap64 (x5_1 + 1)) - 1))] 57 (0, 0)) ∧ Kd.R k57 57 W_ w.heap.size (fun k_ => k_ ≠ gb110) u4 x4_1 ∧ Below w.heap.size w W_) ⟨(by refine blk_put (cs := #[.int .i64 (t109), .string (a0.extract (x5_1 : Int).toNat ((wrap64 (x5_1 + 1)) : Int).toNat), .int .i64 x5_1, .int .i64 0]) ?_ 3 _ rfl; refine blk_put (cs := #[.int .i64 (t109), .string (⟨#[]⟩ : ByteArray), .int .i64 x5_1, .int .i64 0]) ?_ 1 _ rfl; exact BK110.out), ?oo, (by repeat (first | (with_reducible first | exact HB.out | apply below_alloc | apply pw_below_drewN | apply below_drew1 | refine below_set ?_ GE110.out) | exact HB.out))⟩ ?_
                          case oo => (with_reducible repeat (first | apply Kd.R_alloc | apply Kd.R_drewN | apply Kd.R_drew | refine Kd.R_far (p := ⟨gb110, _, none⟩) ?_ (fun _ hk => hk) _)); exact HO_4.out
                          clear BK110 HO_4 HB zc0_ zc1_ zc2_ zc3_ zf1_ zf3_
                          intro W23 hF_
                          obtain ⟨hz_, ho_, hb_⟩ := hF_
                          have zc0_ := (blk_cell hz_ 0).trans rfl
                          have zc1_ := (blk_cell hz_ 1).trans rfl
                          have zc2_ := (blk_cell hz_ 2).trans rfl
                          have zc3_ := (blk_cell hz_ 3).trans rfl
                          have BK110 := Aside0.mk hz_
                          have HO_4 := Aside0.mk ho_
                          have HB := Aside0.mk hb_
                          clear hz_ ho_ hb_
                          go_wp2_with (first | ((with_reducible refine gate_builtin (b := .append) (xs := #[.tmp 85, .tmp 87]) rfl ?_); at_builtin; refine Kd.R_append k57 (w0 := w) w.heap.size rfl (.tmp 85) (.tmp 87) 52 57 (.agg #[(.int .i64 0), (.string ⟨#[]⟩), (.int .i64 0), (.int .i64 0)]) 40 rfl Try.underlying52 info57 rfl (by decide) (by omega) u4 x4_1 (⟨t109, a0.extract (x5_1 : Int).toNat ((wrap64 (x5_1 + 1)) : Int).toNat, x5_1, wrap64 ((wrap64 (x5_1 + 1)) - 1)⟩ : S57) [.int .i64 t109, .string (a0.extract (x5_1 : Int).toNat ((wrap64 (x5_1 + 1)) : Int).toNat), .int .i64 x5_1, .int .i64 (wrap64 ((wrap64 (x5_1 + 1)) - 1))] (fun k_ => k_ ≠ gb110) (fun _ => False) rfl (by first | (go_simp; done) | (go_simp; rfl)) ?aP (fun _ hk => hk.elim) ?aF ?aO ?aB ?aS ?aL ?_; (case aP => exact k57_mkM _ _ _ (⟨t109, a0.extract (x5_1 : Int).toNat ((wrap64 (x5_1 + 1)) : Int).toNat, x5_1, wrap64 ((wrap64 (x5_1 + 1)) - 1)⟩ : S57)); (case aB => exact (by repeat (first | (with_reducible first | exact HB.out | apply below_alloc | apply pw_below_drewN | apply below_drew1 | refine below_set ?_ GE110.out) | exact HB.out))); (case aF => exact (fun k_ hk => Kd.freshB (g := gb110) (o := .cells #[.int .i64 (t109), .string (a0.extract (x5_1 : Int).toNat ((wrap64 (x5_1 + 1)) : Int).toNat), .int .i64 x5_1, .int .i64 (wrap64 ((wrap64 (x5_1 + 1)) - 1))] 57 (0, 0)) (by (with_reducible repeat (first | refine blk_drewN ?_ _ | refine blk_drew ?_ | refine blk_alloc ?_ _)); exact BK110.out) k_ hk)); (case aO => exact (by (with_reducible repeat (first | apply Kd.R_alloc | apply Kd.R_drewN | apply Kd.R_drew)); exact HO_4.out)); (case aS => exact (below_size (by repeat (first | (with_reducible first | exact HB.out | apply below_alloc | apply pw_below_drewN | apply below_drew1 | refine below_set ?_ GE110.out) | exact HB.out)))); (case aL => have := LMc76.out; omega); intro v1_ w6_ ho hb hg hat; rw [← Ny127.out] at ho; have n1_ := Aside0.mk hb; have HO129 := Aside0.mk ho; clear BK110 HB HO_4 zc0_ zc1_ zc2_ zc3_; have HB := n1_; clear n1_ ho hb hg hat))
                          go_roundg k1
                          case measure => have := HK1.out; omega
                          case rel => exact ⟨(y127), (wrap64 (x5_1 + 1)), (by first | rfl | (simp; done) | (simp [*]; done) | (simp [Go.Proofs.YtipmmjbjgbfgjaaX.isEmpty_ne]; done)), H', ⟨by have := HK1.out; omega⟩, ⟨by (with_reducible repeat (first | apply Kd.R_alloc | apply Kd.R_drewN | apply Kd.R_drew)); exact Kd.R_mono HO129.out (fun _ hk => trivial)⟩, ⟨by repeat (first | (with_reducible first | exact HB.out | apply below_alloc | apply pw_below_drewN | apply below_drew1 | refine below_set ?_ GE110.out) | exact HB.out)⟩⟩
                        · rw [if_neg c76] at H
                          exact absurd H (by simp)
                      · rw [if_neg c75] at H
                        exact absurd H (by simp)
                    · rw [if_neg c74] at H
                      exact absurd H (by simp)
            · rw [if_neg c11] at H
              exact absurd H (by simp)
        · rw [if_neg c3] at H
          exact absurd H (by simp)
      · rw [if_neg c2] at H
        have c2b0 : decide (x5_1 < (a0.size : Int)) = false := decide_eq_false c2
        clear c2
        simp only [Option.some.injEq, Prod.mk.injEq] at H
        obtain ⟨rfl, rfl⟩ := H
        go_wp2
        go_ret2
        exact ⟨_, by first | rfl | (simp [errW_none, errW_some] <;> rfl) | (simp [*, errW_none, errW_some] <;> rfl), by (with_reducible repeat (first | apply Kd.R_alloc | apply Kd.R_drewN | apply Kd.R_drew)); exact HO_4.out, by repeat (first | (with_reducible first | exact HB.out | apply below_alloc | apply pw_below_drewN | apply below_drew1) | exact HB.out)⟩

end Go.Proofs.Ytipmmjbjgbfgjaa.Q
