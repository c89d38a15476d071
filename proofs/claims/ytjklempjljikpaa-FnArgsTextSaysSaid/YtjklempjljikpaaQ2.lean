import Derived.Test.YtjklempjljikpaaIdxB
import Derived.Test.YtjklempjljikpaaQ0
-- Written by a program of this session out of the translation, with the kit's printer. Not trusted: Lean checks it.
namespace Go.Proofs.Ytjklempjljikpaa.Q
open Go.RowKit Go.Proofs.YtjklempjljikpaaW.PrintWords Go.Proofs.YtjklempjljikpaaW.PrintLast Go.Proofs.YtjklempjljikpaaW.PrintMore
attribute [local go_sem] max2_int min2_int max_two min_two max_three min_three max_four min_four   -- for this text's walks alone
set_option linter.unusedVariables false
set_option linter.unusedSimpArgs false

/-! ### laws_short: function 14 -/
def laws_short.l0 : Nat → List ByteArray → List ByteArray → Int → Int → Option (Bool)
  | 0, _, _, _, _ => none
  | k + 1, x0, x5, x6, x7 => if x7 < x6 then (if 0 ≤ x7 then (if x7 < (x5.length : Int) then (if ((rdOf ByteArray.empty x5 x7).size : Int) > 2000 then (some false) else (laws_short.l0 k x0 x5 x6 (wrap64 (x7 + 1)))) else (none)) else (none)) else (some (decide ((x0.length : Int) ≤ 60)))
def laws_short.f (k : Nat) (l0 : List ByteArray) : Option (Bool) := laws_short.l0 k l0 l0 (l0.length : Int) 0
theorem laws_short.mono_l : ∀ k, (∀ y0 y1 y2 y3, LeO (laws_short.l0 k y0 y1 y2 y3) (laws_short.l0 (k + 1) y0 y1 y2 y3))
  | 0 => fun _ _ _ _ r h => by simp [laws_short.l0] at h
  | k + 1 => by
    have ih0 := laws_short.mono_l k
    · intro y0 y1 y2 y3
      unfold laws_short.l0
      repeat' first
      | (with_reducible exact ih0 _ _ _ _)
      | (with_reducible exact LeO.refl _)
      | (with_reducible exact LeO.none _)
      | (with_reducible refine LeO.ite ?_ ?_)
      | (with_reducible refine LeO.bind ?_ (fun _ => ?_))
      | exact ih0 _ _ _ _
      | exact LeO.none _
      | refine LeO.ite ?_ ?_
      | refine LeO.bind ?_ (fun _ => ?_)
theorem laws_short.mono : ∀ a0 k, LeO (laws_short.f k a0) (laws_short.f (k + 1) a0) := by
  intro a0 k
  have ih0 := laws_short.mono_l k
  unfold laws_short.f
  repeat' first
      | (with_reducible exact ih0 _ _ _ _)
      | (with_reducible exact LeO.refl _)
      | (with_reducible exact LeO.none _)
      | (with_reducible refine LeO.ite ?_ ?_)
      | (with_reducible refine LeO.bind ?_ (fun _ => ?_))
      | exact ih0 _ _ _ _
      | exact LeO.none _
      | refine LeO.ite ?_ ?_
      | refine LeO.bind ?_ (fun _ => ?_)
set_option maxHeartbeats 8000000 in
set_option maxRecDepth 100000 in
theorem laws_short.calls (k : Nat) (A0 : Option Addr) (c0 : Nat) (l0 : List ByteArray) (r : Bool) (w : World) (hr0 : Kd.C Kd.string w A0 l0.length l0) (hc0 : l0.length ≤ c0) (h : laws_short.f k l0 = some r) :
    Calls Try.prog 14 #[.slice A0 l0.length c0] w fun e w' => e = .returned (.bool r) ∧ Drawn0 w w' := by
  have HR0 := Aside0.mk hr0
  have HC0 := Aside0.mk hc0
  clear hr0 hc0
  have H : (laws_short.l0 k l0 l0 (l0.length : Int) 0) = some r := h
  clear h
  have H' := Aside0.mk H
  clear H
  go_enter Try.func14, Try.ntmps14
  go_wp2
  go_loopg [7] k (fun kq v7 w' => ∃ (x7_1 : Int), v7 = .int .i64 x7_1 ∧ Aside0 (laws_short.l0 kq l0 l0 (l0.length : Int) x7_1 = some r) ∧ Aside0 (kq ≤ k) ∧ Drawn0 w w')
  case atStart => exact ⟨(0), (by first | rfl | (simp; done) | (simp [*]; done) | (simp [Go.Proofs.YtjklempjljikpaaX.isEmpty_ne]; done)), H', ⟨Nat.le_refl _⟩, by repeat (first | exact Drawn0.refl _ | apply Drawn0.step)⟩
  case round =>
    clear H'
    try clear c1
    obtain ⟨x7_1, rfl, HA, HK1, ⟨m1, rfl⟩⟩ := hrel
    cases gk with
    | zero => exact absurd HA.out (by simp [laws_short.l0])
    | succ k1 =>
      have H := HA.out
      clear HA
      simp only [laws_short.l0] at H
      by_cases c2 : x7_1 < (l0.length : Int)
      · rw [if_pos c2] at H
        have c2b0 : decide (x7_1 < (l0.length : Int)) = true := decide_eq_true c2
        clear c2
        by_cases c3 : 0 ≤ x7_1
        · rw [if_pos c3] at H
          have c3b0 : decide (0 ≤ x7_1) = true := decide_eq_true c3
          clear c3
          by_cases c4 : x7_1 < (l0.length : Int)
          · rw [if_pos c4] at H
            have c4b0 : decide (x7_1 < (l0.length : Int)) = true := decide_eq_true c4
            clear c4
            by_cases c5 : ((rdOf ByteArray.empty l0 x7_1).size : Int) > 2000
            · rw [if_pos c5] at H
              have c5b0 : decide (2000 < ((rdOf ByteArray.empty l0 x7_1).size : Int)) = true := decide_eq_true c5
              have c5b1 : decide (2000 < (rdOf ByteArray.empty l0 x7_1).size) = true := decide_eq_true (by omega)
              clear c5
              obtain rfl := Option.some.inj H
              have p101 : 0 ≤ (x7_1 : Int) := of_decide_eq_true (by first | (with_reducible assumption) | assumption)
              have q101 : x7_1 < (l0.length : Int) := of_decide_eq_true (by first | (with_reducible assumption) | assumption)
              obtain ⟨ad101, e101, hx101_0⟩ := Kd.at_string HR0.out x7_1 p101 q101
              cases e101
              replace p101 := eq_true p101
              replace q101 := eq_true q101
              go_wp2
              go_ret
              exact ⟨by first | rfl | (simp; done) | (simp [*]; done) | (simp [Go.Proofs.YtjklempjljikpaaX.isEmpty_ne]; done), by repeat (first | exact Drawn0.refl _ | apply Drawn0.step)⟩
            · rw [if_neg c5] at H
              have c5b0 : decide (2000 < ((rdOf ByteArray.empty l0 x7_1).size : Int)) = false := decide_eq_false c5
              have c5b1 : decide (2000 < (rdOf ByteArray.empty l0 x7_1).size) = false := decide_eq_false (by omega)
              clear c5
              have H' := Aside0.mk H
              clear H
              have p101 : 0 ≤ (x7_1 : Int) := of_decide_eq_true (by first | (with_reducible assumption) | assumption)
              have q101 : x7_1 < (l0.length : Int) := of_decide_eq_true (by first | (with_reducible assumption) | assumption)
              obtain ⟨ad101, e101, hx101_0⟩ := Kd.at_string HR0.out x7_1 p101 q101
              cases e101
              replace p101 := eq_true p101
              replace q101 := eq_true q101
              go_wp2
              go_roundg k1
              case measure => have := HK1.out; omega
              case rel => exact ⟨(wrap64 (x7_1 + 1)), (by first | rfl | (simp; done) | (simp [*]; done) | (simp [Go.Proofs.YtjklempjljikpaaX.isEmpty_ne]; done)), H', ⟨by have := HK1.out; omega⟩, by repeat (first | exact Drawn0.refl _ | apply Drawn0.step)⟩
          · rw [if_neg c4] at H
            exact absurd H (by simp)
        · rw [if_neg c3] at H
          exact absurd H (by simp)
      · rw [if_neg c2] at H
        have c2b0 : decide (x7_1 < (l0.length : Int)) = false := decide_eq_false c2
        clear c2
        obtain rfl := Option.some.inj H
        go_wp2
        go_ret
        exact ⟨by first | rfl | (simp; done) | (simp [*]; done) | (simp [Go.Proofs.YtjklempjljikpaaX.isEmpty_ne]; done), by repeat (first | exact Drawn0.refl _ | apply Drawn0.step)⟩

-- NOT PRINTED: function 50 (hertzproto_Args_Reset)

-- NOT PRINTED: function 51 (hertzproto_allocArg)

-- NOT PRINTED: function 74 (bytealg_IndexByte)

/-! ### bytes_IndexByte: function 70 -/
-- USES IdxB
def bytes_IndexByte.f (l0 : List Int) (a1 : Int) : Option (Int) := some (Lib.indexByte (Lib.bytesOf l0) a1.toNat.toUInt8)
set_option maxHeartbeats 8000000 in
set_option maxRecDepth 100000 in
theorem bytes_IndexByte.calls (A0 : Option Addr) (c0 : Nat) (l0 : List Int) (a1 : Int) (r : Int) (w : World) (hr0 : Kd.C (Kd.int .u8) w A0 l0.length l0) (hc0 : l0.length ≤ c0) (h : bytes_IndexByte.f l0 a1 = some r) :
    Calls Try.prog 70 #[.slice A0 l0.length c0, .int .u8 a1] w fun e w' => e = .returned (.int .i64 r) ∧ Drawn0 w w' := by
  obtain rfl := Option.some.inj h
  have HR := Aside0.mk hr0
  clear hr0 h
  go_enter Try.func70, Try.ntmps70
  go_wp2
  rw [run_callFunc_extern Try.func74 (by kernel_rfl) (by kernel_rfl) (by kernel_rfl) (e := Extern.BytealgIndexByte.indexByte) (by kernel_rfl), Go.Proofs.YtjklempjljikpaaX.run_idxb A0 c0 l0 HR.out a1]
  simp only [Result.andThen]
  rw [Oper.upon_value]
  go_wp2
  go_ret
  exact ⟨rfl, Drawn0.refl _⟩

end Go.Proofs.Ytjklempjljikpaa.Q

-- Written by a program of this session out of the translation, with the kit's printer. Not trusted: Lean checks it.
namespace Go.Proofs.Ytjklempjljikpaa.Q
open Go.RowKit Go.Proofs.YtjklempjljikpaaW.PrintWords Go.Proofs.YtjklempjljikpaaW.PrintLast Go.Proofs.YtjklempjljikpaaW.PrintMore
attribute [local go_sem] max2_int min2_int max_two min_two max_three min_three max_four min_four   -- for this text's walks alone
set_option linter.unusedVariables false
set_option linter.unusedSimpArgs false

/-! ### hertzproto_decodeArgAppend: function 67 -/
mutual
def hertzproto_decodeArgAppend.j0 : Nat → List Int → List Int → Bool → Option (List Int)
  | 0, _, _, _ => none
  | k + 1, x0, x1, x16 => if x16 = true then (if x0.length + x1.length < 140737488355328 then (some (x0 ++ x1)) else (none)) else (hertzproto_decodeArgAppend.l0 k x0 x1 0)
def hertzproto_decodeArgAppend.l0 : Nat → List Int → List Int → Int → Option (List Int)
  | 0, _, _, _ => none
  | k + 1, x0, x1, x5 => if x5 < (x1.length : Int) then (if 0 ≤ x5 then (if (rd x1 x5) = 37 then (if (wrap64 (x5 + 2)) ≥ (x1.length : Int) then (if x5 ≤ (x1.length : Int) then ((some (x1.drop (x5 : Int).toNat : List Int)).bind fun y108 => (if x0.length + y108.length < 140737488355328 then (some (x0 ++ y108)) else (none))) else (none)) else (if 0 ≤ (wrap64 (x5 + 2)) then (if (wrap64 (x5 + 2)) < (x1.length : Int) then (if 0 ≤ (rd x1 (wrap64 (x5 + 2))) then (if (rd x1 (wrap64 (x5 + 2))) < (tab1.size : Int) then (if 0 ≤ (wrap64 (x5 + 1)) then (if (wrap64 (x5 + 1)) < (x1.length : Int) then (if 0 ≤ (rd x1 (wrap64 (x5 + 1))) then (if (rd x1 (wrap64 (x5 + 1))) < (tab1.size : Int) then (if (bt tab1 (rd x1 (wrap64 (x5 + 1)))) = 16 then (if x0.length < 140737488355328 then (hertzproto_decodeArgAppend.l0 k (x0 ++ [37]) x1 (wrap64 (x5 + 1))) else (none)) else (if (bt tab1 (rd x1 (wrap64 (x5 + 2)))) = 16 then (if x0.length < 140737488355328 then (hertzproto_decodeArgAppend.l0 k (x0 ++ [37]) x1 (wrap64 (x5 + 1))) else (none)) else (if x0.length < 140737488355328 then (hertzproto_decodeArgAppend.l0 k (x0 ++ [Go.bits .or .u8 (((bt tab1 (rd x1 (wrap64 (x5 + 1)))) * 16) % 256) (bt tab1 (rd x1 (wrap64 (x5 + 2))))]) x1 (wrap64 ((wrap64 (x5 + 2)) + 1))) else (none)))) else (none)) else (none)) else (none)) else (none)) else (none)) else (none)) else (none)) else (none))) else (if (rd x1 x5) = 43 then (if x0.length < 140737488355328 then (hertzproto_decodeArgAppend.l0 k (x0 ++ [32]) x1 (wrap64 (x5 + 1))) else (none)) else (if x0.length < 140737488355328 then (hertzproto_decodeArgAppend.l0 k (x0 ++ [rd x1 x5]) x1 (wrap64 (x5 + 1))) else (none)))) else (none)) else (some x0)
end
def hertzproto_decodeArgAppend.f (k : Nat) (l0 : List Int) (l1 : List Int) : Option (List Int) := (bytes_IndexByte.f l1 37).bind fun t102 => (if t102 < 0 then ((bytes_IndexByte.f l1 43).bind fun t103 => (hertzproto_decodeArgAppend.j0 k l0 l1 (decide (t103 < 0)))) else (hertzproto_decodeArgAppend.j0 k l0 l1 false))
theorem hertzproto_decodeArgAppend.mono_l : ∀ k, (∀ y0 y1 y2, LeO (hertzproto_decodeArgAppend.j0 k y0 y1 y2) (hertzproto_decodeArgAppend.j0 (k + 1) y0 y1 y2)) ∧ (∀ y0 y1 y2, LeO (hertzproto_decodeArgAppend.l0 k y0 y1 y2) (hertzproto_decodeArgAppend.l0 (k + 1) y0 y1 y2))
  | 0 => ⟨fun _ _ _ r h => by simp [hertzproto_decodeArgAppend.j0] at h, fun _ _ _ r h => by simp [hertzproto_decodeArgAppend.l0] at h⟩
  | k + 1 => by
    obtain ⟨ih0, ih1⟩ := hertzproto_decodeArgAppend.mono_l k
    refine ⟨?_, ?_⟩
    · intro y0 y1 y2
      unfold hertzproto_decodeArgAppend.j0
      repeat' first
      | (with_reducible exact ih0 _ _ _)
      | (with_reducible exact ih1 _ _ _)
      | (with_reducible exact LeO.refl _)
      | (with_reducible exact LeO.none _)
      | (with_reducible refine LeO.ite ?_ ?_)
      | (with_reducible refine LeO.bind ?_ (fun _ => ?_))
      | exact ih0 _ _ _
      | exact ih1 _ _ _
      | exact LeO.none _
      | refine LeO.ite ?_ ?_
      | refine LeO.bind ?_ (fun _ => ?_)
    · intro y0 y1 y2
      unfold hertzproto_decodeArgAppend.l0
      repeat' first
      | (with_reducible exact ih0 _ _ _)
      | (with_reducible exact ih1 _ _ _)
      | (with_reducible exact LeO.refl _)
      | (with_reducible exact LeO.none _)
      | (with_reducible refine LeO.ite ?_ ?_)
      | (with_reducible refine LeO.bind ?_ (fun _ => ?_))
      | exact ih0 _ _ _
      | exact ih1 _ _ _
      | exact LeO.none _
      | refine LeO.ite ?_ ?_
      | refine LeO.bind ?_ (fun _ => ?_)
theorem hertzproto_decodeArgAppend.mono : ∀ a0 a1 k, LeO (hertzproto_decodeArgAppend.f k a0 a1) (hertzproto_decodeArgAppend.f (k + 1) a0 a1) := by
  intro a0 a1 k
  obtain ⟨ih0, ih1⟩ := hertzproto_decodeArgAppend.mono_l k
  unfold hertzproto_decodeArgAppend.f
  repeat' first
      | (with_reducible exact ih0 _ _ _)
      | (with_reducible exact ih1 _ _ _)
      | (with_reducible exact LeO.refl _)
      | (with_reducible exact LeO.none _)
      | (with_reducible refine LeO.ite ?_ ?_)
      | (with_reducible refine LeO.bind ?_ (fun _ => ?_))
      | exact ih0 _ _ _
      | exact ih1 _ _ _
      | exact LeO.none _
      | refine LeO.ite ?_ ?_
      | refine LeO.bind ?_ (fun _ => ?_)
set_option maxHeartbeats 8000000 in
set_option maxRecDepth 100000 in
theorem hertzproto_decodeArgAppend.calls (k : Nat) (P0_ : Nat → Prop) (u9000_ : Value) (l0 : List Int) (A1 : Option Addr) (c1 : Nat) (l1 : List Int) (r : List Int) (w0 w : World) (hB : Below w0.heap.size w0 w) (ho0 : Kd.R (Kd.int .u8) 5 w w0.heap.size P0_ u9000_ l0) (hr1 : ∀ W_, Kept w W_ (fun k_ => P0_ k_) → Kd.C (Kd.int .u8) W_ A1 l1.length l1) (hc1 : l1.length ≤ c1) (h : hertzproto_decodeArgAppend.f k l0 l1 = some r) :
    Calls Try.prog 67 #[u9000_, .slice A1 l1.length c1] w fun e w' => ∃ v0_ : Value, e = .returned (v0_) ∧ Kd.R (Kd.int .u8) 5 w' w0.heap.size (fun k_ => (P0_ k_ ∨ w.heap.size ≤ k_)) v0_ r ∧ Below w0.heap.size w0 w' ∧ Kept w w' (fun k_ => P0_ k_) := by
  have HO0 := Aside0.mk (show Kd.R (Kd.int .u8) 5 w w0.heap.size (fun k_ => (P0_ k_ ∨ w.heap.size ≤ k_)) u9000_ l0 from Kd.R_mono ho0 (fun k_ hk => (.inl hk)))
  have HR1 := Aside0.mk hr1
  have HC1 := Aside0.mk hc1
  clear hr1 hc1
  have HK := Aside0.mk (Kept.refl w (fun k_ => P0_ k_))
  have HW0 := Aside0.mk hB.size
  have HB := Aside0.mk hB
  clear hB
  have H : ((bytes_IndexByte.f l1 37).bind fun t102 => (if t102 < 0 then ((bytes_IndexByte.f l1 43).bind fun t103 => (hertzproto_decodeArgAppend.j0 k l0 l1 (decide (t103 < 0)))) else (hertzproto_decodeArgAppend.j0 k l0 l1 false))) = some r := h
  clear h
  have HC3 := Aside0.mk H
  clear H
  go_enter Try.func67, Try.ntmps67
  go_upto_region 1 with (fail)
  go_cut [16] (fun v16 wc => ∃ (kq : Nat) (x16_2 : Bool), v16 = .bool x16_2 ∧ Aside0 (hertzproto_decodeArgAppend.j0 kq l0 l1 x16_2 = some r) ∧ Aside0 (kq ≤ k) ∧ Aside0 (Kd.R (Kd.int .u8) 5 wc w0.heap.size (fun k_ => (P0_ k_ ∨ w.heap.size ≤ k_)) u9000_ l0) ∧ Aside0 (Kept w wc (fun k_ => P0_ k_)) ∧ Aside0 (Below w0.heap.size w0 wc))
  case first =>
    have H := HC3.out
    clear HC3
    replace H := Option.bind_eq_some_iff.mp H
    obtain ⟨t102, A40, H⟩ := H
    replace H : (if t102 < 0 then ((bytes_IndexByte.f l1 43).bind fun t103 => (hertzproto_decodeArgAppend.j0 k l0 l1 (decide (t103 < 0)))) else (hertzproto_decodeArgAppend.j0 k l0 l1 false)) = some r := H
    have A4 := Aside0.mk A40
    clear A40
    by_cases c5 : t102 < 0
    · rw [if_pos c5] at H
      have c5b0 : decide (t102 < 0) = true := decide_eq_true c5
      clear c5
      (first | rw [c5b0] | (simp only [i64_w, i32_w]; rw [c5b0]) | (rw [Go.Proofs.YtjklempjljikpaaX.isEmpty_eq]; rw [c5b0]) | skip)
      replace H := Option.bind_eq_some_iff.mp H
      obtain ⟨t103, A60, H⟩ := H
      replace H : (hertzproto_decodeArgAppend.j0 k l0 l1 (decide (t103 < 0))) = some r := H
      have A6 := Aside0.mk A60
      clear A60
      have H' := Aside0.mk H
      clear H
      go_wp2_with (first | ((with_reducible refine gate_callee (f := 70) rfl ?_); refine goesL_ (some 10) rfl rfl Try.func70 (by kernel_rfl) rfl #[.slice A1 l1.length c1, .int .u8 37] rfl (by (try simp only [List.map_toArray, List.map_cons, List.map_nil]); first | done | rfl | (simp only [List.length_drop, List.length_take]; rfl)) ?_; (with_reducible refine (bytes_IndexByte.calls _ _ l1 37 t102 _ ?side1 ?side2 A4.out).mono ?_); (case side1 => exact Kd.C_kept_now HR1.out (by repeat (first | (with_reducible first | exact HK.out | apply Kept.alloc | apply Kept.drewN | apply Kept.drew) | exact HK.out))); (case side2 => exact HC1.out); rintro e w' ⟨rfl, ⟨nd, rfl⟩⟩; refine ⟨_, rfl, ?_⟩) | (go_at_call 70; (with_reducible refine (bytes_IndexByte.calls _ _ l1 43 t103 _ ?side1 ?side2 A6.out).mono ?_); (case side1 => exact Kd.C_kept_now HR1.out (by repeat (first | (with_reducible first | exact HK.out | apply Kept.alloc | apply Kept.drewN | apply Kept.drew) | exact HK.out))); (case side2 => exact HC1.out); rintro e w' ⟨rfl, ⟨nd, rfl⟩⟩))
      go_meet
      case rel => exact ⟨_, (decide (t103 < 0)), (by first | rfl | (simp; done) | (simp [*]; done) | (simp [Go.Proofs.YtjklempjljikpaaX.isEmpty_ne]; done)), H', ⟨by first | omega | exact Nat.le_refl _⟩, ⟨by (with_reducible repeat (first | apply Kd.R_alloc | apply Kd.R_drewN | apply Kd.R_drew)); exact HO0.out⟩, ⟨by repeat (first | (with_reducible first | exact HK.out | apply Kept.alloc | apply Kept.drewN | apply Kept.drew) | exact HK.out)⟩, ⟨by repeat (first | (with_reducible first | exact HB.out | apply below_alloc | apply pw_below_drewN | apply below_drew1) | exact HB.out)⟩⟩
    · rw [if_neg c5] at H
      have c5b0 : decide (t102 < 0) = false := decide_eq_false c5
      clear c5
      (first | rw [c5b0] | (simp only [i64_w, i32_w]; rw [c5b0]) | (rw [Go.Proofs.YtjklempjljikpaaX.isEmpty_eq]; rw [c5b0]) | skip)
      have H' := Aside0.mk H
      clear H
      go_wp2_with (first | ((with_reducible refine gate_callee (f := 70) rfl ?_); refine goesL_ (some 10) rfl rfl Try.func70 (by kernel_rfl) rfl #[.slice A1 l1.length c1, .int .u8 37] rfl (by (try simp only [List.map_toArray, List.map_cons, List.map_nil]); first | done | rfl | (simp only [List.length_drop, List.length_take]; rfl)) ?_; (with_reducible refine (bytes_IndexByte.calls _ _ l1 37 t102 _ ?side1 ?side2 A4.out).mono ?_); (case side1 => exact Kd.C_kept_now HR1.out (by repeat (first | (with_reducible first | exact HK.out | apply Kept.alloc | apply Kept.drewN | apply Kept.drew) | exact HK.out))); (case side2 => exact HC1.out); rintro e w' ⟨rfl, ⟨nd, rfl⟩⟩; refine ⟨_, rfl, ?_⟩))
      go_meet
      case rel => exact ⟨_, (false), (by first | rfl | (simp; done) | (simp [*]; done) | (simp [Go.Proofs.YtjklempjljikpaaX.isEmpty_ne]; done)), H', ⟨by first | omega | exact Nat.le_refl _⟩, ⟨by (with_reducible repeat (first | apply Kd.R_alloc | apply Kd.R_drewN | apply Kd.R_drew)); exact HO0.out⟩, ⟨by repeat (first | (with_reducible first | exact HK.out | apply Kept.alloc | apply Kept.drewN | apply Kept.drew) | exact HK.out)⟩, ⟨by repeat (first | (with_reducible first | exact HB.out | apply below_alloc | apply pw_below_drewN | apply below_drew1) | exact HB.out)⟩⟩
  case rest =>
    clear HC3
    try clear c1
    try clear p2
    try clear c5
    try clear c5b0
    try clear c6
    obtain ⟨kq, x16_2, rfl, HA, HJ2, HO_0, HK, HB⟩ := hcut
    cases kq with
    | zero => exact absurd HA.out (by simp [hertzproto_decodeArgAppend.j0])
    | succ kj2 =>
      have H := HA.out
      clear HA
      simp only [hertzproto_decodeArgAppend.j0] at H
      by_cases c7 : x16_2 = true
      · subst c7
        have H1 : (if l0.length + l1.length < 140737488355328 then (some (l0 ++ l1)) else (none)) = some r := by rw [if_pos rfl] at H; exact H
        clear H
        have H := H1
        clear H1
        by_cases c8 : l0.length + l1.length < 140737488355328
        · rw [if_pos c8] at H
          have LMc8 := Aside0.mk c8
          clear c8
          obtain ⟨y104, hy104⟩ : ∃ y_ : List Int, y_ = (l0 ++ l1) := ⟨_, rfl⟩
          replace H : (some y104) = some r := by first | (rw [hy104]; with_reducible exact H) | (have H2_ := (Option.bind_some _ _).symm.trans H; rw [hy104]; with_reducible exact H2_) | (have H2_ := (Option.bind_some _ _).symm.trans H; with_reducible exact H2_) | with_reducible exact H | (rw [hy104]; exact H) | exact H
          have Ny104 := Aside0.mk hy104
          clear hy104
          obtain rfl := Option.some.inj H
          go_wp2_with (first | ((with_reducible refine gate_builtin (b := .append) (xs := #[.tmp 17, .tmp 18]) rfl ?_); at_builtin; refine Kd.R_append_rows (Kd.int .u8) (w0 := w0) w0.heap.size rfl (.tmp 17) (.tmp 18) 48 5 (.int .u8 0) 1 rfl Try.underlying48 info5 rfl (by decide) (by omega) u9000_ l0 l1 _ _ _ (fun k_ => (P0_ k_ ∨ w.heap.size ≤ k_)) (fun _ => False) rfl rfl ?aO ?aR (fun _ _ h => h) (fun _ h => h.elim) ?aF ?aB ?aS ?aL ?_; (case aR => exact Kd.C_kept_now HR1.out (by repeat (first | (with_reducible first | exact HK.out | apply Kept.alloc | apply Kept.drewN | apply Kept.drew) | exact HK.out))); (case aB => exact (by repeat (first | (with_reducible first | exact HB.out | apply below_alloc | apply pw_below_drewN | apply below_drew1) | exact HB.out))); (case aF => exact (fun k_ hk => (.inr (Nat.le_trans (by first | exact HK.out.1 | exact (show Kept w _ (fun k_ => P0_ k_) from by repeat (first | (with_reducible first | exact HK.out | apply Kept.alloc | apply Kept.drewN | apply Kept.drew) | exact HK.out)).1) hk)))); (case aO => exact (by (with_reducible repeat (first | apply Kd.R_alloc | apply Kd.R_drewN | apply Kd.R_drew)); exact HO_0.out)); (case aS => exact (below_size (by repeat (first | (with_reducible first | exact HB.out | apply below_alloc | apply pw_below_drewN | apply below_drew1) | exact HB.out)))); (case aL => have := LMc8.out; omega); intro v105 w9 ho hb hg hat; rw [← Ny104.out] at ho; have n0_ := Aside0.mk (hb); have n1_ := Aside0.mk (Kept.of_grown (S := (fun k_ => P0_ k_)) hg (by repeat (first | (with_reducible first | exact HK.out | apply Kept.alloc | apply Kept.drewN | apply Kept.drew) | exact HK.out)) (fun k_ e_ => (HO_0.out.1 k_ e_))); have n2_ := Aside0.mk (ho); clear HB; clear HK; clear HO_0; have HB := n0_; have HK := n1_; have HO106 := n2_; clear n0_ n1_ n2_; clear ho hb hg hat))
          go_ret
          exact ⟨_, by first | rfl | (simp [errW_none, errW_some] <;> rfl) | (simp [*, errW_none, errW_some] <;> rfl), by (with_reducible repeat (first | apply Kd.R_alloc | apply Kd.R_drewN | apply Kd.R_drew)); exact HO106.out, by repeat (first | (with_reducible first | exact HB.out | apply below_alloc | apply pw_below_drewN | apply below_drew1) | exact HB.out), by repeat (first | (with_reducible first | exact HK.out | apply Kept.alloc | apply Kept.drewN | apply Kept.drew) | exact HK.out)⟩
        · rw [if_neg c8] at H
          exact absurd H (by simp)
      · replace c7 := Bool.eq_false_iff.mpr c7
        subst c7
        have H1 : (hertzproto_decodeArgAppend.l0 kj2 l0 l1 0) = some r := by rw [if_neg (show ¬ (false = true) by decide)] at H; exact H
        clear H
        have H := H1
        clear H1
        have H' := Aside0.mk H
        clear H
        go_wp2
        go_loopg [0, 5] kj2 (fun kq v0 v5 w' => ∃ (x0_2 : List Int) (x5_2 : Int), v5 = .int .i64 x5_2 ∧ Aside0 (hertzproto_decodeArgAppend.l0 kq x0_2 l1 x5_2 = some r) ∧ Aside0 (kq ≤ kj2) ∧ Aside0 (Kd.R (Kd.int .u8) 5 w' w0.heap.size (fun k_ => (P0_ k_ ∨ w.heap.size ≤ k_)) v0 x0_2) ∧ Aside0 (Kept w w' (fun k_ => P0_ k_)) ∧ Aside0 (Below w0.heap.size w0 w'))
        case atStart => exact ⟨(l0), (0), (by first | rfl | (simp; done) | (simp [*]; done) | (simp [Go.Proofs.YtjklempjljikpaaX.isEmpty_ne]; done)), H', ⟨Nat.le_refl _⟩, ⟨by (with_reducible repeat (first | apply Kd.R_alloc | apply Kd.R_drewN | apply Kd.R_drew)); exact HO_0.out⟩, ⟨by repeat (first | (with_reducible first | exact HK.out | apply Kept.alloc | apply Kept.drewN | apply Kept.drew) | exact HK.out)⟩, ⟨by repeat (first | (with_reducible first | exact HB.out | apply below_alloc | apply pw_below_drewN | apply below_drew1) | exact HB.out)⟩⟩
        case round =>
          clear H'
          try clear c1
          try clear p2
          try clear c5
          try clear c5b0
          try clear c6
          try clear c7
          try clear c8
          try clear p2
          obtain ⟨x0_2, x5_2, rfl, HA, HK2, HO_0, HK, HB⟩ := hrel
          cases gk with
          | zero => exact absurd HA.out (by simp [hertzproto_decodeArgAppend.l0])
          | succ k2 =>
            have H := HA.out
            clear HA
            simp only [hertzproto_decodeArgAppend.l0] at H
            by_cases c10 : x5_2 < (l1.length : Int)
            · rw [if_pos c10] at H
              have c10b0 : decide (x5_2 < (l1.length : Int)) = true := decide_eq_true c10
              clear c10
              by_cases c11 : 0 ≤ x5_2
              · rw [if_pos c11] at H
                have c11b0 : decide (0 ≤ x5_2) = true := decide_eq_true c11
                clear c11
                by_cases c12 : (rd l1 x5_2) = 37
                · rw [if_pos c12] at H
                  have c12b0 : ((rd l1 x5_2) == 37) = true := beq_iff_eq.mpr c12
                  have c12b1 : ((rd l1 x5_2) != 37) = false := bne_eq_false_iff_eq.mpr c12
                  clear c12
                  by_cases c13 : (wrap64 (x5_2 + 2)) ≥ (l1.length : Int)
                  · rw [if_pos c13] at H
                    have c13b0 : decide ((l1.length : Int) ≤ (wrap64 (x5_2 + 2))) = true := decide_eq_true c13
                    clear c13
                    have c14b0 := eq_true (of_decide_eq_true (by first | (with_reducible assumption) | assumption) : 0 ≤ x5_2)
                    by_cases c15 : x5_2 ≤ (l1.length : Int)
                    · rw [if_pos c15] at H
                      have c15b0 := eq_true c15
                      have c15b1 : decide (x5_2 ≤ (l1.length : Int)) = true := decide_eq_true c15
                      clear c15
                      obtain ⟨y108, hy108⟩ : ∃ y_ : List Int, y_ = (l1.drop (x5_2 : Int).toNat) := ⟨_, rfl⟩
                      replace H : (if x0_2.length + y108.length < 140737488355328 then (some (x0_2 ++ y108)) else (none)) = some r := by first | (rw [hy108]; with_reducible exact H) | (have H2_ := (Option.bind_some _ _).symm.trans H; rw [hy108]; with_reducible exact H2_) | (have H2_ := (Option.bind_some _ _).symm.trans H; with_reducible exact H2_) | with_reducible exact H | (rw [hy108]; exact H) | exact H
                      have Ny108 := Aside0.mk hy108
                      clear hy108
                      by_cases c16 : x0_2.length + y108.length < 140737488355328
                      · rw [if_pos c16] at H
                        have LMc16 := Aside0.mk c16
                        clear c16
                        obtain ⟨y112, hy112⟩ : ∃ y_ : List Int, y_ = (x0_2 ++ y108) := ⟨_, rfl⟩
                        replace H : (some y112) = some r := by first | (rw [hy112]; with_reducible exact H) | (have H2_ := (Option.bind_some _ _).symm.trans H; rw [hy112]; with_reducible exact H2_) | (have H2_ := (Option.bind_some _ _).symm.trans H; with_reducible exact H2_) | with_reducible exact H | (rw [hy112]; exact H) | exact H
                        have Ny112 := Aside0.mk hy112
                        clear hy112
                        obtain rfl := Option.some.inj H
                        have p107 : 0 ≤ (x5_2 : Int) := of_decide_eq_true (by first | (with_reducible assumption) | assumption)
                        have q107 : x5_2 < (l1.length : Int) := of_decide_eq_true (by first | (with_reducible assumption) | assumption)
                        obtain ⟨ad107, e107, hx107_0⟩ := Kd.at_int (Kd.C_kept_now HR1.out HK.out) x5_2 p107 q107
                        cases e107
                        replace p107 := eq_true p107
                        replace q107 := eq_true q107
                        have q17 : (x5_2 : Int) ≤ ((l1.length : Int) : Int) := of_decide_eq_true (by first | (with_reducible assumption) | assumption)
                        obtain ⟨i017, hi017, _, hsz17, _⟩ := info_parts info5
                        have hroom17 : l1.length ≤ c1 := HC1.out
                        have hC17 : Kd.C (Kd.int .u8) _ (some ad107) l1.length l1 := (Kd.C_kept_now HR1.out HK.out)
                        have q017 : (0 : Int) ≤ (x5_2 : Int) := of_decide_eq_true (by first | (with_reducible assumption) | assumption)
                        have hcut17 := cut_from (P := Try.prog) 48 5 .i64 Try.underlying48 hi017 1 hsz17 (some ad107) l1.length c1 x5_2 q017 q17
                        have hr17 := Kd.C_drop (m := (x5_2 : Int).toNat) (c := c1) hC17 (by omega) hroom17
                        obtain ⟨A17, hA17⟩ : ∃ zq_, zq_ = (if c1 = (x5_2 : Int).toNat then (some ad107) else ((some ad107) : Option Addr).map (·.add ((x5_2 : Int).toNat * 1))) := ⟨_, rfl⟩
                        obtain ⟨c17, hc17⟩ : ∃ zq_, zq_ = c1 - (x5_2 : Int).toNat := ⟨_, rfl⟩
                        have hy17 : y108.length = l1.length - (x5_2 : Int).toNat := (by rw [Ny108.out, List.length_drop] <;> omega)
                        rw [show (l1).drop (x5_2 : Int).toNat = y108 from Ny108.out.symm] at hr17
                        replace hr17 : Kd.C (Kd.int .u8) _ A17 y108.length y108 := (by rw [hA17]; exact hr17)
                        rw [← hy17, ← hA17, ← hc17] at hcut17
                        have HR111 := Aside0.mk hr17
                        have HC111 := Aside0.mk (show y108.length ≤ c17 from by rw [hy17, hc17]; exact Nat.sub_le_sub_right hroom17 _)
                        clear hr17 hC17 hroom17 hi017 hsz17 hc17
                        have KY17 := Aside0.mk hy17
                        have KA17 := Aside0.mk hA17
                        clear hy17 hA17
                        have KL17 := Aside0.mk (show (x5_2 : Int).toNat ≤ l1.length from by omega)
                        replace q17 := eq_true q17
                        go_wp2_with (first | ((with_reducible refine gate_builtin (b := .append) (xs := #[.tmp 37, .tmp 40]) rfl ?_); at_builtin; refine Kd.R_append_rows (Kd.int .u8) (w0 := w0) w0.heap.size rfl (.tmp 37) (.tmp 40) 48 5 (.int .u8 0) 1 rfl Try.underlying48 info5 rfl (by decide) (by omega) u0 x0_2 y108 _ _ _ (fun k_ => (P0_ k_ ∨ w.heap.size ≤ k_)) (fun _ => False) rfl rfl ?aO ?aR (fun _ _ h => h) (fun _ h => h.elim) ?aF ?aB ?aS ?aL ?_; (case aR => repeat (first | exact (by repeat (first | (with_reducible exact HR111.out) | (with_reducible refine Kd.C_alloc ?_ _) | (with_reducible refine Kd.C_drewN ?_ _) | (with_reducible refine Kd.C_drew ?_) | exact HR111.out)) | (with_reducible refine Kd.C_alloc ?_ _) | (with_reducible refine Kd.C_drewN ?_ _) | (with_reducible refine Kd.C_drew ?_))); (case aB => exact (by repeat (first | (with_reducible first | exact HB.out | apply below_alloc | apply pw_below_drewN | apply below_drew1) | exact HB.out))); (case aF => exact (fun k_ hk => (.inr (Nat.le_trans (by first | exact HK.out.1 | exact (show Kept w _ (fun k_ => P0_ k_) from by repeat (first | (with_reducible first | exact HK.out | apply Kept.alloc | apply Kept.drewN | apply Kept.drew) | exact HK.out)).1) hk)))); (case aO => exact (by (with_reducible repeat (first | apply Kd.R_alloc | apply Kd.R_drewN | apply Kd.R_drew)); exact HO_0.out)); (case aS => exact (below_size (by repeat (first | (with_reducible first | exact HB.out | apply below_alloc | apply pw_below_drewN | apply below_drew1) | exact HB.out)))); (case aL => have := LMc16.out; omega); intro v113 w18 ho hb hg hat; rw [← Ny112.out] at ho; have n0_ := Aside0.mk (hb); have n1_ := Aside0.mk (Kept.of_grown (S := (fun k_ => P0_ k_)) hg (by repeat (first | (with_reducible first | exact HK.out | apply Kept.alloc | apply Kept.drewN | apply Kept.drew) | exact HK.out)) (fun k_ e_ => (HO_0.out.1 k_ e_))); have n2_ := Aside0.mk ((show Kd.C (Kd.int .u8) w18 A17 y108.length y108 from by rw [Ny108.out, KA17.out]; exact Kd.C_drop (m := (x5_2 : Int).toNat) (c := c1) (Kd.C_kept_now HR1.out (show Kept w w18 (fun k_ => P0_ k_) from (Kept.of_grown (S := (fun k_ => P0_ k_)) hg (by repeat (first | (with_reducible first | exact HK.out | apply Kept.alloc | apply Kept.drewN | apply Kept.drew) | exact HK.out)) (fun k_ e_ => (HO_0.out.1 k_ e_))))) KL17.out HC1.out)); have n3_ := Aside0.mk (ho); clear HB; clear HK; clear HR111; clear HO_0; have HB := n0_; have HK := n1_; have HR111 := n2_; have HO114 := n3_; clear n0_ n1_ n2_ n3_; clear ho hb hg hat))
                        go_ret
                        exact ⟨_, by first | rfl | (simp [errW_none, errW_some] <;> rfl) | (simp [*, errW_none, errW_some] <;> rfl), by (with_reducible repeat (first | apply Kd.R_alloc | apply Kd.R_drewN | apply Kd.R_drew)); exact HO114.out, by repeat (first | (with_reducible first | exact HB.out | apply below_alloc | apply pw_below_drewN | apply below_drew1) | exact HB.out), by repeat (first | (with_reducible first | exact HK.out | apply Kept.alloc | apply Kept.drewN | apply Kept.drew) | exact HK.out)⟩
                      · rw [if_neg c16] at H
                        exact absurd H (by simp)
                    · rw [if_neg c15] at H
                      exact absurd H (by simp)
                  · rw [if_neg c13] at H
                    have c13b0 : decide ((l1.length : Int) ≤ (wrap64 (x5_2 + 2))) = false := decide_eq_false c13
                    clear c13
                    obtain ⟨ji19, hji19⟩ : ∃ j_ : Int, (wrap64 (x5_2 + 2)) = j_ := ⟨_, rfl⟩
                    replace H : (if 0 ≤ (ji19) then (if (ji19) < (l1.length : Int) then (if 0 ≤ (rd l1 (ji19)) then (if (rd l1 (ji19)) < (tab1.size : Int) then (if 0 ≤ (wrap64 (x5_2 + 1)) then (if (wrap64 (x5_2 + 1)) < (l1.length : Int) then (if 0 ≤ (rd l1 (wrap64 (x5_2 + 1))) then (if (rd l1 (wrap64 (x5_2 + 1))) < (tab1.size : Int) then (if (bt tab1 (rd l1 (wrap64 (x5_2 + 1)))) = 16 then (if x0_2.length < 140737488355328 then (hertzproto_decodeArgAppend.l0 k2 (x0_2 ++ [37]) l1 (wrap64 (x5_2 + 1))) else (none)) else (if (bt tab1 (rd l1 (ji19))) = 16 then (if x0_2.length < 140737488355328 then (hertzproto_decodeArgAppend.l0 k2 (x0_2 ++ [37]) l1 (wrap64 (x5_2 + 1))) else (none)) else (if x0_2.length < 140737488355328 then (hertzproto_decodeArgAppend.l0 k2 (x0_2 ++ [Go.bits .or .u8 (((bt tab1 (rd l1 (wrap64 (x5_2 + 1)))) * 16) % 256) (bt tab1 (rd l1 (ji19)))]) l1 (wrap64 ((ji19) + 1))) else (none)))) else (none)) else (none)) else (none)) else (none)) else (none)) else (none)) else (none)) else (none)) = some r := by first | (rw [hji19] at H; exact H) | (simp only [hji19] at H ⊢; exact H)
                    (try rw [hji19] at c13b0)
                    have hji19w : (IntKind.i64.wrap (x5_2 + 2)) = ji19 := (i64_w _).trans hji19
                    by_cases c20 : 0 ≤ (ji19)
                    · rw [if_pos c20] at H
                      have c20b0 : decide (0 ≤ (ji19)) = true := decide_eq_true c20
                      clear c20
                      by_cases c21 : (ji19) < (l1.length : Int)
                      · rw [if_pos c21] at H
                        have c21b0 : decide ((ji19) < (l1.length : Int)) = true := decide_eq_true c21
                        clear c21
                        by_cases c22 : 0 ≤ (rd l1 (ji19))
                        · rw [if_pos c22] at H
                          have c22b0 : decide (0 ≤ (rd l1 (ji19))) = true := decide_eq_true c22
                          clear c22
                          by_cases c23 : (rd l1 (ji19)) < (tab1.size : Int)
                          · rw [if_pos c23] at H
                            have c23b0 : decide ((rd l1 (ji19)) < (tab1.size : Int)) = true := decide_eq_true c23
                            clear c23
                            obtain ⟨ji25, hji25⟩ : ∃ j_ : Int, (wrap64 (x5_2 + 1)) = j_ := ⟨_, rfl⟩
                            replace H : (if 0 ≤ (ji25) then (if (ji25) < (l1.length : Int) then (if 0 ≤ (rd l1 (ji25)) then (if (rd l1 (ji25)) < (tab1.size : Int) then (if (bt tab1 (rd l1 (ji25))) = 16 then (if x0_2.length < 140737488355328 then (hertzproto_decodeArgAppend.l0 k2 (x0_2 ++ [37]) l1 ji25) else (none)) else (if (bt tab1 (rd l1 (ji19))) = 16 then (if x0_2.length < 140737488355328 then (hertzproto_decodeArgAppend.l0 k2 (x0_2 ++ [37]) l1 ji25) else (none)) else (if x0_2.length < 140737488355328 then (hertzproto_decodeArgAppend.l0 k2 (x0_2 ++ [Go.bits .or .u8 (((bt tab1 (rd l1 (ji25))) * 16) % 256) (bt tab1 (rd l1 (ji19)))]) l1 (wrap64 ((ji19) + 1))) else (none)))) else (none)) else (none)) else (none)) else (none)) = some r := by first | (rw [hji25] at H; exact H) | (simp only [hji25] at H ⊢; exact H)
                            have hji25w : (IntKind.i64.wrap (x5_2 + 1)) = ji25 := (i64_w _).trans hji25
                            by_cases c26 : 0 ≤ (ji25)
                            · rw [if_pos c26] at H
                              have c26b0 : decide (0 ≤ (ji25)) = true := decide_eq_true c26
                              clear c26
                              by_cases c27 : (ji25) < (l1.length : Int)
                              · rw [if_pos c27] at H
                                have c27b0 : decide ((ji25) < (l1.length : Int)) = true := decide_eq_true c27
                                clear c27
                                by_cases c28 : 0 ≤ (rd l1 (ji25))
                                · rw [if_pos c28] at H
                                  have c28b0 : decide (0 ≤ (rd l1 (ji25))) = true := decide_eq_true c28
                                  clear c28
                                  by_cases c29 : (rd l1 (ji25)) < (tab1.size : Int)
                                  · rw [if_pos c29] at H
                                    have c29b0 : decide ((rd l1 (ji25)) < (tab1.size : Int)) = true := decide_eq_true c29
                                    clear c29
                                    by_cases c31 : (bt tab1 (rd l1 (ji25))) = 16
                                    · rw [if_pos c31] at H
                                      have c31b0 : ((bt tab1 (rd l1 (ji25))) == 16) = true := beq_iff_eq.mpr c31
                                      have c31b1 : ((bt tab1 (rd l1 (ji25))) != 16) = false := bne_eq_false_iff_eq.mpr c31
                                      clear c31
                                      by_cases c32 : x0_2.length < 140737488355328
                                      · rw [if_pos c32] at H
                                        have LMc32 := Aside0.mk c32
                                        clear c32
                                        obtain ⟨y117, hy117⟩ : ∃ y_ : List Int, y_ = (x0_2 ++ [37]) := ⟨_, rfl⟩
                                        replace H : (hertzproto_decodeArgAppend.l0 k2 y117 l1 ji25) = some r := by first | (rw [hy117]; with_reducible exact H) | (have H2_ := (Option.bind_some _ _).symm.trans H; rw [hy117]; with_reducible exact H2_) | (have H2_ := (Option.bind_some _ _).symm.trans H; with_reducible exact H2_) | with_reducible exact H | (rw [hy117]; exact H) | exact H
                                        have Ny117 := Aside0.mk hy117
                                        clear hy117
                                        have H' := Aside0.mk H
                                        clear H
                                        have p107 : 0 ≤ (x5_2 : Int) := of_decide_eq_true (by first | (with_reducible assumption) | assumption)
                                        have q107 : x5_2 < (l1.length : Int) := of_decide_eq_true (by first | (with_reducible assumption) | assumption)
                                        obtain ⟨ad107, e107, hx107_0⟩ := Kd.at_int (Kd.C_kept_now HR1.out HK.out) x5_2 p107 q107
                                        cases e107
                                        replace p107 := eq_true p107
                                        replace q107 := eq_true q107
                                        have p115 : 0 ≤ ((ji19) : Int) := of_decide_eq_true (by first | (with_reducible assumption) | assumption)
                                        have q115 : (ji19) < (l1.length : Int) := of_decide_eq_true (by first | (with_reducible assumption) | assumption)
                                        obtain ⟨ad115, e115, hx115_0⟩ := Kd.at_int (Kd.C_kept_now HR1.out HK.out) (ji19) p115 q115
                                        obtain rfl : ad107 = ad115 := (by injection e115)
                                        replace p115 := eq_true p115
                                        replace q115 := eq_true q115
                                        have p116 : 0 ≤ ((ji25) : Int) := of_decide_eq_true (by first | (with_reducible assumption) | assumption)
                                        have q116 : (ji25) < (l1.length : Int) := of_decide_eq_true (by first | (with_reducible assumption) | assumption)
                                        obtain ⟨ad116, e116, hx116_0⟩ := Kd.at_int (Kd.C_kept_now HR1.out HK.out) (ji25) p116 q116
                                        obtain rfl : ad107 = ad116 := (by injection e116)
                                        replace p116 := eq_true p116
                                        replace q116 := eq_true q116
                                        go_wp2_with (first | ((with_reducible refine gate_dst (N := 47) rfl ?_); refine Go.Proofs.YtjklempjljikpaaX.index_tab (some 47) rfl rfl 9 _ _ rfl Try.underlying9 tab1 (by kernel_rfl) .u8 (rd l1 (ji19)) rfl (by first | exact of_decide_eq_true (by first | (with_reducible assumption) | assumption) | exact (bt_range _ _).1 | omega) (of_decide_eq_true (by first | (with_reducible assumption) | assumption)) ?_) | ((with_reducible refine gate_dst (N := 53) rfl ?_); refine Go.Proofs.YtjklempjljikpaaX.index_tab (some 53) rfl rfl 9 _ _ rfl Try.underlying9 tab1 (by kernel_rfl) .u8 (rd l1 (ji25)) rfl (by first | exact of_decide_eq_true (by first | (with_reducible assumption) | assumption) | exact (bt_range _ _).1 | omega) (of_decide_eq_true (by first | (with_reducible assumption) | assumption)) ?_) | ((with_reducible refine gate_builtin (b := .append) (xs := #[.tmp 60, .tmp 61]) rfl ?_); at_builtin; refine Kd.R_append (Kd.int .u8) (w0 := w0) w0.heap.size rfl (.tmp 60) (.tmp 61) 48 5 (.int .u8 0) 1 rfl Try.underlying48 info5 rfl (by decide) (by omega) u0 x0_2 37 [.int .u8 37] (fun k_ => (P0_ k_ ∨ w.heap.size ≤ k_)) (fun _ => False) rfl rfl ?aP (fun _ hk => hk.elim) ?aF ?aO ?aB ?aS ?aL ?_; (case aP => exact rfl); (case aB => exact (by repeat (first | (with_reducible first | exact HB.out | apply below_alloc | apply pw_below_drewN | apply below_drew1) | exact HB.out))); (case aF => exact (fun k_ hk => (.inr (Nat.le_trans (by first | exact HK.out.1 | exact (show Kept w _ (fun k_ => P0_ k_) from by repeat (first | (with_reducible first | exact HK.out | apply Kept.alloc | apply Kept.drewN | apply Kept.drew) | exact HK.out)).1) hk)))); (case aO => exact (by (with_reducible repeat (first | apply Kd.R_alloc | apply Kd.R_drewN | apply Kd.R_drew)); exact HO_0.out)); (case aS => exact (below_size (by repeat (first | (with_reducible first | exact HB.out | apply below_alloc | apply pw_below_drewN | apply below_drew1) | exact HB.out)))); (case aL => have := LMc32.out; omega); intro v118 w33 ho hb hg hat; rw [← Ny117.out] at ho; have n0_ := Aside0.mk (hb); have n1_ := Aside0.mk (Kept.of_grown (S := (fun k_ => P0_ k_)) hg (by repeat (first | (with_reducible first | exact HK.out | apply Kept.alloc | apply Kept.drewN | apply Kept.drew) | exact HK.out)) (fun k_ e_ => (HO_0.out.1 k_ e_))); have n2_ := Aside0.mk (ho); clear HB; clear HK; clear HO_0; have HB := n0_; have HK := n1_; have HO119 := n2_; clear n0_ n1_ n2_; clear ho hb hg hat))
                                        go_roundg k2
                                        case measure => have := HJ2.out; have := HK2.out; omega
                                        case rel => exact ⟨(y117), (ji25), (by first | rfl | (simp; done) | (simp only [← hji25] <;> (first | rfl | simp)) | (simp [*]; done) | (simp [Go.Proofs.YtjklempjljikpaaX.isEmpty_ne]; done)), H', ⟨by have := HJ2.out; have := HK2.out; omega⟩, ⟨by (with_reducible repeat (first | apply Kd.R_alloc | apply Kd.R_drewN | apply Kd.R_drew)); exact HO119.out⟩, ⟨by repeat (first | (with_reducible first | exact HK.out | apply Kept.alloc | apply Kept.drewN | apply Kept.drew) | exact HK.out)⟩, ⟨by repeat (first | (with_reducible first | exact HB.out | apply below_alloc | apply pw_below_drewN | apply below_drew1) | exact HB.out)⟩⟩
                                      · rw [if_neg c32] at H
                                        exact absurd H (by simp)
                                    · rw [if_neg c31] at H
                                      have c31b0 : ((bt tab1 (rd l1 (ji25))) == 16) = false := beq_eq_false_iff_ne.mpr c31
                                      have c31b1 : ((bt tab1 (rd l1 (ji25))) != 16) = true := bne_iff_ne.mpr c31
                                      by_cases c34 : (bt tab1 (rd l1 (ji19))) = 16
                                      · rw [if_pos c34] at H
                                        have c34b0 : ((bt tab1 (rd l1 (ji19))) == 16) = true := beq_iff_eq.mpr c34
                                        have c34b1 : ((bt tab1 (rd l1 (ji19))) != 16) = false := bne_eq_false_iff_eq.mpr c34
                                        clear c34
                                        by_cases c35 : x0_2.length < 140737488355328
                                        · rw [if_pos c35] at H
                                          have LMc35 := Aside0.mk c35
                                          clear c35
                                          obtain ⟨y120, hy120⟩ : ∃ y_ : List Int, y_ = (x0_2 ++ [37]) := ⟨_, rfl⟩
                                          replace H : (hertzproto_decodeArgAppend.l0 k2 y120 l1 ji25) = some r := by first | (rw [hy120]; with_reducible exact H) | (have H2_ := (Option.bind_some _ _).symm.trans H; rw [hy120]; with_reducible exact H2_) | (have H2_ := (Option.bind_some _ _).symm.trans H; with_reducible exact H2_) | with_reducible exact H | (rw [hy120]; exact H) | exact H
                                          have Ny120 := Aside0.mk hy120
                                          clear hy120
                                          have H' := Aside0.mk H
                                          clear H
                                          have p107 : 0 ≤ (x5_2 : Int) := of_decide_eq_true (by first | (with_reducible assumption) | assumption)
                                          have q107 : x5_2 < (l1.length : Int) := of_decide_eq_true (by first | (with_reducible assumption) | assumption)
                                          obtain ⟨ad107, e107, hx107_0⟩ := Kd.at_int (Kd.C_kept_now HR1.out HK.out) x5_2 p107 q107
                                          cases e107
                                          replace p107 := eq_true p107
                                          replace q107 := eq_true q107
                                          have p115 : 0 ≤ ((ji19) : Int) := of_decide_eq_true (by first | (with_reducible assumption) | assumption)
                                          have q115 : (ji19) < (l1.length : Int) := of_decide_eq_true (by first | (with_reducible assumption) | assumption)
                                          obtain ⟨ad115, e115, hx115_0⟩ := Kd.at_int (Kd.C_kept_now HR1.out HK.out) (ji19) p115 q115
                                          obtain rfl : ad107 = ad115 := (by injection e115)
                                          replace p115 := eq_true p115
                                          replace q115 := eq_true q115
                                          have p116 : 0 ≤ ((ji25) : Int) := of_decide_eq_true (by first | (with_reducible assumption) | assumption)
                                          have q116 : (ji25) < (l1.length : Int) := of_decide_eq_true (by first | (with_reducible assumption) | assumption)
                                          obtain ⟨ad116, e116, hx116_0⟩ := Kd.at_int (Kd.C_kept_now HR1.out HK.out) (ji25) p116 q116
                                          obtain rfl : ad107 = ad116 := (by injection e116)
                                          replace p116 := eq_true p116
                                          replace q116 := eq_true q116
                                          go_wp2_with (first | ((with_reducible refine gate_dst (N := 47) rfl ?_); refine Go.Proofs.YtjklempjljikpaaX.index_tab (some 47) rfl rfl 9 _ _ rfl Try.underlying9 tab1 (by kernel_rfl) .u8 (rd l1 (ji19)) rfl (by first | exact of_decide_eq_true (by first | (with_reducible assumption) | assumption) | exact (bt_range _ _).1 | omega) (of_decide_eq_true (by first | (with_reducible assumption) | assumption)) ?_) | ((with_reducible refine gate_dst (N := 53) rfl ?_); refine Go.Proofs.YtjklempjljikpaaX.index_tab (some 53) rfl rfl 9 _ _ rfl Try.underlying9 tab1 (by kernel_rfl) .u8 (rd l1 (ji25)) rfl (by first | exact of_decide_eq_true (by first | (with_reducible assumption) | assumption) | exact (bt_range _ _).1 | omega) (of_decide_eq_true (by first | (with_reducible assumption) | assumption)) ?_) | ((with_reducible refine gate_builtin (b := .append) (xs := #[.tmp 60, .tmp 61]) rfl ?_); at_builtin; refine Kd.R_append (Kd.int .u8) (w0 := w0) w0.heap.size rfl (.tmp 60) (.tmp 61) 48 5 (.int .u8 0) 1 rfl Try.underlying48 info5 rfl (by decide) (by omega) u0 x0_2 37 [.int .u8 37] (fun k_ => (P0_ k_ ∨ w.heap.size ≤ k_)) (fun _ => False) rfl rfl ?aP (fun _ hk => hk.elim) ?aF ?aO ?aB ?aS ?aL ?_; (case aP => exact rfl); (case aB => exact (by repeat (first | (with_reducible first | exact HB.out | apply below_alloc | apply pw_below_drewN | apply below_drew1) | exact HB.out))); (case aF => exact (fun k_ hk => (.inr (Nat.le_trans (by first | exact HK.out.1 | exact (show Kept w _ (fun k_ => P0_ k_) from by repeat (first | (with_reducible first | exact HK.out | apply Kept.alloc | apply Kept.drewN | apply Kept.drew) | exact HK.out)).1) hk)))); (case aO => exact (by (with_reducible repeat (first | apply Kd.R_alloc | apply Kd.R_drewN | apply Kd.R_drew)); exact HO_0.out)); (case aS => exact (below_size (by repeat (first | (with_reducible first | exact HB.out | apply below_alloc | apply pw_below_drewN | apply below_drew1) | exact HB.out)))); (case aL => have := LMc35.out; omega); intro v121 w36 ho hb hg hat; rw [← Ny120.out] at ho; have n0_ := Aside0.mk (hb); have n1_ := Aside0.mk (Kept.of_grown (S := (fun k_ => P0_ k_)) hg (by repeat (first | (with_reducible first | exact HK.out | apply Kept.alloc | apply Kept.drewN | apply Kept.drew) | exact HK.out)) (fun k_ e_ => (HO_0.out.1 k_ e_))); have n2_ := Aside0.mk (ho); clear HB; clear HK; clear HO_0; have HB := n0_; have HK := n1_; have HO122 := n2_; clear n0_ n1_ n2_; clear ho hb hg hat))
                                          go_roundg k2
                                          case measure => have := HJ2.out; have := HK2.out; omega
                                          case rel => exact ⟨(y120), (ji25), (by first | rfl | (simp; done) | (simp only [← hji25] <;> (first | rfl | simp)) | (simp [*]; done) | (simp [Go.Proofs.YtjklempjljikpaaX.isEmpty_ne]; done)), H', ⟨by have := HJ2.out; have := HK2.out; omega⟩, ⟨by (with_reducible repeat (first | apply Kd.R_alloc | apply Kd.R_drewN | apply Kd.R_drew)); exact HO122.out⟩, ⟨by repeat (first | (with_reducible first | exact HK.out | apply Kept.alloc | apply Kept.drewN | apply Kept.drew) | exact HK.out)⟩, ⟨by repeat (first | (with_reducible first | exact HB.out | apply below_alloc | apply pw_below_drewN | apply below_drew1) | exact HB.out)⟩⟩
                                        · rw [if_neg c35] at H
                                          exact absurd H (by simp)
                                      · rw [if_neg c34] at H
                                        have c34b0 : ((bt tab1 (rd l1 (ji19))) == 16) = false := beq_eq_false_iff_ne.mpr c34
                                        have c34b1 : ((bt tab1 (rd l1 (ji19))) != 16) = true := bne_iff_ne.mpr c34
                                        by_cases c37 : x0_2.length < 140737488355328
                                        · rw [if_pos c37] at H
                                          have LMc37 := Aside0.mk c37
                                          clear c37
                                          obtain ⟨y123, hy123⟩ : ∃ y_ : List Int, y_ = (x0_2 ++ [Go.bits .or .u8 (((bt tab1 (rd l1 (ji25))) * 16) % 256) (bt tab1 (rd l1 (ji19)))]) := ⟨_, rfl⟩
                                          replace H : (hertzproto_decodeArgAppend.l0 k2 y123 l1 (wrap64 ((ji19) + 1))) = some r := by first | (rw [hy123]; with_reducible exact H) | (have H2_ := (Option.bind_some _ _).symm.trans H; rw [hy123]; with_reducible exact H2_) | (have H2_ := (Option.bind_some _ _).symm.trans H; with_reducible exact H2_) | with_reducible exact H | (rw [hy123]; exact H) | exact H
                                          have Ny123 := Aside0.mk hy123
                                          clear hy123
                                          have H' := Aside0.mk H
                                          clear H
                                          have p107 : 0 ≤ (x5_2 : Int) := of_decide_eq_true (by first | (with_reducible assumption) | assumption)
                                          have q107 : x5_2 < (l1.length : Int) := of_decide_eq_true (by first | (with_reducible assumption) | assumption)
                                          obtain ⟨ad107, e107, hx107_0⟩ := Kd.at_int (Kd.C_kept_now HR1.out HK.out) x5_2 p107 q107
                                          cases e107
                                          replace p107 := eq_true p107
                                          replace q107 := eq_true q107
                                          have p115 : 0 ≤ ((ji19) : Int) := of_decide_eq_true (by first | (with_reducible assumption) | assumption)
                                          have q115 : (ji19) < (l1.length : Int) := of_decide_eq_true (by first | (with_reducible assumption) | assumption)
                                          obtain ⟨ad115, e115, hx115_0⟩ := Kd.at_int (Kd.C_kept_now HR1.out HK.out) (ji19) p115 q115
                                          obtain rfl : ad107 = ad115 := (by injection e115)
                                          replace p115 := eq_true p115
                                          replace q115 := eq_true q115
                                          have p116 : 0 ≤ ((ji25) : Int) := of_decide_eq_true (by first | (with_reducible assumption) | assumption)
                                          have q116 : (ji25) < (l1.length : Int) := of_decide_eq_true (by first | (with_reducible assumption) | assumption)
                                          obtain ⟨ad116, e116, hx116_0⟩ := Kd.at_int (Kd.C_kept_now HR1.out HK.out) (ji25) p116 q116
                                          obtain rfl : ad107 = ad116 := (by injection e116)
                                          replace p116 := eq_true p116
                                          replace q116 := eq_true q116
                                          go_wp2_with (first | ((with_reducible refine gate_dst (N := 47) rfl ?_); refine Go.Proofs.YtjklempjljikpaaX.index_tab (some 47) rfl rfl 9 _ _ rfl Try.underlying9 tab1 (by kernel_rfl) .u8 (rd l1 (ji19)) rfl (by first | exact of_decide_eq_true (by first | (with_reducible assumption) | assumption) | exact (bt_range _ _).1 | omega) (of_decide_eq_true (by first | (with_reducible assumption) | assumption)) ?_) | ((with_reducible refine gate_dst (N := 53) rfl ?_); refine Go.Proofs.YtjklempjljikpaaX.index_tab (some 53) rfl rfl 9 _ _ rfl Try.underlying9 tab1 (by kernel_rfl) .u8 (rd l1 (ji25)) rfl (by first | exact of_decide_eq_true (by first | (with_reducible assumption) | assumption) | exact (bt_range _ _).1 | omega) (of_decide_eq_true (by first | (with_reducible assumption) | assumption)) ?_) | ((with_reducible refine gate_builtin (b := .append) (xs := #[.tmp 63, .tmp 68]) rfl ?_); at_builtin; refine Kd.R_append (Kd.int .u8) (w0 := w0) w0.heap.size rfl (.tmp 63) (.tmp 68) 48 5 (.int .u8 0) 1 rfl Try.underlying48 info5 rfl (by decide) (by omega) u0 x0_2 (Go.bits .or .u8 (((bt tab1 (rd l1 (ji25))) * 16) % 256) (bt tab1 (rd l1 (ji19)))) [.int .u8 (Go.bits .or .u8 (((bt tab1 (rd l1 (ji25))) * 16) % 256) (bt tab1 (rd l1 (ji19))))] (fun k_ => (P0_ k_ ∨ w.heap.size ≤ k_)) (fun _ => False) rfl rfl ?aP (fun _ hk => hk.elim) ?aF ?aO ?aB ?aS ?aL ?_; (case aP => exact rfl); (case aB => exact (by repeat (first | (with_reducible first | exact HB.out | apply below_alloc | apply pw_below_drewN | apply below_drew1) | exact HB.out))); (case aF => exact (fun k_ hk => (.inr (Nat.le_trans (by first | exact HK.out.1 | exact (show Kept w _ (fun k_ => P0_ k_) from by repeat (first | (with_reducible first | exact HK.out | apply Kept.alloc | apply Kept.drewN | apply Kept.drew) | exact HK.out)).1) hk)))); (case aO => exact (by (with_reducible repeat (first | apply Kd.R_alloc | apply Kd.R_drewN | apply Kd.R_drew)); exact HO_0.out)); (case aS => exact (below_size (by repeat (first | (with_reducible first | exact HB.out | apply below_alloc | apply pw_below_drewN | apply below_drew1) | exact HB.out)))); (case aL => have := LMc37.out; omega); intro v124 w38 ho hb hg hat; rw [← Ny123.out] at ho; have n0_ := Aside0.mk (hb); have n1_ := Aside0.mk (Kept.of_grown (S := (fun k_ => P0_ k_)) hg (by repeat (first | (with_reducible first | exact HK.out | apply Kept.alloc | apply Kept.drewN | apply Kept.drew) | exact HK.out)) (fun k_ e_ => (HO_0.out.1 k_ e_))); have n2_ := Aside0.mk (ho); clear HB; clear HK; clear HO_0; have HB := n0_; have HK := n1_; have HO125 := n2_; clear n0_ n1_ n2_; clear ho hb hg hat))
                                          go_roundg k2
                                          case measure => have := HJ2.out; have := HK2.out; omega
                                          case rel => exact ⟨(y123), (wrap64 ((ji19) + 1)), (by first | rfl | (simp; done) | (simp only [← hji19] <;> (first | rfl | simp)) | (simp [*]; done) | (simp [Go.Proofs.YtjklempjljikpaaX.isEmpty_ne]; done)), H', ⟨by have := HJ2.out; have := HK2.out; omega⟩, ⟨by (with_reducible repeat (first | apply Kd.R_alloc | apply Kd.R_drewN | apply Kd.R_drew)); exact HO125.out⟩, ⟨by repeat (first | (with_reducible first | exact HK.out | apply Kept.alloc | apply Kept.drewN | apply Kept.drew) | exact HK.out)⟩, ⟨by repeat (first | (with_reducible first | exact HB.out | apply below_alloc | apply pw_below_drewN | apply below_drew1) | exact HB.out)⟩⟩
                                        · rw [if_neg c37] at H
                                          exact absurd H (by simp)
                                  · rw [if_neg c29] at H
                                    exact absurd H (by simp)
                                · rw [if_neg c28] at H
                                  exact absurd H (by simp)
                              · rw [if_neg c27] at H
                                exact absurd H (by simp)
                            · rw [if_neg c26] at H
                              exact absurd H (by simp)
                          · rw [if_neg c23] at H
                            exact absurd H (by simp)
                        · rw [if_neg c22] at H
                          exact absurd H (by simp)
                      · rw [if_neg c21] at H
                        exact absurd H (by simp)
                    · rw [if_neg c20] at H
                      exact absurd H (by simp)
                · rw [if_neg c12] at H
                  have c12b0 : ((rd l1 x5_2) == 37) = false := beq_eq_false_iff_ne.mpr c12
                  have c12b1 : ((rd l1 x5_2) != 37) = true := bne_iff_ne.mpr c12
                  by_cases c39 : (rd l1 x5_2) = 43
                  · rw [if_pos c39] at H
                    have c39b0 : ((rd l1 x5_2) == 43) = true := beq_iff_eq.mpr c39
                    have c39b1 : ((rd l1 x5_2) != 43) = false := bne_eq_false_iff_eq.mpr c39
                    clear c39
                    by_cases c40 : x0_2.length < 140737488355328
                    · rw [if_pos c40] at H
                      have LMc40 := Aside0.mk c40
                      clear c40
                      obtain ⟨y126, hy126⟩ : ∃ y_ : List Int, y_ = (x0_2 ++ [32]) := ⟨_, rfl⟩
                      replace H : (hertzproto_decodeArgAppend.l0 k2 y126 l1 (wrap64 (x5_2 + 1))) = some r := by first | (rw [hy126]; with_reducible exact H) | (have H2_ := (Option.bind_some _ _).symm.trans H; rw [hy126]; with_reducible exact H2_) | (have H2_ := (Option.bind_some _ _).symm.trans H; with_reducible exact H2_) | with_reducible exact H | (rw [hy126]; exact H) | exact H
                      have Ny126 := Aside0.mk hy126
                      clear hy126
                      have H' := Aside0.mk H
                      clear H
                      have p107 : 0 ≤ (x5_2 : Int) := of_decide_eq_true (by first | (with_reducible assumption) | assumption)
                      have q107 : x5_2 < (l1.length : Int) := of_decide_eq_true (by first | (with_reducible assumption) | assumption)
                      obtain ⟨ad107, e107, hx107_0⟩ := Kd.at_int (Kd.C_kept_now HR1.out HK.out) x5_2 p107 q107
                      cases e107
                      replace p107 := eq_true p107
                      replace q107 := eq_true q107
                      go_wp2_with (first | ((with_reducible refine gate_builtin (b := .append) (xs := #[.tmp 74, .tmp 75]) rfl ?_); at_builtin; refine Kd.R_append (Kd.int .u8) (w0 := w0) w0.heap.size rfl (.tmp 74) (.tmp 75) 48 5 (.int .u8 0) 1 rfl Try.underlying48 info5 rfl (by decide) (by omega) u0 x0_2 32 [.int .u8 32] (fun k_ => (P0_ k_ ∨ w.heap.size ≤ k_)) (fun _ => False) rfl rfl ?aP (fun _ hk => hk.elim) ?aF ?aO ?aB ?aS ?aL ?_; (case aP => exact rfl); (case aB => exact (by repeat (first | (with_reducible first | exact HB.out | apply below_alloc | apply pw_below_drewN | apply below_drew1) | exact HB.out))); (case aF => exact (fun k_ hk => (.inr (Nat.le_trans (by first | exact HK.out.1 | exact (show Kept w _ (fun k_ => P0_ k_) from by repeat (first | (with_reducible first | exact HK.out | apply Kept.alloc | apply Kept.drewN | apply Kept.drew) | exact HK.out)).1) hk)))); (case aO => exact (by (with_reducible repeat (first | apply Kd.R_alloc | apply Kd.R_drewN | apply Kd.R_drew)); exact HO_0.out)); (case aS => exact (below_size (by repeat (first | (with_reducible first | exact HB.out | apply below_alloc | apply pw_below_drewN | apply below_drew1) | exact HB.out)))); (case aL => have := LMc40.out; omega); intro v127 w41 ho hb hg hat; rw [← Ny126.out] at ho; have n0_ := Aside0.mk (hb); have n1_ := Aside0.mk (Kept.of_grown (S := (fun k_ => P0_ k_)) hg (by repeat (first | (with_reducible first | exact HK.out | apply Kept.alloc | apply Kept.drewN | apply Kept.drew) | exact HK.out)) (fun k_ e_ => (HO_0.out.1 k_ e_))); have n2_ := Aside0.mk (ho); clear HB; clear HK; clear HO_0; have HB := n0_; have HK := n1_; have HO128 := n2_; clear n0_ n1_ n2_; clear ho hb hg hat))
                      go_roundg k2
                      case measure => have := HJ2.out; have := HK2.out; omega
                      case rel => exact ⟨(y126), (wrap64 (x5_2 + 1)), (by first | rfl | (simp; done) | (simp [*]; done) | (simp [Go.Proofs.YtjklempjljikpaaX.isEmpty_ne]; done)), H', ⟨by have := HJ2.out; have := HK2.out; omega⟩, ⟨by (with_reducible repeat (first | apply Kd.R_alloc | apply Kd.R_drewN | apply Kd.R_drew)); exact HO128.out⟩, ⟨by repeat (first | (with_reducible first | exact HK.out | apply Kept.alloc | apply Kept.drewN | apply Kept.drew) | exact HK.out)⟩, ⟨by repeat (first | (with_reducible first | exact HB.out | apply below_alloc | apply pw_below_drewN | apply below_drew1) | exact HB.out)⟩⟩
                    · rw [if_neg c40] at H
                      exact absurd H (by simp)
                  · rw [if_neg c39] at H
                    have c39b0 : ((rd l1 x5_2) == 43) = false := beq_eq_false_iff_ne.mpr c39
                    have c39b1 : ((rd l1 x5_2) != 43) = true := bne_iff_ne.mpr c39
                    by_cases c42 : x0_2.length < 140737488355328
                    · rw [if_pos c42] at H
                      have LMc42 := Aside0.mk c42
                      clear c42
                      obtain ⟨y129, hy129⟩ : ∃ y_ : List Int, y_ = (x0_2 ++ [rd l1 x5_2]) := ⟨_, rfl⟩
                      replace H : (hertzproto_decodeArgAppend.l0 k2 y129 l1 (wrap64 (x5_2 + 1))) = some r := by first | (rw [hy129]; with_reducible exact H) | (have H2_ := (Option.bind_some _ _).symm.trans H; rw [hy129]; with_reducible exact H2_) | (have H2_ := (Option.bind_some _ _).symm.trans H; with_reducible exact H2_) | with_reducible exact H | (rw [hy129]; exact H) | exact H
                      have Ny129 := Aside0.mk hy129
                      clear hy129
                      have H' := Aside0.mk H
                      clear H
                      have p107 : 0 ≤ (x5_2 : Int) := of_decide_eq_true (by first | (with_reducible assumption) | assumption)
                      have q107 : x5_2 < (l1.length : Int) := of_decide_eq_true (by first | (with_reducible assumption) | assumption)
                      obtain ⟨ad107, e107, hx107_0⟩ := Kd.at_int (Kd.C_kept_now HR1.out HK.out) x5_2 p107 q107
                      cases e107
                      replace p107 := eq_true p107
                      replace q107 := eq_true q107
                      go_wp2_with (first | ((with_reducible refine gate_builtin (b := .append) (xs := #[.tmp 77, .tmp 79]) rfl ?_); at_builtin; refine Kd.R_append (Kd.int .u8) (w0 := w0) w0.heap.size rfl (.tmp 77) (.tmp 79) 48 5 (.int .u8 0) 1 rfl Try.underlying48 info5 rfl (by decide) (by omega) u0 x0_2 (rd l1 x5_2) [.int .u8 (rd l1 x5_2)] (fun k_ => (P0_ k_ ∨ w.heap.size ≤ k_)) (fun _ => False) rfl rfl ?aP (fun _ hk => hk.elim) ?aF ?aO ?aB ?aS ?aL ?_; (case aP => exact rfl); (case aB => exact (by repeat (first | (with_reducible first | exact HB.out | apply below_alloc | apply pw_below_drewN | apply below_drew1) | exact HB.out))); (case aF => exact (fun k_ hk => (.inr (Nat.le_trans (by first | exact HK.out.1 | exact (show Kept w _ (fun k_ => P0_ k_) from by repeat (first | (with_reducible first | exact HK.out | apply Kept.alloc | apply Kept.drewN | apply Kept.drew) | exact HK.out)).1) hk)))); (case aO => exact (by (with_reducible repeat (first | apply Kd.R_alloc | apply Kd.R_drewN | apply Kd.R_drew)); exact HO_0.out)); (case aS => exact (below_size (by repeat (first | (with_reducible first | exact HB.out | apply below_alloc | apply pw_below_drewN | apply below_drew1) | exact HB.out)))); (case aL => have := LMc42.out; omega); intro v130 w43 ho hb hg hat; rw [← Ny129.out] at ho; have n0_ := Aside0.mk (hb); have n1_ := Aside0.mk (Kept.of_grown (S := (fun k_ => P0_ k_)) hg (by repeat (first | (with_reducible first | exact HK.out | apply Kept.alloc | apply Kept.drewN | apply Kept.drew) | exact HK.out)) (fun k_ e_ => (HO_0.out.1 k_ e_))); have n2_ := Aside0.mk (ho); clear HB; clear HK; clear HO_0; have HB := n0_; have HK := n1_; have HO131 := n2_; clear n0_ n1_ n2_; clear ho hb hg hat))
                      go_roundg k2
                      case measure => have := HJ2.out; have := HK2.out; omega
                      case rel => exact ⟨(y129), (wrap64 (x5_2 + 1)), (by first | rfl | (simp; done) | (simp [*]; done) | (simp [Go.Proofs.YtjklempjljikpaaX.isEmpty_ne]; done)), H', ⟨by have := HJ2.out; have := HK2.out; omega⟩, ⟨by (with_reducible repeat (first | apply Kd.R_alloc | apply Kd.R_drewN | apply Kd.R_drew)); exact HO131.out⟩, ⟨by repeat (first | (with_reducible first | exact HK.out | apply Kept.alloc | apply Kept.drewN | apply Kept.drew) | exact HK.out)⟩, ⟨by repeat (first | (with_reducible first | exact HB.out | apply below_alloc | apply pw_below_drewN | apply below_drew1) | exact HB.out)⟩⟩
                    · rw [if_neg c42] at H
                      exact absurd H (by simp)
              · rw [if_neg c11] at H
                exact absurd H (by simp)
            · rw [if_neg c10] at H
              have c10b0 : decide (x5_2 < (l1.length : Int)) = false := decide_eq_false c10
              clear c10
              obtain rfl := Option.some.inj H
              go_wp2
              go_ret
              exact ⟨_, by first | rfl | (simp [errW_none, errW_some] <;> rfl) | (simp [*, errW_none, errW_some] <;> rfl), by (with_reducible repeat (first | apply Kd.R_alloc | apply Kd.R_drewN | apply Kd.R_drew)); exact HO_0.out, by repeat (first | (with_reducible first | exact HB.out | apply below_alloc | apply pw_below_drewN | apply below_drew1) | exact HB.out), by repeat (first | (with_reducible first | exact HK.out | apply Kept.alloc | apply Kept.drewN | apply Kept.drew) | exact HK.out)⟩

end Go.Proofs.Ytjklempjljikpaa.Q

-- Written by a program of this session out of the translation, with the kit's printer. Not trusted: Lean checks it.
namespace Go.Proofs.Ytjklempjljikpaa.Q
open Go.RowKit Go.Proofs.YtjklempjljikpaaW.PrintWords Go.Proofs.YtjklempjljikpaaW.PrintLast Go.Proofs.YtjklempjljikpaaW.PrintMore
attribute [local go_sem] max2_int min2_int max_two min_two max_three min_three max_four min_four   -- for this text's walks alone
set_option linter.unusedVariables false
set_option linter.unusedSimpArgs false

-- NOT PRINTED: function 52 (hertzproto_argsScanner_next)

/-! ### hertzproto_releaseArg: function 53 -/
def hertzproto_releaseArg.f (l0 : List (S72)) : Option ((List (S72))) := if 0 ≤ (wrap64 ((l0.length : Int) - 1)) then (if (wrap64 ((l0.length : Int) - 1)) ≤ (l0.length : Int) then (some (l0.take ((wrap64 ((l0.length : Int) - 1)) : Int).toNat)) else (none)) else (none)
set_option maxHeartbeats 8000000 in
set_option maxRecDepth 100000 in
theorem hertzproto_releaseArg.calls (P0_ : Nat → Prop) (A0 : Option Addr) (c0 : Nat) (l0 : List (S72)) (r : List (S72)) (w : World) (hs0 : Kd.V k72 72 w w.heap.size (fun k_ => P0_ k_) (.slice A0 l0.length c0) l0) (h : hertzproto_releaseArg.f l0 = some r) :
    Calls Try.prog 53 #[.slice A0 l0.length c0] w fun e w' => ∃ v0_ : Value, e = .returned (v0_) ∧ Kd.V k72 72 w' w.heap.size (fun k_ => (P0_ k_ ∨ w.heap.size ≤ k_)) v0_ r ∧ Below w.heap.size w w' := by
  have HO0 := Aside0.mk (show Kd.V k72 72 w w.heap.size (fun k_ => (P0_ k_ ∨ w.heap.size ≤ k_)) (.slice A0 l0.length c0) l0 from Kd.V_mono hs0 (fun k_ hk => .inl hk))
  have HB := Aside0.mk (Below.refl w.heap.size w)
  have H : (if 0 ≤ (wrap64 ((l0.length : Int) - 1)) then (if (wrap64 ((l0.length : Int) - 1)) ≤ (l0.length : Int) then (some (l0.take ((wrap64 ((l0.length : Int) - 1)) : Int).toNat)) else (none)) else (none)) = some r := h
  clear h
  obtain ⟨ji2, hji2⟩ : ∃ j_ : Int, (wrap64 ((l0.length : Int) - 1)) = j_ := ⟨_, rfl⟩
  replace H : (if 0 ≤ (ji2) then (if (ji2) ≤ (l0.length : Int) then (some (l0.take ((ji2) : Int).toNat)) else (none)) else (none)) = some r := by first | (rw [hji2] at H; exact H) | (simp only [hji2] at H ⊢; exact H)
  have hji2w : (IntKind.i64.wrap ((l0.length : Int) - 1)) = ji2 := (i64_w _).trans hji2
  by_cases c3 : 0 ≤ (ji2)
  · rw [if_pos c3] at H
    have c3b0 := eq_true c3
    have c3b1 : decide (0 ≤ (ji2)) = true := decide_eq_true c3
    clear c3
    by_cases c4 : (ji2) ≤ (l0.length : Int)
    · rw [if_pos c4] at H
      have c4b0 := eq_true c4
      have c4b1 : decide ((ji2) ≤ (l0.length : Int)) = true := decide_eq_true c4
      clear c4
      obtain ⟨y132, hy132⟩ : ∃ y_ : List (S72), y_ = (l0.take ((ji2) : Int).toNat) := ⟨_, rfl⟩
      replace H : (some y132) = some r := by first | (rw [hy132]; with_reducible exact H) | (have H2_ := (Option.bind_some _ _).symm.trans H; rw [hy132]; with_reducible exact H2_) | (have H2_ := (Option.bind_some _ _).symm.trans H; with_reducible exact H2_) | with_reducible exact H | (rw [hy132]; exact H) | exact H
      have Ny132 := Aside0.mk hy132
      clear hy132
      obtain rfl := Option.some.inj H
      have q5 : ((ji2) : Int) ≤ ((l0.length : Int) : Int) := of_decide_eq_true (by first | (with_reducible assumption) | assumption)
      obtain ⟨i05, hi05, _, hsz5, _⟩ := info_parts info72
      have hroom5 : l0.length ≤ c0 := (Kd.V_reads' HO0.out).2.1
      have hC5 : Kd.F k72 _ _ A0 l0.length l0 := (Kd.V_at (base := w.heap.size) HO0.out).2.2
      have hcut5 := cut_to (P := Try.prog) 47 72 .i64 Try.underlying47 hi05 A0 l0.length c0 (ji2) (of_decide_eq_true (by first | (with_reducible assumption) | assumption)) q5 hroom5
      have hr5 := Kd.F_take (m := ((ji2) : Int).toNat) hC5 (by omega)
      have hy5 : y132.length = ((ji2) : Int).toNat := (by rw [Ny132.out, List.length_take]; omega)
      rw [← Ny132.out] at hr5
      rw [← hy5] at hcut5
      have HO136 := Aside0.mk (show Kd.V k72 72 _ w.heap.size _ (.slice A0 y132.length c0) y132 from Kd.V_mk (by omega) hr5)
      have HC136 := Aside0.mk (show y132.length ≤ c0 from by omega)
      clear hr5 hC5 hroom5 hi05 hsz5
      have KY5 := Aside0.mk hy5
      clear hy5
      replace q5 := eq_true q5
      go_enter Try.func53, Try.ntmps53
      go_wp2
      go_ret
      exact ⟨_, by first | rfl | (simp [errW_none, errW_some] <;> rfl) | (simp only [← hji2]; first | rfl | (simp [errW_none, errW_some] <;> rfl)) | (simp [*, errW_none, errW_some] <;> rfl), by (with_reducible repeat (first | apply Kd.V_alloc | apply Kd.V_drewN | apply Kd.V_drew)); exact HO136.out, by repeat (first | (with_reducible first | exact HB.out | apply below_alloc | apply pw_below_drewN | apply below_drew1) | exact HB.out)⟩
    · rw [if_neg c4] at H
      exact absurd H (by simp)
  · rw [if_neg c3] at H
    exact absurd H (by simp)

-- NOT PRINTED: function 37 (hertzproto_Args_ParseBytes)

/-! ### impl_args: function 38 -/
def impl_args.l0 : Nat → List (S36) → List (S74) → Int → Int → Option ((List (S36)))
  | 0, _, _, _, _ => none
  | k + 1, x3, x6, x7, x8 => if x8 < x7 then (if 0 ≤ x8 then (if x8 < (x6.length : Int) then (if x3.length < 3518437208883 then (impl_args.l0 k (x3 ++ [(⟨(rd_T74 x6 x8).f0, (rd_T74 x6 x8).f1, (rd_T74 x6 x8).f2⟩ : S36)]) x6 x7 (wrap64 (x8 + 1))) else (none)) else (none)) else (none)) else (some x3)
def impl_args.f (k : Nat) (l0 : List (S74)) : Option ((List (S36))) := impl_args.l0 k ([] : List (S36)) l0 (l0.length : Int) 0
theorem impl_args.mono_l : ∀ k, (∀ y0 y1 y2 y3, LeO (impl_args.l0 k y0 y1 y2 y3) (impl_args.l0 (k + 1) y0 y1 y2 y3))
  | 0 => fun _ _ _ _ r h => by simp [impl_args.l0] at h
  | k + 1 => by
    have ih0 := impl_args.mono_l k
    · intro y0 y1 y2 y3
      unfold impl_args.l0
      repeat' first
      | (with_reducible exact ih0 _ _ _ _)
      | (with_reducible exact LeO.refl _)
      | (with_reducible exact LeO.none _)
      | (with_reducible refine LeO.ite ?_ ?_)
      | (with_reducible refine LeO.bind ?_ (fun _ => ?_))
      | exact ih0 _ _ _ _
      | exact LeO.none _
      | refine LeO.ite ?_ ?_
      | refine LeO.bind ?_ (fun _ => ?_)
theorem impl_args.mono : ∀ a0 k, LeO (impl_args.f k a0) (impl_args.f (k + 1) a0) := by
  intro a0 k
  have ih0 := impl_args.mono_l k
  unfold impl_args.f
  repeat' first
      | (with_reducible exact ih0 _ _ _ _)
      | (with_reducible exact LeO.refl _)
      | (with_reducible exact LeO.none _)
      | (with_reducible refine LeO.ite ?_ ?_)
      | (with_reducible refine LeO.bind ?_ (fun _ => ?_))
      | exact ih0 _ _ _ _
      | exact LeO.none _
      | refine LeO.ite ?_ ?_
      | refine LeO.bind ?_ (fun _ => ?_)
set_option maxHeartbeats 8000000 in
set_option maxRecDepth 100000 in
theorem impl_args.calls (k : Nat) (A0 : Option Addr) (c0 : Nat) (l0 : List (S74)) (r : List (S36)) (w : World) (hr0 : Kd.C k74 w A0 l0.length l0) (hc0 : l0.length ≤ c0) (h : impl_args.f k l0 = some r) :
    Calls Try.prog 38 #[.slice A0 l0.length c0] w fun e w' => ∃ v0_ : Value, e = .returned (v0_) ∧ Kd.R k36 36 w' w.heap.size (fun _ => True) v0_ r ∧ Below w.heap.size w w' := by
  have hu74 := Try.underlying74
  have HR0 := Aside0.mk hr0
  have HC0 := Aside0.mk hc0
  clear hr0 hc0
  have HB := Aside0.mk (Below.refl w.heap.size w)
  have H : (impl_args.l0 k ([] : List (S36)) l0 (l0.length : Int) 0) = some r := h
  clear h
  have H' := Aside0.mk H
  clear H
  go_enter Try.func38, Try.ntmps38
  go_wp2
  go_loopg [3, 8] k (fun kq v3 v8 w' => ∃ (x3_1 : List (S36)) (x8_1 : Int), v8 = .int .i64 x8_1 ∧ Aside0 (impl_args.l0 kq x3_1 l0 (l0.length : Int) x8_1 = some r) ∧ Aside0 (kq ≤ k) ∧ Aside0 (Kd.R k36 36 w' w.heap.size (fun _ => True) v3 x3_1) ∧ Aside0 (Below w.heap.size w w'))
  case atStart => exact ⟨(([] : List (S36))), (0), (by first | rfl | (simp; done) | (simp [*]; done) | (simp [Go.Proofs.YtjklempjljikpaaX.isEmpty_ne]; done)), H', ⟨Nat.le_refl _⟩, ⟨by first | exact Kd.R_nil _ _ _ _ _ | exact Kd.N_nil _ _ _ _ _ | exact Kd.V_nil _ _ _ _ _ | exact Kd.Q_nil _ _ _ _ _ | exact Kd.S_nil _ _ _ _ _⟩, ⟨by repeat (first | (with_reducible first | exact HB.out | apply below_alloc | apply pw_below_drewN | apply below_drew1) | exact HB.out)⟩⟩
  case round =>
    clear H'
    obtain ⟨x3_1, x8_1, rfl, HA, HK1, HO_3, HB⟩ := hrel
    cases gk with
    | zero => exact absurd HA.out (by simp [impl_args.l0])
    | succ k1 =>
      have H := HA.out
      clear HA
      simp only [impl_args.l0] at H
      by_cases c2 : x8_1 < (l0.length : Int)
      · rw [if_pos c2] at H
        have c2b0 : decide (x8_1 < (l0.length : Int)) = true := decide_eq_true c2
        clear c2
        by_cases c3 : 0 ≤ x8_1
        · rw [if_pos c3] at H
          have c3b0 : decide (0 ≤ x8_1) = true := decide_eq_true c3
          clear c3
          by_cases c4 : x8_1 < (l0.length : Int)
          · rw [if_pos c4] at H
            have c4b0 : decide (x8_1 < (l0.length : Int)) = true := decide_eq_true c4
            clear c4
            by_cases c5 : x3_1.length < 3518437208883
            · rw [if_pos c5] at H
              have LMc5 := Aside0.mk c5
              clear c5
              obtain ⟨y139, hy139⟩ : ∃ y_ : List (S36), y_ = (x3_1 ++ [(⟨(rd_T74 l0 x8_1).f0, (rd_T74 l0 x8_1).f1, (rd_T74 l0 x8_1).f2⟩ : S36)]) := ⟨_, rfl⟩
              replace H : (impl_args.l0 k1 y139 l0 (l0.length : Int) (wrap64 (x8_1 + 1))) = some r := by first | (rw [hy139]; with_reducible exact H) | (have H2_ := (Option.bind_some _ _).symm.trans H; rw [hy139]; with_reducible exact H2_) | (have H2_ := (Option.bind_some _ _).symm.trans H; with_reducible exact H2_) | with_reducible exact H | (rw [hy139]; exact H) | exact H
              have Ny139 := Aside0.mk hy139
              clear hy139
              have H' := Aside0.mk H
              clear H
              have p137 : 0 ≤ (x8_1 : Int) := of_decide_eq_true (by first | (with_reducible assumption) | assumption)
              have q137 : x8_1 < (l0.length : Int) := of_decide_eq_true (by first | (with_reducible assumption) | assumption)
              obtain ⟨ad137, e137, hx137_0, hx137_1, hx137_2⟩ := at_T74 HR0.out x8_1 p137 q137
              cases e137
              replace hx137_0 := (HB.out.cell (World.block_lt_of_cell? w _ hx137_0)).trans hx137_0
              replace hx137_1 := (HB.out.cell (World.block_lt_of_cell? w _ hx137_1)).trans hx137_1
              replace hx137_2 := (HB.out.cell (World.block_lt_of_cell? w _ hx137_2)).trans hx137_2
              replace p137 := eq_true p137
              replace q137 := eq_true q137
              go_wp2_with (first | ((with_reducible refine gate_dst (N := 5) rfl ?_); refine box_event ?hg (N := 5) ?hd (cs := #[.string (⟨#[]⟩ : ByteArray), .string (⟨#[]⟩ : ByteArray), .bool false]) (t := 74) ?hr ?_; (case hd => rfl); (case hg => rfl); (case hr => first | (go_simp; done) | (go_simp; rfl)); intro gb138 hg w6 hbox hb; have n0_ := Aside0.mk (Kd.R_below (by (with_reducible repeat (first | apply Kd.R_alloc | apply Kd.R_drewN | apply Kd.R_drew)); exact HO_3.out) hb); have n1_ := Aside0.mk (below_step (by repeat (first | (with_reducible first | exact HB.out | apply below_alloc | apply pw_below_drewN | apply below_drew1) | exact HB.out)) hb); have n2_ := Aside0.mk (hbox); have n3_ := Aside0.mk ((by rw [hg]; exact (below_size (by repeat (first | (with_reducible first | exact HB.out | apply below_alloc | apply pw_below_drewN | apply below_drew1) | exact HB.out))) : w.heap.size ≤ gb138)); have n4_ := Aside0.mk ((by rw [hg]; exact (below_size (by repeat (first | (with_reducible first | exact HB.out | apply below_alloc | apply pw_below_drewN | apply below_drew1) | exact HB.out))) : w.heap.size ≤ gb138)); clear HO_3; clear HB; have HO_3 := n0_; have HB := n1_; have BK138 := n2_; have GW138 := n3_; have GE138 := n4_; clear n0_ n1_ n2_ n3_ n4_; clear hb hbox hg; have hcz7_0 : w6.cell? ⟨gb138, 0, none⟩ = some (.string (⟨#[]⟩ : ByteArray)) := (blk_cell BK138.out 0).trans rfl; have hcz7_1 : w6.cell? ⟨gb138, 1, none⟩ = some (.string (⟨#[]⟩ : ByteArray)) := (blk_cell BK138.out 1).trans rfl; have hcz7_2 : w6.cell? ⟨gb138, 2, none⟩ = some (.bool false) := (blk_cell BK138.out 2).trans rfl; have hfz7_0 := blk_frozen BK138.out 0; have hfz7_1 := blk_frozen BK138.out 1; have hfz7_2 := blk_frozen BK138.out 2) | ((with_reducible refine gate_builtin (b := .append) (xs := #[.tmp 12, .tmp 14]) rfl ?_); at_builtin; refine Kd.R_append k36 (w0 := w) w.heap.size rfl (.tmp 12) (.tmp 14) 33 36 (.agg #[(.string ⟨#[]⟩), (.string ⟨#[]⟩), (.bool false)]) 40 rfl Try.underlying33 info36 rfl (by decide) (by omega) u3 x3_1 (⟨(rd_T74 l0 x8_1).f0, (rd_T74 l0 x8_1).f1, (rd_T74 l0 x8_1).f2⟩ : S36) [.string ((rd_T74 l0 x8_1).f0), .string ((rd_T74 l0 x8_1).f1), .bool ((rd_T74 l0 x8_1).f2)] (fun _ => True) (fun _ => False) rfl (by first | (go_simp; done) | (go_simp; rfl)) ?aP (fun _ hk => hk.elim) ?aF ?aO ?aB ?aS ?aL ?_; (case aP => exact k36_mkM _ _ _ (⟨(rd_T74 l0 x8_1).f0, (rd_T74 l0 x8_1).f1, (rd_T74 l0 x8_1).f2⟩ : S36)); (case aB => exact (by repeat (first | (with_reducible first | exact HB.out | apply below_alloc | apply pw_below_drewN | apply below_drew1 | refine below_set ?_ GE138.out) | exact HB.out))); (case aF => exact (fun _ _ => trivial)); (case aO => exact (by (with_reducible repeat (first | apply Kd.R_alloc | apply Kd.R_drewN | apply Kd.R_drew)); exact Kd.R_mono (Kd.R_far (p := ⟨gb138, 2, none⟩) (Kd.R_far (p := ⟨gb138, 1, none⟩) (Kd.R_far (p := ⟨gb138, 0, none⟩) (Kd.R_types HO_3.out BK138.out (by decide)) (fun _ hk => hk.2) (.string ((rd_T74 l0 x8_1).f0))) (fun _ hk => hk.2) (.string ((rd_T74 l0 x8_1).f1))) (fun _ hk => hk.2) (.bool ((rd_T74 l0 x8_1).f2))) (fun _ hk => trivial))); (case aS => exact (below_size (by repeat (first | (with_reducible first | exact HB.out | apply below_alloc | apply pw_below_drewN | apply below_drew1 | refine below_set ?_ GE138.out) | exact HB.out)))); (case aL => have := LMc5.out; omega); intro v140 w8 ho hb hg hat; rw [← Ny139.out] at ho; have n0_ := Aside0.mk (blk_grown (g := gb138) (o := .cells #[.string ((rd_T74 l0 x8_1).f0), .string ((rd_T74 l0 x8_1).f1), .bool ((rd_T74 l0 x8_1).f2)] 74 (0, 0)) (by (with_reducible repeat (first | refine blk_drewN ?_ _ | refine blk_drew ?_ | refine blk_alloc ?_ _)); refine blk_put (cs := #[.string ((rd_T74 l0 x8_1).f0), .string ((rd_T74 l0 x8_1).f1), .bool false]) ?_ 2 _ rfl; (with_reducible repeat (first | refine blk_drewN ?_ _ | refine blk_drew ?_ | refine blk_alloc ?_ _)); refine blk_put (cs := #[.string ((rd_T74 l0 x8_1).f0), .string (⟨#[]⟩ : ByteArray), .bool false]) ?_ 1 _ rfl; (with_reducible repeat (first | refine blk_drewN ?_ _ | refine blk_drew ?_ | refine blk_alloc ?_ _)); refine blk_put (cs := #[.string (⟨#[]⟩ : ByteArray), .string (⟨#[]⟩ : ByteArray), .bool false]) ?_ 0 _ rfl; (with_reducible repeat (first | refine blk_drewN ?_ _ | refine blk_drew ?_ | refine blk_alloc ?_ _)); exact BK138.out) hg (Kd.R_ne HO_3.out BK138.out (by decide))); have n1_ := Aside0.mk (hb); have n2_ := Aside0.mk (ho); clear BK138; clear HB; clear HO_3; have BK138 := n0_; have HB := n1_; have HO141 := n2_; clear n0_ n1_ n2_; clear ho hb hg hat))
              go_roundg k1
              case measure => have := HK1.out; omega
              case rel => exact ⟨(y139), (wrap64 (x8_1 + 1)), (by first | rfl | (simp; done) | (simp [*]; done) | (simp [Go.Proofs.YtjklempjljikpaaX.isEmpty_ne]; done)), H', ⟨by have := HK1.out; omega⟩, ⟨by (with_reducible repeat (first | apply Kd.R_alloc | apply Kd.R_drewN | apply Kd.R_drew)); exact HO141.out⟩, ⟨by repeat (first | (with_reducible first | exact HB.out | apply below_alloc | apply pw_below_drewN | apply below_drew1 | refine below_set ?_ GE138.out) | exact HB.out)⟩⟩
            · rw [if_neg c5] at H
              exact absurd H (by simp)
          · rw [if_neg c4] at H
            exact absurd H (by simp)
        · rw [if_neg c3] at H
          exact absurd H (by simp)
      · rw [if_neg c2] at H
        have c2b0 : decide (x8_1 < (l0.length : Int)) = false := decide_eq_false c2
        clear c2
        obtain rfl := Option.some.inj H
        go_wp2
        go_ret
        exact ⟨_, by first | rfl | (simp [errW_none, errW_some] <;> rfl) | (simp [*, errW_none, errW_some] <;> rfl), by (with_reducible repeat (first | apply Kd.R_alloc | apply Kd.R_drewN | apply Kd.R_drew)); exact HO_3.out, by repeat (first | (with_reducible first | exact HB.out | apply below_alloc | apply pw_below_drewN | apply below_drew1) | exact HB.out)⟩

-- NOT PRINTED: function 39 (hertzproto_Args_ZzList)

end Go.Proofs.Ytjklempjljikpaa.Q
