/- A number's digits, behind a row: hertzconv.AppendUint. -/
import Derived.Test.YtipmmjbjgbfgjaaDoorUi1
import Derived.Test.YtipmmjbjgbfgjaaDoorBt
import Derived.Test.YtipmmjbjgbfgjaaDoorSpBytes
import Derived.Test.YtipmmjbjgbfgjaaDoorQ0
import Derived.WalkSpells
import Derived.StillTailTactics
import Derived.WalkLawsBesides
namespace Go.Proofs.YtipmmjbjgbfgjaaDoor.Q
open Go.RowKit Go.Proofs.YtipmmjbjgbfgjaaDoorW.PrintWords Go.Proofs.YtipmmjbjgbfgjaaDoorW.PrintLast Go.Proofs.YtipmmjbjgbfgjaaDoorW.PrintMore
open Go.Proofs.YtipmmjbjgbfgjaaDoorKit (L size_L)
open Go.Proofs.YtipmmjbjgbfgjaaDoor.SpA (toI toI_length toI_append dec dec_pos dec_len isD_dig)
set_option linter.unusedVariables false
set_option linter.unusedSimpArgs false
def natU : Value → Nat
  | .int _ x => x.toNat
  | _ => 0
def deccells (j : Nat) (acc : List Int) : Array Value := (List.replicate j (Value.int .u8 0) ++ nums .u8 acc).toArray
theorem deccells_set (j : Nat) (acc : List Int) (v : Int) : (deccells (j + 1) acc).setIfInBounds j (.int .u8 v) = deccells j (v :: acc) := by
  unfold deccells
  rw [List.setIfInBounds_toArray, List.set_append_left _ _ (by simp), List.replicate_succ', List.set_append_right _ _ (by simp)]
  simp [nums]
theorem dec_step (m : Nat) (h : 10 ≤ m) : toI (dec m) = toI (dec (m / 10)) ++ [((48 + m % 10 : Nat) : Int)] := by
  rw [dec, dif_neg (by omega), toI_append]
  simp only [toI, List.map_cons, List.map_nil, (isD_dig (m % 10) (by omega)).2]
theorem dec_one (m : Nat) (h : m < 10) : toI (dec m) = [((48 + m : Nat) : Int)] := by
  rw [dec, dif_pos h]
  simp only [toI, List.map_cons, List.map_nil, (isD_dig m h).2]
set_option maxHeartbeats 8000000 in
set_option maxRecDepth 100000 in
theorem appU_calls (P0_ : Nat → Prop) (u9000_ : Value) (l0 : List Int) (a1 : Nat) (w0 w : World) (hB : Below w0.heap.size w0 w) (ho0 : Kd.R (Kd.int .u8) 5 w w0.heap.size P0_ u9000_ l0) (h1 : a1 ≤ 9223372036854775807) (hl : l0.length < 1000000000) :
    Calls Tryd.prog 17 #[u9000_, .int .i64 (a1 : Int)] w fun e w' => ∃ v0_ : Value, e = .returned (v0_) ∧ Kd.R (Kd.int .u8) 5 w' w0.heap.size (fun k_ => (P0_ k_ ∨ w.heap.size ≤ k_)) v0_ (l0 ++ toI (dec a1)) ∧ Below w0.heap.size w0 w' ∧ Kept w w' (fun k_ => P0_ k_) := by
  have c0 : decide ((a1 : Int) < 0) = false := decide_eq_false (by omega)
  have HB := Aside0.mk hB
  have HO := Aside0.mk ho0
  have H1 := Aside0.mk h1
  have HL := Aside0.mk hl
  clear hB ho0 h1 hl
  go_enter Tryd.func17, Tryd.ntmps17
  go_wp2
  have BK : (w.alloc (.cells (deccells 20 []) 52)).heap[w.heap.size]? = some (.cells (deccells 20 []) 52 (0, 0)) := blk_new w _
  go_loopw [1, 7] (fun s1 s7 wr => ∃ (m j : Nat) (acc : List Int), s1 = .int .i64 (m : Int) ∧ s7 = .int .i64 (j : Int) ∧ Aside0 (1 ≤ j ∧ j ≤ 20 ∧ acc.length + j = 20 ∧ m < 10 ^ (j - 1) ∧ m ≤ 9223372036854775807 ∧ toI (dec m) ++ acc = toI (dec a1)) ∧ Aside0 (wr.heap[w.heap.size]? = some (.cells (deccells j acc) 52 (0, 0))) ∧ Aside0 (Below w.heap.size w wr)) (fun _ s7 _ => natU s7)
  case atStart => exact ⟨a1, 20, [], rfl, rfl, ⟨⟨by omega, by omega, rfl, by have := H1.out; omega, H1.out, by simp⟩⟩, ⟨BK⟩, ⟨(Below.refl _ _).alloc (Nat.le_refl _) _⟩⟩
  case round =>
    obtain ⟨m, j, acc, rfl, rfl, HI, Hblk, Hbel⟩ := hrel
    clear BK
    obtain ⟨hj1, hj2, hacc, hm, hmb, hdec⟩ := HI.out
    by_cases hm0 : m < 10
    · have hge : decide ((m : Int) ≥ 10) = false := decide_eq_false (by omega)
      obtain ⟨i, rfl⟩ : ∃ i, j = i + 1 := ⟨j - 1, by omega⟩
      have hw1 : wrap64 (((i + 1 : Nat) : Int) - 1) = (i : Int) := by unfold wrap64; omega
      have hdv : (0 : Int) ≤ (m : Int) := by omega
      have p0 : (0 ≤ (i : Int)) = True := eq_true (by omega)
      have p1 : ((i : Int) < 20) = True := eq_true (by omega)
      have hc : wr.cell? ⟨w.heap.size, i, none⟩ = some (.int .u8 0) := by
        rw [blk_cell Hblk.out i]
        simp [deccells, List.getElem?_append]
      have hf := blk_frozen Hblk.out i
      obtain ⟨acc2, hacc2⟩ : ∃ a, a = ((48 + m : Nat) : Int) :: acc := ⟨_, rfl⟩
      have hres : acc2 = toI (dec a1) := by rw [hacc2, ← hdec, dec_one m hm0]; rfl
      have hal : acc2.length + i = 20 := by rw [hacc2]; simp; omega
      have HRES := Aside0.mk hres
      have HAL := Aside0.mk hal
      have HAC := Aside0.mk hacc2
      have HM0 := Aside0.mk hm0
      have hi20 : i < 20 := by omega
      have HI20 := Aside0.mk hi20
      clear hdec hacc hres hal hacc2
      go_upto_region 14 with (fail)
      refine Go.Proofs.YtipmmjbjgbfgjaaDoorX.gen_world (fun W => W.heap[w.heap.size]? = some (.cells (deccells i acc2) 52 (0, 0)) ∧ Below w.heap.size w W) ⟨?_, ?_⟩ ?_
      · exact blk_put Hblk.out i _ (by rw [HAC.out, ← deccells_set]; first | rfl | (congr 2; have := HM0.out; omega))
      · exact Hbel.out.setCell (Nat.le_refl _) _
      clear hc hf Hblk Hbel hj1 hj2 hi20
      intro W hW
      obtain ⟨hblk, hbel⟩ := hW
      have hj1 : (i : Int) < 20 := by have := HI20.out; omega
      have hj2 : ¬ i = 20 := by have := HI20.out; omega
      have hj3 : (i : Int) ≤ 20 := by have := HI20.out; omega
      have hj4 : ¬ 20 = i := by have := HI20.out; omega
      have hj0 : 0 ≤ (i : Int) := by omega
      clear hj1
      have hsz : w.heap.size < W.heap.size := blk_lt hblk
      have HR : Kd.C (Kd.int .u8) W (some ⟨w.heap.size, i, none⟩) acc2.length acc2 := by
        refine ⟨rfl, by have := HAL.out; omega, fun _ => ⟨_, rfl, fun q p hq => ⟨[.int .u8 p], rfl, rfl, fun z u hz => ?_⟩⟩⟩
        have hq2 := (List.getElem?_eq_some_iff.1 hq).1
        have hz0 : z = 0 := by
          have := (List.getElem?_eq_some_iff.1 hz).1
          simp at this
          omega
        subst hz0
        have hu : u = .int .u8 p := by simpa using hz.symm
        subst hu
        have ha : Addr.add ⟨w.heap.size, i, none⟩ (q * 1 + 0) = ⟨w.heap.size, i + q, none⟩ := by
          rw [Nat.mul_one, Nat.add_zero]
          unfold Addr.add
          by_cases hq0 : q = 0 <;> simp [hq0]
        show W.cell? (Addr.add ⟨w.heap.size, i, none⟩ (q * 1 + 0)) = _
        rw [ha, blk_cell hblk]
        simp [deccells, List.getElem?_append_right, nums, hq]
      have HRS := Aside0.mk HR
      have HBW : Aside0 (Below w0.heap.size w0 W) := ⟨HB.out.trans (hbel.mono HB.out.size)⟩
      have HRM : ReadsRow ((Kd.int .u8).M W w0.heap.size fun _ => False) (Kd.int .u8).sz W (some ⟨w.heap.size, i, none⟩) (20 - i) acc2 := by
        have e : 20 - i = acc2.length := by have := HAL.out; omega
        rw [e]; exact HRS.out
      have HRM' := Aside0.mk HRM
      have HOr := Aside0.mk (Kd.R_mono (ok' := fun k_ => (P0_ k_ ∨ w.heap.size ≤ k_)) (Kd.R_below HO.out hbel) (fun k_ hk => .inl hk))
      have HKr := Aside0.mk (fun (w1 : World) (hg : W.grownBy w1 u9000_.ownBlock) => Kept.of_grown hg (Kept.of_below hbel (fun k_ => P0_ k_)) (fun k hk => .inl (HO.out.1 k hk)))
      have HSr := Aside0.mk (show w.heap.size ≤ W.heap.size by omega)
      have HLr := Aside0.mk (show (l0.length + (20 - i)) * 1 ≤ 140737488355328 by have := HL.out; omega)
      clear hsz hblk hbel HR HRM
      go_wp2_with (at_builtin; go_must (refine Kd.R_append_rows (Kd.int .u8) (w0 := w0) w0.heap.size rfl (.tmp 39) (.tmp 42) 43 5 (.int .u8 0) 1 rfl Tryd.underlying43 info5 rfl (by decide) (by omega) u9000_ l0 acc2 (some ⟨w.heap.size, i, none⟩) _ _ (fun k_ => (P0_ k_ ∨ w.heap.size ≤ k_)) (fun _ => False) rfl rfl HOr.out HRM'.out (fun _ _ h => h) (fun _ h => h.elim) (fun k hk => .inr (Nat.le_trans HSr.out hk)) HBW.out (below_size HBW.out) HLr.out ?_; intro v1 w1 ho hb hg hat; have HK1 := Aside0.mk (HKr.out w1 hg); have Ho := Aside0.mk ho; have Hb := Aside0.mk hb; clear ho hb hg hat))
      go_ret
      exact ⟨_, rfl, by rw [← HRES.out]; exact Ho.out, Hb.out, HK1.out⟩
    · obtain ⟨i, rfl⟩ : ∃ i, j = i + 2 := ⟨j - 2, by
        have : j ≠ 1 := by rintro rfl; simp at hm; omega
        omega⟩
      have hge : decide ((m : Int) ≥ 10) = true := decide_eq_true (by omega)
      have hw1 : wrap64 (((i + 2 : Nat) : Int) - 1) = ((i + 1 : Nat) : Int) := by unfold wrap64; omega
      have hdv : (0 : Int) ≤ (m : Int) := by omega
      have p0 : (0 ≤ ((i + 1 : Nat) : Int)) = True := eq_true (by omega)
      have p1 : (((i + 1 : Nat) : Int) < 20) = True := eq_true (by omega)
      have hc : wr.cell? ⟨w.heap.size, i + 1, none⟩ = some (.int .u8 0) := by
        rw [blk_cell Hblk.out (i + 1)]
        simp [deccells, List.getElem?_append]
      have hf := blk_frozen Hblk.out (i + 1)
      have HM0 := Aside0.mk hm0
      clear hdec hm0
      go_wp2
      go_roundw
      case measure => simp only [natU]; omega
      case rel =>
        obtain ⟨hj1, hj2, hacc, hm, hmb, hdec⟩ := HI.out
        have hm0 := HM0.out
        refine ⟨m / 10, i + 1, ((48 + m % 10 : Nat) : Int) :: acc, by first | rfl | (congr 1; omega), by first | rfl | (congr 1; omega), ⟨⟨by omega, by omega, by simp; omega, ?_, by omega, ?_⟩⟩, ⟨blk_put Hblk.out (i + 1) _ ?_⟩, ⟨Hbel.out.setCell (Nat.le_refl _) _⟩⟩
        · rw [show i + 2 - 1 = i + 1 by omega, Nat.pow_succ] at hm
          rw [show i + 1 - 1 = i by omega]
          omega
        · rw [← hdec, dec_step m (by omega)]
          simp
        · rw [← deccells_set]
          first | rfl | (congr 2; omega)
def Panics (e : Ending) : Prop := ∃ u v, e = .panicked [{ v := .iface u v, recovered := false }]
set_option maxHeartbeats 8000000 in
set_option maxRecDepth 100000 in
theorem appU_neg (n : Int) (w : World) (h : n < 0) : Calls Tryd.prog 17 #[.slice none 0 0, .int .i64 n] w fun e w' => Panics e ∧ Below w.heap.size w w' := by
  have c0 : decide (n < 0) = true := decide_eq_true h
  clear h
  go_enter Tryd.func17, Tryd.ntmps17
  go_wp2
  exact ⟨rfl, ⟨_, _, rfl⟩, Below.refl _ _⟩
end Go.Proofs.YtipmmjbjgbfgjaaDoor.Q
