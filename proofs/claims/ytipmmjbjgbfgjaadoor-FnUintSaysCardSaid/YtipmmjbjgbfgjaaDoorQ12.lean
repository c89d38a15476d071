-- Written by a program of this session out of the translation, with the kit's printer. Not trusted: Lean checks it.
import Derived.Test.YtipmmjbjgbfgjaaDoorQ0
namespace Go.Proofs.YtipmmjbjgbfgjaaDoor.Q
open Go.RowKit Go.Proofs.YtipmmjbjgbfgjaaDoorW.PrintWords Go.Proofs.YtipmmjbjgbfgjaaDoorW.PrintLast Go.Proofs.YtipmmjbjgbfgjaaDoorW.PrintMore
attribute [local go_sem] max2_int min2_int max_two min_two max_three min_three max_four min_four   -- for this text's walks alone
set_option linter.unusedVariables false
set_option linter.unusedSimpArgs false

/-! ### hertzconv_AppendIntHex: function 20 -/
/-- The hexadecimal digits of a number ahead of what is there, at most so many. -/
def hexd : Nat → Nat → List Int → List Int
  | 0, _, acc => acc
  | d + 1, n, acc => if n = 0 then acc else hexd d (n / 16) (bt (⟨#[48, 49, 50, 51, 52, 53, 54, 55, 56, 57, 97, 98, 99, 100, 101, 102]⟩ : ByteArray) ((n % 16 : Nat) : Int) :: acc)
def hexcells (j : Nat) (acc : List Int) : Array Value := (List.replicate j (Value.int .u8 0) ++ nums .u8 acc).toArray
theorem hexcells_set (j : Nat) (acc : List Int) (v : Int) : (hexcells (j + 1) acc).setIfInBounds j (.int .u8 v) = hexcells j (v :: acc) := by
  unfold hexcells
  rw [List.setIfInBounds_toArray, List.set_append_left _ _ (by simp), List.replicate_succ', List.set_append_right _ _ (by simp)]
  simp [nums]
theorem hexd_len : ∀ (d n : Nat) (acc : List Int), acc.length ≤ (hexd d n acc).length
  | 0, n, acc => by simp [hexd]
  | d + 1, n, acc => by
    rw [hexd]
    split
    · exact Nat.le_refl _
    · exact Nat.le_trans (by simp) (hexd_len d _ _)
theorem wraps_u64 (n : Int) (h0 : 0 ≤ n) (h1 : n < 2 ^ 64) : IntKind.u64.wrap n = n := by
  unfold IntKind.wrap
  simp only [show IntKind.u64.signed = false from rfl, show IntKind.u64.bits = 64 from rfl, Bool.false_and]
  show n % 2 ^ 64 = n
  omega
theorem bits15 (n : Nat) (h : n < 2 ^ 64) : Go.bits .and .u64 (n : Int) 15 = ((n % 16 : Nat) : Int) := by
  have := bits_mask .u64 64 (by decide) wraps_u64 4 (by decide) (n : Int) (by omega) (by omega)
  rw [show (15 : Int) = 2 ^ 4 - 1 by decide, this]
  omega
set_option maxHeartbeats 8000000 in
set_option maxRecDepth 100000 in
theorem hexx_pos (P0_ : Nat → Prop) (u9000_ : Value) (l0 : List Int) (a1 : Nat) (w0 w : World) (hB : Below w0.heap.size w0 w) (ho0 : Kd.R (Kd.int .u8) 5 w w0.heap.size P0_ u9000_ l0) (h0 : 0 < a1) (h1 : a1 < 16 ^ 16) (hl : l0.length < 1000000000) :
    Calls Tryd.prog 20 #[u9000_, .int .u64 (a1 : Int)] w fun e w' => ∃ v0_ : Value, e = .returned (v0_) ∧ Kd.R (Kd.int .u8) 5 w' w0.heap.size (fun k_ => (P0_ k_ ∨ w.heap.size ≤ k_)) v0_ (l0 ++ hexd 16 a1 []) ∧ Below w0.heap.size w0 w' ∧ Kept w w' (fun k_ => P0_ k_) := by
  have c0 : ((a1 : Int) == 0) = false := by simp; omega
  have HB := Aside0.mk hB
  have HO := Aside0.mk ho0
  have H0 := Aside0.mk h0
  have H1 := Aside0.mk h1
  have HL := Aside0.mk hl
  clear hB ho0 h1 hl h0
  go_enter Tryd.func20, Tryd.ntmps20
  go_wp2
  have BK : (w.alloc (.cells (hexcells 16 []) 53)).heap[w.heap.size]? = some (.cells (hexcells 16 []) 53 (0, 0)) := blk_new w _
  go_loopw [1, 6] (fun s1 s6 wr => ∃ (m j : Nat) (acc : List Int), s1 = .int .u64 (m : Int) ∧ s6 = .int .i64 (j : Int) ∧ j ≤ 16 ∧ acc.length + j = 16 ∧ m < 16 ^ j ∧ hexd j m acc = hexd 16 a1 [] ∧ wr.heap[w.heap.size]? = some (.cells (hexcells j acc) 53 (0, 0)) ∧ Below w.heap.size w wr) (fun _ s6 _ => (intOf s6).toNat)
  case atStart => exact ⟨a1, 16, [], rfl, rfl, Nat.le_refl _, rfl, H1.out, rfl, BK, (Below.refl _ _).alloc (Nat.le_refl _) _⟩
  case round =>
    obtain ⟨m, j, acc, rfl, rfl, hj, hacc, hm, hhex, hblk, hbel⟩ := hrel
    have Hhex := Aside0.mk hhex
    have Hblk := Aside0.mk hblk
    have Hbel := Aside0.mk hbel
    have Hacc := Aside0.mk hacc
    have Hm := Aside0.mk hm
    have Hj := Aside0.mk hj
    by_cases hm0 : m = 0
    · subst hm0
      have hres : hexd 16 a1 [] = acc := by rw [← hhex]; cases j <;> simp [hexd]
      have Hres := Aside0.mk hres
      have hj0 : 0 ≤ (j : Int) := by omega
      have h0 := H0.out
      have hne : 0 < acc.length := by
        rw [← hres, hexd, if_neg (by omega)]
        exact Nat.lt_of_lt_of_le (by simp) (hexd_len 15 _ _)
      have hj1 : (j : Int) < 16 := by omega
      have hj2 : ¬ j = 16 := by omega
      have hj3 : (j : Int) ≤ 16 := by omega
      have hj4 : ¬ 16 = j := by omega
      clear hj1
      have hsz : w.heap.size < wr.heap.size := blk_lt hblk
      have HR : Kd.C (Kd.int .u8) wr (some ⟨w.heap.size, j, none⟩) acc.length acc := by
        refine ⟨rfl, by omega, fun _ => ⟨_, rfl, fun q p hq => ⟨[.int .u8 p], rfl, rfl, fun z u hz => ?_⟩⟩⟩
        have hq2 := (List.getElem?_eq_some_iff.1 hq).1
        have hz0 : z = 0 := by
          have := (List.getElem?_eq_some_iff.1 hz).1
          simp at this
          omega
        subst hz0
        have hu : u = .int .u8 p := by simpa using hz.symm
        subst hu
        have ha : Addr.add ⟨w.heap.size, j, none⟩ (q * 1 + 0) = ⟨w.heap.size, j + q, none⟩ := by
          rw [Nat.mul_one, Nat.add_zero]
          unfold Addr.add
          by_cases hq0 : q = 0 <;> simp [hq0]
        show wr.cell? (Addr.add ⟨w.heap.size, j, none⟩ (q * 1 + 0)) = _
        rw [ha, blk_cell hblk]
        simp [hexcells, List.getElem?_append_right, nums, hq]
      have HRS := Aside0.mk HR
      have HbelW : Below w0.heap.size w0 wr := HB.out.trans (hbel.mono HB.out.size)
      have HBW := Aside0.mk HbelW
      have hlen : (16 - (j : Int)).toNat = acc.length := by omega
      clear hhex hblk hbel hacc hm hj hres HR HbelW h0 hne
      have HRM : ReadsRow ((Kd.int .u8).M wr w0.heap.size fun _ => False) (Kd.int .u8).sz wr (some ⟨w.heap.size, j, none⟩) (16 - j) acc := by
        have e : 16 - j = acc.length := by have := Hacc.out; omega
        rw [e]; exact HRS.out
      have HRM' := Aside0.mk HRM
      clear HRM
      have HOr := Aside0.mk (Kd.R_mono (ok' := fun k_ => (P0_ k_ ∨ w.heap.size ≤ k_)) (Kd.R_below HO.out Hbel.out) (fun k_ hk => .inl hk))
      have HKr := Aside0.mk (fun (w1 : World) (hg : wr.grownBy w1 u9000_.ownBlock) => Kept.of_grown hg (Kept.of_below Hbel.out (fun k_ => P0_ k_)) (fun k hk => .inl (HO.out.1 k hk)))
      have HSr := Aside0.mk (show w.heap.size ≤ wr.heap.size by omega)
      have HLr := Aside0.mk (show (l0.length + (16 - j)) * 1 ≤ 140737488355328 by have := HL.out; omega)
      clear hsz hlen
      go_wp2_with (at_builtin; go_must (refine Kd.R_append_rows (Kd.int .u8) (w0 := w0) w0.heap.size rfl (.tmp 23) (.tmp 25) 43 5 (.int .u8 0) 1 rfl Tryd.underlying43 info5 rfl (by decide) (by omega) u9000_ l0 acc (some ⟨w.heap.size, j, none⟩) _ _ (fun k_ => (P0_ k_ ∨ w.heap.size ≤ k_)) (fun _ => False) rfl rfl HOr.out HRM'.out (fun _ _ h => h) (fun _ h => h.elim) (fun k hk => .inr (Nat.le_trans HSr.out hk)) HBW.out (below_size HBW.out) HLr.out ?_; intro v1 w1 ho hb hg hat; have HK1 := Aside0.mk (HKr.out w1 hg); have Ho := Aside0.mk ho; have Hb := Aside0.mk hb; clear ho hb hg hat))
      go_ret
      exact ⟨_, rfl, by rw [Hres.out]; exact Ho.out, Hb.out, HK1.out⟩
    · obtain ⟨i, rfl⟩ : ∃ i, j = i + 1 := ⟨j - 1, by
        have : j ≠ 0 := by rintro rfl; simp at hm; exact hm0 hm
        omega⟩
      have hgt : 0 < (m : Int) := by omega
      have hb15 := bits15 m (Nat.lt_of_lt_of_le hm (Nat.le_trans (Nat.pow_le_pow_right (by omega) (show i + 1 ≤ 16 by omega)) (by decide)))
      have q0 : 0 ≤ ((m % 16 : Nat) : Int) := by omega
      have q1 : ((m % 16 : Nat) : Int) < 16 := by omega
      have hx : ∀ h, (((⟨#[48, 49, 50, 51, 52, 53, 54, 55, 56, 57, 97, 98, 99, 100, 101, 102]⟩ : ByteArray)[m % 16]'h).toNat : Int) = bt (⟨#[48, 49, 50, 51, 52, 53, 54, 55, 56, 57, 97, 98, 99, 100, 101, 102]⟩ : ByteArray) ((m % 16 : Nat) : Int) := fun h => bt_at (⟨#[48, 49, 50, 51, 52, 53, 54, 55, 56, 57, 97, 98, 99, 100, 101, 102]⟩ : ByteArray) ((m % 16 : Nat) : Int) h
      have hi16 : (i : Int) < 16 := by omega
      have hi0 : 0 ≤ (i : Int) := by omega
      have hc : wr.cell? ⟨w.heap.size, i, none⟩ = some (.int .u8 0) := by
        rw [blk_cell hblk i]
        simp [hexcells, List.getElem?_append]
      have hf := blk_frozen hblk i
      clear hhex hblk hbel hacc hm hj
      go_wp2
      go_roundw
      case measure => simp [intOf]
      case rel =>
        have h16 := Hhex.out
        rw [hexd, if_neg hm0] at h16
        exact ⟨m / 16, i, bt (⟨#[48, 49, 50, 51, 52, 53, 54, 55, 56, 57, 97, 98, 99, 100, 101, 102]⟩ : ByteArray) ((m % 16 : Nat) : Int) :: acc, by simp, rfl, by have := Hj.out; omega, by have := Hacc.out; simp; omega, by have := Hm.out; rw [Nat.pow_succ] at this; omega, h16, blk_put Hblk.out i _ (hexcells_set _ _ _), Hbel.out.setCell (Nat.le_refl _) _⟩
set_option maxHeartbeats 8000000 in
set_option maxRecDepth 100000 in
theorem hexx_zero (P0_ : Nat → Prop) (u9000_ : Value) (l0 : List Int) (w0 w : World) (hB : Below w0.heap.size w0 w) (ho0 : Kd.R (Kd.int .u8) 5 w w0.heap.size P0_ u9000_ l0) (hl : l0.length < 1000000000) :
    Calls Tryd.prog 20 #[u9000_, .int .u64 0] w fun e w' => ∃ v0_ : Value, e = .returned (v0_) ∧ Kd.R (Kd.int .u8) 5 w' w0.heap.size (fun k_ => (P0_ k_ ∨ w.heap.size ≤ k_)) v0_ (l0 ++ [48]) ∧ Below w0.heap.size w0 w' ∧ Kept w w' (fun k_ => P0_ k_) := by
  have HB := Aside0.mk hB
  have HO := Aside0.mk (Kd.R_mono (ok' := fun k_ => (P0_ k_ ∨ w.heap.size ≤ k_)) ho0 (fun k_ hk => .inl hk))
  have HK := Aside0.mk (fun (w1 : World) (hg : w.grownBy w1 u9000_.ownBlock) => Kept.of_grown hg (Kept.refl w (fun k_ => P0_ k_)) (fun k hk => .inl (ho0.1 k hk)))
  have HL := Aside0.mk (show (l0.length + 1) * 1 ≤ 140737488355328 by omega)
  clear hB ho0 hl
  go_enter Tryd.func20, Tryd.ntmps20
  go_wp2_with ((with_reducible refine gate_builtin (b := .append) (xs := #[.tmp 9, .tmp 10]) rfl ?_); at_builtin; go_must (refine Kd.R_append (Kd.int .u8) (w0 := w0) w0.heap.size rfl (.tmp 9) (.tmp 10) 43 5 (.int .u8 0) 1 rfl Tryd.underlying43 info5 rfl (by decide) (by omega) u9000_ l0 48 [.int .u8 48] (fun k_ => (P0_ k_ ∨ w.heap.size ≤ k_)) (fun _ => False) rfl rfl rfl (fun _ hk => hk.elim) (fun k hk => .inr hk) HO.out HB.out (below_size HB.out) HL.out ?_; intro v1 w1 ho hb hg hat; have HK1 := Aside0.mk (HK.out w1 hg); have Ho := Aside0.mk ho; have Hb := Aside0.mk hb; clear ho hb hg hat))
  go_ret
  exact ⟨_, rfl, Ho.out, Hb.out, HK1.out⟩
def hertzconv_AppendIntHex.f (l0 : List Int) (a1 : Int) : Option (List Int) := if 0 ≤ a1 ∧ a1 < 18446744073709551616 ∧ l0.length < 1000000000 then some (l0 ++ (if a1 = 0 then [48] else hexd 16 a1.toNat [])) else none
theorem hertzconv_AppendIntHex.calls (P0_ : Nat → Prop) (u9000_ : Value) (l0 : List Int) (a1 : Int) (r : List Int) (w0 w : World) (hB : Below w0.heap.size w0 w) (ho0 : Kd.R (Kd.int .u8) 5 w w0.heap.size P0_ u9000_ l0) (h : hertzconv_AppendIntHex.f l0 a1 = some r) :
    Calls Tryd.prog 20 #[u9000_, .int .u64 a1] w fun e w' => ∃ v0_ : Value, e = .returned (v0_) ∧ Kd.R (Kd.int .u8) 5 w' w0.heap.size (fun k_ => (P0_ k_ ∨ w.heap.size ≤ k_)) v0_ r ∧ Below w0.heap.size w0 w' ∧ Kept w w' (fun k_ => P0_ k_) := by
  unfold hertzconv_AppendIntHex.f at h
  split at h
  · rename_i hc
    obtain ⟨h0, h1, h2⟩ := hc
    obtain rfl := Option.some.inj h
    obtain ⟨n, rfl⟩ : ∃ n : Nat, a1 = n := ⟨a1.toNat, by omega⟩
    by_cases hz : n = 0
    · subst hz
      exact hexx_zero P0_ u9000_ l0 w0 w hB ho0 h2
    · rw [if_neg (by omega)]
      exact hexx_pos P0_ u9000_ l0 n w0 w hB ho0 (by omega) (by omega) h2
  · cases h

end Go.Proofs.YtipmmjbjgbfgjaaDoor.Q
