import Derived.Test.YtipmmjbjgbfgjaaKit
import Derived.Test.YtipmmjbjgbfgjaaBt
namespace Go.Proofs.Ytipmmjbjgbfgjaa.Q
open Go.RowKit Go.Proofs.YtipmmjbjgbfgjaaW.PrintWords Go.Proofs.YtipmmjbjgbfgjaaW.PrintLast Go.Proofs.YtipmmjbjgbfgjaaW.PrintMore
def lowB (c : UInt8) : UInt8 := if 65 ≤ c.toNat ∧ c.toNat ≤ 90 then c + 32 else c
def lowBL (l : List UInt8) (k : Nat) : List UInt8 := (l.take k).map lowB ++ l.drop k
theorem lowBL_len (l : List UInt8) (k : Nat) (h : k ≤ l.length) : (lowBL l k).length = l.length := by simp [lowBL]; omega
theorem lowBL_at (l : List UInt8) (k : Nat) (h : k < l.length) : (lowBL l k)[k]? = some l[k] := by
  unfold lowBL
  rw [List.getElem?_append_right (by simp; omega)]
  simp [Nat.min_eq_left (Nat.le_of_lt h)]
theorem lowBL_set (l : List UInt8) (k : Nat) (h : k < l.length) : (lowBL l k).set k (lowB l[k]) = lowBL l (k + 1) := by
  unfold lowBL
  rw [List.set_append_right _ _ (by simp; omega), List.take_succ_eq_append_getElem h, List.map_append, List.append_assoc]
  simp [Nat.min_eq_left (Nat.le_of_lt h)]
  rw [List.drop_eq_getElem_cons h]
  rfl
theorem lowBL_same (l : List UInt8) (k : Nat) (h : k < l.length) (hc : lowB l[k] = l[k]) : lowBL l (k + 1) = lowBL l k := by
  unfold lowBL
  rw [List.take_succ_eq_append_getElem h, List.map_append, List.append_assoc]
  conv => rhs; rw [List.drop_eq_getElem_cons h]
  simp [hc]
set_option maxHeartbeats 8000000 in
set_option maxRecDepth 100000 in
theorem low_calls (s : ByteArray) (w : World) (hl : s.size ≤ 140737488355328) : Calls Try.prog 20 #[.string s] w fun e w' => e = .returned (.string ⟨(s.data.toList.map lowB).toArray⟩) ∧ Below w.heap.size w w' := by
  have HL := Aside0.mk hl
  clear hl
  have HB := Aside0.mk (Below.refl w.heap.size w)
  obtain ⟨l, hl⟩ : ∃ l, l = s.data.toList := ⟨_, rfl⟩
  have HLL := Aside0.mk hl
  have hs : s.size = l.length := by rw [hl]; simp
  have HS := Aside0.mk hs
  clear hl hs
  go_enter Try.func20, Try.ntmps20
  go_wp2_with (refine Go.Proofs.YtipmmjbjgbfgjaaX.convL_ (some 6) rfl rfl 9 24 _ rfl s rfl ?_; refine (conv_BR 9 24 5 Try.underlying9 Try.underlying24 Try.underlying5 s _).mono ?_; rintro en w6 ⟨c6, rfl, hbr, hb⟩; rw [← HLL.out] at hbr; refine ⟨_, rfl, ?_⟩; have n0_ := Aside0.mk (below_step HB.out hb); have BK := hbr; clear HB hbr hb; have HB := n0_; clear n0_; obtain ⟨gb, hgb⟩ : ∃ g, g = w.heap.size := ⟨_, rfl⟩; have GE : Aside0 (w.heap.size ≤ gb) := ⟨by omega⟩; rw [← hgb] at BK ⊢; clear hgb)
  have BK0 : Aside0 (BR w6 gb 5 (lowBL l 0)) := ⟨by rw [show lowBL l 0 = l by simp [lowBL]]; exact BK⟩
  clear BK
  go_loopw [9] (fun s9 wr => ∃ k : Nat, s9 = .int .i64 (k : Int) ∧ Aside0 (k ≤ l.length) ∧ Aside0 (BR wr gb 5 (lowBL l k)) ∧ Aside0 (Below w.heap.size w wr)) (fun s9 _ => (l.length - (intOf s9)).toNat)
  case atStart => exact ⟨0, rfl, ⟨Nat.zero_le _⟩, BK0, HB⟩
  case round =>
    clear HB BK0
    obtain ⟨k, rfl, HK, BK, HB⟩ := hrel
    obtain ⟨x9, hx9⟩ : ∃ x : Int, x = (k : Int) := ⟨_, rfl⟩
    rw [← hx9]
    have HX := Aside0.mk hx9
    have hsl : (s.size : Int) = (l.length : Int) := by rw [HS.out]
    by_cases hlt : k < l.length
    · have c1 : decide (x9 < (s.size : Int)) = true := decide_eq_true (by omega)
      have c2 : decide (0 ≤ x9) = true := decide_eq_true (by omega)
      have p1 : (0 ≤ x9) = True := eq_true (by omega)
      have q1 : (x9 < (s.size : Int)) = True := eq_true (by omega)
      have hxt : x9.toNat = k := by omega
      obtain ⟨b, hb⟩ : ∃ b : UInt8, b = l[k] := ⟨_, rfl⟩
      obtain ⟨y, hy⟩ : ∃ y : Int, y = (b.toNat : Int) := ⟨_, rfl⟩
      have hlen := lowBL_len l k HK.out
      have hat : (lowBL l k)[k]'(by omega) = l[k] := by have := lowBL_at l k hlt; rw [List.getElem?_eq_getElem (by omega)] at this; exact Option.some.inj this
      have hcell : wr.cell? ⟨gb, x9.toNat, none⟩ = some (.int .u8 y) := by rw [hxt, hy, hb, ← hat]; exact BK.out.cell k (by omega)
      have hfz : wr.frozen? ⟨gb, x9.toNat, none⟩ = false := by rw [hxt]; exact BK.out.frozen k (by omega)
      have HY := Aside0.mk hy
      have HXT := Aside0.mk hxt
      have HLT := Aside0.mk hlt
      have HLEN := Aside0.mk hlen
      have HW : Aside0 (wrap64 (x9 + 1) = ((k + 1 : Nat) : Int)) := ⟨by have h1 := HL.out; have h2 := HS.out; rw [hx9]; unfold wrap64; omega⟩
      by_cases d1 : 65 ≤ y
      · have e1 : decide (65 ≤ y) = true := decide_eq_true d1
        by_cases d2 : y ≤ 90
        · have e2 : decide (y ≤ 90) = true := decide_eq_true d2
          have HD := Aside0.mk (And.intro d1 d2)
          have hset : (lowBL l k).set k (lowB b) = lowBL l (k + 1) := by rw [hb]; exact lowBL_set l k hlt
          have HSET := Aside0.mk hset
          clear hx9 hsl hxt hy hlen hat d1 d2 hset hb hlt
          go_wp2
          go_roundw
          case measure => show ((l.length : Int) - wrap64 (x9 + 1)).toNat < ((l.length : Int) - x9).toNat; rw [HW.out]; have := HX.out; have := HLT.out; omega
          case rel =>
            refine ⟨k + 1, congrArg (Value.int .i64) HW.out, ⟨by have := HLT.out; omega⟩, ⟨?_⟩, ⟨?_⟩⟩
            · have hd := HD.out
              have hy := HY.out
              have hb2 : ((y + 32) % 256 : Int) = ((lowB b).toNat : Int) := by
                have hc : lowB b = b + 32 := if_pos (by omega)
                rw [hc]
                have : (b + 32).toNat = (b.toNat + 32) % 256 := UInt8.toNat_add ..
                rw [this]
                omega
              have hp := BK.out.put k (by have := HLEN.out; have := HLT.out; omega) (lowB b)
              rw [HSET.out] at hp
              rw [HXT.out, hb2]
              exact hp
            · repeat (first | (with_reducible first | exact HB.out | apply below_alloc | apply pw_below_drewN | apply below_drew1 | refine below_set ?_ GE.out) | exact HB.out)
        · have e2 : decide (y ≤ 90) = false := decide_eq_false d2
          have hsame : lowBL l (k + 1) = lowBL l k := lowBL_same l k hlt (by rw [← hb]; exact if_neg (by omega))
          have HSM := Aside0.mk hsame
          clear hx9 hsl hxt hy hlen hat d1 d2 hsame hb hlt
          go_wp2
          go_roundw
          case measure => show ((l.length : Int) - wrap64 (x9 + 1)).toNat < ((l.length : Int) - x9).toNat; rw [HW.out]; have := HX.out; have := HLT.out; omega
          case rel => exact ⟨k + 1, congrArg (Value.int .i64) HW.out, ⟨by have := HLT.out; omega⟩, ⟨by rw [HSM.out]; exact BK.out.heap rfl⟩, ⟨by repeat (first | (with_reducible first | exact HB.out | apply below_alloc | apply pw_below_drewN | apply below_drew1) | exact HB.out)⟩⟩
      · have e1 : decide (65 ≤ y) = false := decide_eq_false d1
        have hsame : lowBL l (k + 1) = lowBL l k := lowBL_same l k hlt (by rw [← hb]; exact if_neg (by omega))
        have HSM := Aside0.mk hsame
        clear hx9 hsl hxt hy hlen hat d1 hsame hb hlt
        go_wp2
        go_roundw
        case measure => show ((l.length : Int) - wrap64 (x9 + 1)).toNat < ((l.length : Int) - x9).toNat; rw [HW.out]; have := HX.out; have := HLT.out; omega
        case rel => exact ⟨k + 1, congrArg (Value.int .i64) HW.out, ⟨by have := HLT.out; omega⟩, ⟨by rw [HSM.out]; exact BK.out.heap rfl⟩, ⟨by repeat (first | (with_reducible first | exact HB.out | apply below_alloc | apply pw_below_drewN | apply below_drew1) | exact HB.out)⟩⟩
    · have c1 : decide (x9 < (s.size : Int)) = false := decide_eq_false (by omega)
      have hke : k = l.length := by have := HK.out; omega
      have hcv := And.intro (BR.back BK.out 24 9 c6 Try.underlying24 Try.underlying5 Try.underlying9) (fun m => BR.back (BK.out.drewN m) 24 9 c6 Try.underlying24 Try.underlying5 Try.underlying9)
      rw [lowBL_len l k HK.out, ← HS.out] at hcv
      have HKE := Aside0.mk hke
      clear hx9 hsl hke hlt
      go_wp2
      go_ret
      refine ⟨?_, by repeat (first | (with_reducible first | exact HB.out | apply below_alloc | apply pw_below_drewN | apply below_drew1) | exact HB.out)⟩
      rw [HKE.out, ← HLL.out]
      simp [lowBL]

def uppB (c : UInt8) : UInt8 := if 97 ≤ c.toNat ∧ c.toNat ≤ 122 then c - 32 else c
def uppBL (l : List UInt8) (k : Nat) : List UInt8 := (l.take k).map uppB ++ l.drop k
theorem uppBL_len (l : List UInt8) (k : Nat) (h : k ≤ l.length) : (uppBL l k).length = l.length := by simp [uppBL]; omega
theorem uppBL_at (l : List UInt8) (k : Nat) (h : k < l.length) : (uppBL l k)[k]? = some l[k] := by
  unfold uppBL
  rw [List.getElem?_append_right (by simp; omega)]
  simp [Nat.min_eq_left (Nat.le_of_lt h)]
theorem uppBL_set (l : List UInt8) (k : Nat) (h : k < l.length) : (uppBL l k).set k (uppB l[k]) = uppBL l (k + 1) := by
  unfold uppBL
  rw [List.set_append_right _ _ (by simp; omega), List.take_succ_eq_append_getElem h, List.map_append, List.append_assoc]
  simp [Nat.min_eq_left (Nat.le_of_lt h)]
  rw [List.drop_eq_getElem_cons h]
  rfl
theorem uppBL_same (l : List UInt8) (k : Nat) (h : k < l.length) (hc : uppB l[k] = l[k]) : uppBL l (k + 1) = uppBL l k := by
  unfold uppBL
  rw [List.take_succ_eq_append_getElem h, List.map_append, List.append_assoc]
  conv => rhs; rw [List.drop_eq_getElem_cons h]
  simp [hc]
set_option maxHeartbeats 8000000 in
set_option maxRecDepth 100000 in
theorem upper_calls (s : ByteArray) (w : World) (hl : s.size ≤ 140737488355328) : Calls Try.prog 43 #[.string s] w fun e w' => e = .returned (.string ⟨(s.data.toList.map uppB).toArray⟩) ∧ Below w.heap.size w w' := by
  have HL := Aside0.mk hl
  clear hl
  have HB := Aside0.mk (Below.refl w.heap.size w)
  obtain ⟨l, hl⟩ : ∃ l, l = s.data.toList := ⟨_, rfl⟩
  have HLL := Aside0.mk hl
  have hs : s.size = l.length := by rw [hl]; simp
  have HS := Aside0.mk hs
  clear hl hs
  go_enter Try.func43, Try.ntmps43
  go_wp2_with (refine Go.Proofs.YtipmmjbjgbfgjaaX.convL_ (some 6) rfl rfl 9 24 _ rfl s rfl ?_; refine (conv_BR 9 24 5 Try.underlying9 Try.underlying24 Try.underlying5 s _).mono ?_; rintro en w6 ⟨c6, rfl, hbr, hb⟩; rw [← HLL.out] at hbr; refine ⟨_, rfl, ?_⟩; have n0_ := Aside0.mk (below_step HB.out hb); have BK := hbr; clear HB hbr hb; have HB := n0_; clear n0_; obtain ⟨gb, hgb⟩ : ∃ g, g = w.heap.size := ⟨_, rfl⟩; have GE : Aside0 (w.heap.size ≤ gb) := ⟨by omega⟩; rw [← hgb] at BK ⊢; clear hgb)
  have BK0 : Aside0 (BR w6 gb 5 (uppBL l 0)) := ⟨by rw [show uppBL l 0 = l by simp [uppBL]]; exact BK⟩
  clear BK
  go_loopw [9] (fun s9 wr => ∃ k : Nat, s9 = .int .i64 (k : Int) ∧ Aside0 (k ≤ l.length) ∧ Aside0 (BR wr gb 5 (uppBL l k)) ∧ Aside0 (Below w.heap.size w wr)) (fun s9 _ => (l.length - (intOf s9)).toNat)
  case atStart => exact ⟨0, rfl, ⟨Nat.zero_le _⟩, BK0, HB⟩
  case round =>
    clear HB BK0
    obtain ⟨k, rfl, HK, BK, HB⟩ := hrel
    obtain ⟨x9, hx9⟩ : ∃ x : Int, x = (k : Int) := ⟨_, rfl⟩
    rw [← hx9]
    have HX := Aside0.mk hx9
    have hsl : (s.size : Int) = (l.length : Int) := by rw [HS.out]
    by_cases hlt : k < l.length
    · have c1 : decide (x9 < (s.size : Int)) = true := decide_eq_true (by omega)
      have c2 : decide (0 ≤ x9) = true := decide_eq_true (by omega)
      have p1 : (0 ≤ x9) = True := eq_true (by omega)
      have q1 : (x9 < (s.size : Int)) = True := eq_true (by omega)
      have hxt : x9.toNat = k := by omega
      obtain ⟨b, hb⟩ : ∃ b : UInt8, b = l[k] := ⟨_, rfl⟩
      obtain ⟨y, hy⟩ : ∃ y : Int, y = (b.toNat : Int) := ⟨_, rfl⟩
      have hlen := uppBL_len l k HK.out
      have hat : (uppBL l k)[k]'(by omega) = l[k] := by have := uppBL_at l k hlt; rw [List.getElem?_eq_getElem (by omega)] at this; exact Option.some.inj this
      have hcell : wr.cell? ⟨gb, x9.toNat, none⟩ = some (.int .u8 y) := by rw [hxt, hy, hb, ← hat]; exact BK.out.cell k (by omega)
      have hfz : wr.frozen? ⟨gb, x9.toNat, none⟩ = false := by rw [hxt]; exact BK.out.frozen k (by omega)
      have HY := Aside0.mk hy
      have HXT := Aside0.mk hxt
      have HLT := Aside0.mk hlt
      have HLEN := Aside0.mk hlen
      have HW : Aside0 (wrap64 (x9 + 1) = ((k + 1 : Nat) : Int)) := ⟨by have h1 := HL.out; have h2 := HS.out; rw [hx9]; unfold wrap64; omega⟩
      by_cases d1 : 97 ≤ y
      · have e1 : decide (97 ≤ y) = true := decide_eq_true d1
        by_cases d2 : y ≤ 122
        · have e2 : decide (y ≤ 122) = true := decide_eq_true d2
          have HD := Aside0.mk (And.intro d1 d2)
          have hset : (uppBL l k).set k (uppB b) = uppBL l (k + 1) := by rw [hb]; exact uppBL_set l k hlt
          have HSET := Aside0.mk hset
          clear hx9 hsl hxt hy hlen hat d1 d2 hset hb hlt
          go_wp2
          go_roundw
          case measure => show ((l.length : Int) - wrap64 (x9 + 1)).toNat < ((l.length : Int) - x9).toNat; rw [HW.out]; have := HX.out; have := HLT.out; omega
          case rel =>
            refine ⟨k + 1, congrArg (Value.int .i64) HW.out, ⟨by have := HLT.out; omega⟩, ⟨?_⟩, ⟨?_⟩⟩
            · have hd := HD.out
              have hy := HY.out
              have hb2 : ((y - 32) % 256 : Int) = ((uppB b).toNat : Int) := by
                have hc : uppB b = b - 32 := if_pos (by omega)
                rw [hc]
                have : (b - 32).toNat = (256 - 32 + b.toNat) % 256 := UInt8.toNat_sub ..
                rw [this]
                omega
              have hp := BK.out.put k (by have := HLEN.out; have := HLT.out; omega) (uppB b)
              rw [HSET.out] at hp
              rw [HXT.out, hb2]
              exact hp
            · repeat (first | (with_reducible first | exact HB.out | apply below_alloc | apply pw_below_drewN | apply below_drew1 | refine below_set ?_ GE.out) | exact HB.out)
        · have e2 : decide (y ≤ 122) = false := decide_eq_false d2
          have hsame : uppBL l (k + 1) = uppBL l k := uppBL_same l k hlt (by rw [← hb]; exact if_neg (by omega))
          have HSM := Aside0.mk hsame
          clear hx9 hsl hxt hy hlen hat d1 d2 hsame hb hlt
          go_wp2
          go_roundw
          case measure => show ((l.length : Int) - wrap64 (x9 + 1)).toNat < ((l.length : Int) - x9).toNat; rw [HW.out]; have := HX.out; have := HLT.out; omega
          case rel => exact ⟨k + 1, congrArg (Value.int .i64) HW.out, ⟨by have := HLT.out; omega⟩, ⟨by rw [HSM.out]; exact BK.out.heap rfl⟩, ⟨by repeat (first | (with_reducible first | exact HB.out | apply below_alloc | apply pw_below_drewN | apply below_drew1) | exact HB.out)⟩⟩
      · have e1 : decide (97 ≤ y) = false := decide_eq_false d1
        have hsame : uppBL l (k + 1) = uppBL l k := uppBL_same l k hlt (by rw [← hb]; exact if_neg (by omega))
        have HSM := Aside0.mk hsame
        clear hx9 hsl hxt hy hlen hat d1 hsame hb hlt
        go_wp2
        go_roundw
        case measure => show ((l.length : Int) - wrap64 (x9 + 1)).toNat < ((l.length : Int) - x9).toNat; rw [HW.out]; have := HX.out; have := HLT.out; omega
        case rel => exact ⟨k + 1, congrArg (Value.int .i64) HW.out, ⟨by have := HLT.out; omega⟩, ⟨by rw [HSM.out]; exact BK.out.heap rfl⟩, ⟨by repeat (first | (with_reducible first | exact HB.out | apply below_alloc | apply pw_below_drewN | apply below_drew1) | exact HB.out)⟩⟩
    · have c1 : decide (x9 < (s.size : Int)) = false := decide_eq_false (by omega)
      have hke : k = l.length := by have := HK.out; omega
      have hcv := And.intro (BR.back BK.out 24 9 c6 Try.underlying24 Try.underlying5 Try.underlying9) (fun m => BR.back (BK.out.drewN m) 24 9 c6 Try.underlying24 Try.underlying5 Try.underlying9)
      rw [uppBL_len l k HK.out, ← HS.out] at hcv
      have HKE := Aside0.mk hke
      clear hx9 hsl hke hlt
      go_wp2
      go_ret
      refine ⟨?_, by repeat (first | (with_reducible first | exact HB.out | apply below_alloc | apply pw_below_drewN | apply below_drew1) | exact HB.out)⟩
      rw [HKE.out, ← HLL.out]
      simp [uppBL]

set_option maxHeartbeats 8000000 in
set_option maxRecDepth 100000 in
theorem lower_calls (s : ByteArray) (w : World) (hl : s.size ≤ 140737488355328) : Calls Try.prog 42 #[.string s] w fun e w' => e = .returned (.string ⟨(s.data.toList.map lowB).toArray⟩) ∧ Below w.heap.size w w' := by
  have HL := Aside0.mk hl
  clear hl
  have HB := Aside0.mk (Below.refl w.heap.size w)
  obtain ⟨l, hl⟩ : ∃ l, l = s.data.toList := ⟨_, rfl⟩
  have HLL := Aside0.mk hl
  have hs : s.size = l.length := by rw [hl]; simp
  have HS := Aside0.mk hs
  clear hl hs
  go_enter Try.func42, Try.ntmps42
  go_wp2_with (refine Go.Proofs.YtipmmjbjgbfgjaaX.convL_ (some 6) rfl rfl 9 24 _ rfl s rfl ?_; refine (conv_BR 9 24 5 Try.underlying9 Try.underlying24 Try.underlying5 s _).mono ?_; rintro en w6 ⟨c6, rfl, hbr, hb⟩; rw [← HLL.out] at hbr; refine ⟨_, rfl, ?_⟩; have n0_ := Aside0.mk (below_step HB.out hb); have BK := hbr; clear HB hbr hb; have HB := n0_; clear n0_; obtain ⟨gb, hgb⟩ : ∃ g, g = w.heap.size := ⟨_, rfl⟩; have GE : Aside0 (w.heap.size ≤ gb) := ⟨by omega⟩; rw [← hgb] at BK ⊢; clear hgb)
  have BK0 : Aside0 (BR w6 gb 5 (lowBL l 0)) := ⟨by rw [show lowBL l 0 = l by simp [lowBL]]; exact BK⟩
  clear BK
  go_loopw [9] (fun s9 wr => ∃ k : Nat, s9 = .int .i64 (k : Int) ∧ Aside0 (k ≤ l.length) ∧ Aside0 (BR wr gb 5 (lowBL l k)) ∧ Aside0 (Below w.heap.size w wr)) (fun s9 _ => (l.length - (intOf s9)).toNat)
  case atStart => exact ⟨0, rfl, ⟨Nat.zero_le _⟩, BK0, HB⟩
  case round =>
    clear HB BK0
    obtain ⟨k, rfl, HK, BK, HB⟩ := hrel
    obtain ⟨x9, hx9⟩ : ∃ x : Int, x = (k : Int) := ⟨_, rfl⟩
    rw [← hx9]
    have HX := Aside0.mk hx9
    have hsl : (s.size : Int) = (l.length : Int) := by rw [HS.out]
    by_cases hlt : k < l.length
    · have c1 : decide (x9 < (s.size : Int)) = true := decide_eq_true (by omega)
      have c2 : decide (0 ≤ x9) = true := decide_eq_true (by omega)
      have p1 : (0 ≤ x9) = True := eq_true (by omega)
      have q1 : (x9 < (s.size : Int)) = True := eq_true (by omega)
      have hxt : x9.toNat = k := by omega
      obtain ⟨b, hb⟩ : ∃ b : UInt8, b = l[k] := ⟨_, rfl⟩
      obtain ⟨y, hy⟩ : ∃ y : Int, y = (b.toNat : Int) := ⟨_, rfl⟩
      have hlen := lowBL_len l k HK.out
      have hat : (lowBL l k)[k]'(by omega) = l[k] := by have := lowBL_at l k hlt; rw [List.getElem?_eq_getElem (by omega)] at this; exact Option.some.inj this
      have hcell : wr.cell? ⟨gb, x9.toNat, none⟩ = some (.int .u8 y) := by rw [hxt, hy, hb, ← hat]; exact BK.out.cell k (by omega)
      have hfz : wr.frozen? ⟨gb, x9.toNat, none⟩ = false := by rw [hxt]; exact BK.out.frozen k (by omega)
      have HY := Aside0.mk hy
      have HXT := Aside0.mk hxt
      have HLT := Aside0.mk hlt
      have HLEN := Aside0.mk hlen
      have HW : Aside0 (wrap64 (x9 + 1) = ((k + 1 : Nat) : Int)) := ⟨by have h1 := HL.out; have h2 := HS.out; rw [hx9]; unfold wrap64; omega⟩
      by_cases d1 : 65 ≤ y
      · have e1 : decide (65 ≤ y) = true := decide_eq_true d1
        by_cases d2 : y ≤ 90
        · have e2 : decide (y ≤ 90) = true := decide_eq_true d2
          have HD := Aside0.mk (And.intro d1 d2)
          have hset : (lowBL l k).set k (lowB b) = lowBL l (k + 1) := by rw [hb]; exact lowBL_set l k hlt
          have HSET := Aside0.mk hset
          clear hx9 hsl hxt hy hlen hat d1 d2 hset hb hlt
          go_wp2
          go_roundw
          case measure => show ((l.length : Int) - wrap64 (x9 + 1)).toNat < ((l.length : Int) - x9).toNat; rw [HW.out]; have := HX.out; have := HLT.out; omega
          case rel =>
            refine ⟨k + 1, congrArg (Value.int .i64) HW.out, ⟨by have := HLT.out; omega⟩, ⟨?_⟩, ⟨?_⟩⟩
            · have hd := HD.out
              have hy := HY.out
              have hb2 : ((y + 32) % 256 : Int) = ((lowB b).toNat : Int) := by
                have hc : lowB b = b + 32 := if_pos (by omega)
                rw [hc]
                have : (b + 32).toNat = (b.toNat + 32) % 256 := UInt8.toNat_add ..
                rw [this]
                omega
              have hp := BK.out.put k (by have := HLEN.out; have := HLT.out; omega) (lowB b)
              rw [HSET.out] at hp
              rw [HXT.out, hb2]
              exact hp
            · repeat (first | (with_reducible first | exact HB.out | apply below_alloc | apply pw_below_drewN | apply below_drew1 | refine below_set ?_ GE.out) | exact HB.out)
        · have e2 : decide (y ≤ 90) = false := decide_eq_false d2
          have hsame : lowBL l (k + 1) = lowBL l k := lowBL_same l k hlt (by rw [← hb]; exact if_neg (by omega))
          have HSM := Aside0.mk hsame
          clear hx9 hsl hxt hy hlen hat d1 d2 hsame hb hlt
          go_wp2
          go_roundw
          case measure => show ((l.length : Int) - wrap64 (x9 + 1)).toNat < ((l.length : Int) - x9).toNat; rw [HW.out]; have := HX.out; have := HLT.out; omega
          case rel => exact ⟨k + 1, congrArg (Value.int .i64) HW.out, ⟨by have := HLT.out; omega⟩, ⟨by rw [HSM.out]; exact BK.out.heap rfl⟩, ⟨by repeat (first | (with_reducible first | exact HB.out | apply below_alloc | apply pw_below_drewN | apply below_drew1) | exact HB.out)⟩⟩
      · have e1 : decide (65 ≤ y) = false := decide_eq_false d1
        have hsame : lowBL l (k + 1) = lowBL l k := lowBL_same l k hlt (by rw [← hb]; exact if_neg (by omega))
        have HSM := Aside0.mk hsame
        clear hx9 hsl hxt hy hlen hat d1 hsame hb hlt
        go_wp2
        go_roundw
        case measure => show ((l.length : Int) - wrap64 (x9 + 1)).toNat < ((l.length : Int) - x9).toNat; rw [HW.out]; have := HX.out; have := HLT.out; omega
        case rel => exact ⟨k + 1, congrArg (Value.int .i64) HW.out, ⟨by have := HLT.out; omega⟩, ⟨by rw [HSM.out]; exact BK.out.heap rfl⟩, ⟨by repeat (first | (with_reducible first | exact HB.out | apply below_alloc | apply pw_below_drewN | apply below_drew1) | exact HB.out)⟩⟩
    · have c1 : decide (x9 < (s.size : Int)) = false := decide_eq_false (by omega)
      have hke : k = l.length := by have := HK.out; omega
      have hcv := And.intro (BR.back BK.out 24 9 c6 Try.underlying24 Try.underlying5 Try.underlying9) (fun m => BR.back (BK.out.drewN m) 24 9 c6 Try.underlying24 Try.underlying5 Try.underlying9)
      rw [lowBL_len l k HK.out, ← HS.out] at hcv
      have HKE := Aside0.mk hke
      clear hx9 hsl hke hlt
      go_wp2
      go_ret
      refine ⟨?_, by repeat (first | (with_reducible first | exact HB.out | apply below_alloc | apply pw_below_drewN | apply below_drew1) | exact HB.out)⟩
      rw [HKE.out, ← HLL.out]
      simp [lowBL]

def tabUpp (c : UInt8) : UInt8 := tab1.data.toList.getD c.toNat 0
theorem tabUpp_bt (c : UInt8) : bt tab1 (c.toNat : Int) = ((tabUpp c).toNat : Int) := by
  have h : c.toNat < tab1.data.toList.length := Nat.lt_of_lt_of_eq c.toNat_lt (by kernel_rfl)
  rw [Go.Proofs.YtipmmjbjgbfgjaaKit.bt_nat tab1 c.toNat h]
  unfold tabUpp
  rw [List.getD_eq_getElem?_getD, List.getElem?_eq_getElem h]
  rfl
def tabUppL (l : List UInt8) (k : Nat) : List UInt8 := (l.take k).map tabUpp ++ l.drop k
theorem tabUppL_len (l : List UInt8) (k : Nat) (h : k ≤ l.length) : (tabUppL l k).length = l.length := by simp [tabUppL]; omega
theorem tabUppL_at (l : List UInt8) (k : Nat) (h : k < l.length) : (tabUppL l k)[k]? = some l[k] := by
  unfold tabUppL
  rw [List.getElem?_append_right (by simp; omega)]
  simp [Nat.min_eq_left (Nat.le_of_lt h)]
theorem tabUppL_set (l : List UInt8) (k : Nat) (h : k < l.length) : (tabUppL l k).set k (tabUpp l[k]) = tabUppL l (k + 1) := by
  unfold tabUppL
  rw [List.set_append_right _ _ (by simp; omega), List.take_succ_eq_append_getElem h, List.map_append, List.append_assoc]
  simp [Nat.min_eq_left (Nat.le_of_lt h)]
  rw [List.drop_eq_getElem_cons h]
  rfl
set_option maxHeartbeats 8000000 in
set_option maxRecDepth 100000 in
theorem toUpper_calls (s : ByteArray) (w : World) (hl : s.size ≤ 140737488355328) : Calls Try.prog 59 #[.string s] w fun e w' => e = .returned (.string ⟨(s.data.toList.map tabUpp).toArray⟩) ∧ Below w.heap.size w w' := by
  have HL := Aside0.mk hl
  clear hl
  have HB := Aside0.mk (Below.refl w.heap.size w)
  obtain ⟨l, hl⟩ : ∃ l, l = s.data.toList := ⟨_, rfl⟩
  have HLL := Aside0.mk hl
  have hs : s.size = l.length := by rw [hl]; simp
  have HS := Aside0.mk hs
  clear hl hs
  go_enter Try.func59, Try.ntmps59
  go_wp2_with (first | ((with_reducible refine gate_dst (N := 7) rfl ?_); refine make_BR rfl 24 5 _ _ rfl s.size rfl rfl Try.underlying24 info5 (by have := HL.out; omega) ?_; intro w6 gb hgb hbr hb; have GE : Aside0 (w.heap.size ≤ gb) := ⟨by rw [hgb]; exact below_size HB.out⟩; have n0_ := Aside0.mk (below_step HB.out hb); have BK := Aside0.mk hbr; clear HB hbr hb hgb; have HB := n0_; clear n0_) | ((with_reducible refine gate_builtin (b := .copy) (xs := #[.tmp 8, .tmp 9]) rfl ?_); refine copy_BR rfl (.tmp 8) (.tmp 9) 24 9 5 rfl Try.underlying24 (fun W => by kernel_rfl) gb _ (List.replicate s.size 0) s (by simp) rfl rfl BK.out w.heap.size GE.out ?_; intro w7 hbr hb; rw [← HLL.out] at hbr; have n0_ := Aside0.mk (HB.out.trans hb); clear HB BK hb; have BK := hbr; have HB := n0_; clear n0_ hbr))
  have BK0 : Aside0 (BR w7 gb 5 (tabUppL l 0)) := ⟨by rw [show tabUppL l 0 = l by simp [tabUppL]]; exact BK⟩
  clear BK
  go_loopw [4] (fun s9 wr => ∃ k : Nat, s9 = .int .i64 (k : Int) ∧ Aside0 (k ≤ l.length) ∧ Aside0 (BR wr gb 5 (tabUppL l k)) ∧ Aside0 (Below w.heap.size w wr)) (fun s9 _ => (l.length - (intOf s9)).toNat)
  case atStart => exact ⟨0, rfl, ⟨Nat.zero_le _⟩, BK0, HB⟩
  case round =>
    clear HB BK0
    obtain ⟨k, rfl, HK, BK, HB⟩ := hrel
    obtain ⟨x9, hx9⟩ : ∃ x : Int, x = (k : Int) := ⟨_, rfl⟩
    rw [← hx9]
    have HX := Aside0.mk hx9
    have hsl : (s.size : Int) = (l.length : Int) := by rw [HS.out]
    by_cases hlt : k < l.length
    · have c1 : decide (x9 < (s.size : Int)) = true := decide_eq_true (by omega)
      have c2 : decide (0 ≤ x9) = true := decide_eq_true (by omega)
      have p1 : (0 ≤ x9) = True := eq_true (by omega)
      have q1 : (x9 < (s.size : Int)) = True := eq_true (by omega)
      have hxt : x9.toNat = k := by omega
      obtain ⟨b, hb⟩ : ∃ b : UInt8, b = l[k] := ⟨_, rfl⟩
      obtain ⟨y, hy⟩ : ∃ y : Int, y = (b.toNat : Int) := ⟨_, rfl⟩
      have hlen := tabUppL_len l k HK.out
      have hat : (tabUppL l k)[k]'(by omega) = l[k] := by have := tabUppL_at l k hlt; rw [List.getElem?_eq_getElem (by omega)] at this; exact Option.some.inj this
      have hcell : wr.cell? ⟨gb, x9.toNat, none⟩ = some (.int .u8 y) := by rw [hxt, hy, hb, ← hat]; exact BK.out.cell k (by omega)
      have hfz : wr.frozen? ⟨gb, x9.toNat, none⟩ = false := by rw [hxt]; exact BK.out.frozen k (by omega)
      have HY := Aside0.mk hy
      have HXT := Aside0.mk hxt
      have HLT := Aside0.mk hlt
      have HLEN := Aside0.mk hlen
      have HW : Aside0 (wrap64 (x9 + 1) = ((k + 1 : Nat) : Int)) := ⟨by have h1 := HL.out; have h2 := HS.out; rw [hx9]; unfold wrap64; omega⟩
      have hset : (tabUppL l k).set k (tabUpp b) = tabUppL l (k + 1) := by rw [hb]; exact tabUppL_set l k hlt
      have HSET := Aside0.mk hset
      have hy0 : 0 ≤ y := by omega
      have hyt : y < (tab1.size : Int) := by have h1 := b.toNat_lt; (have h2 : tab1.size = 256 := by kernel_rfl); omega
      have HY0 := Aside0.mk hy0
      have HYT := Aside0.mk hyt
      clear hx9 hsl hxt hy hlen hat hset hb hlt hy0 hyt
      go_wp2_with ((with_reducible refine gate_dst (N := 23) rfl ?_); refine Go.Proofs.YtipmmjbjgbfgjaaX.index_tab (some 23) rfl rfl 9 _ _ rfl Try.underlying9 tab1 (by kernel_rfl) .u8 y rfl HY0.out HYT.out ?_)
      go_roundw
      case measure => show ((l.length : Int) - wrap64 (x9 + 1)).toNat < ((l.length : Int) - x9).toNat; rw [HW.out]; have := HX.out; have := HLT.out; omega
      case rel =>
        refine ⟨k + 1, congrArg (Value.int .i64) HW.out, ⟨by have := HLT.out; omega⟩, ⟨?_⟩, ⟨?_⟩⟩
        · have hp := BK.out.put k (by have := HLEN.out; have := HLT.out; omega) (tabUpp b)
          rw [HSET.out] at hp
          rw [HXT.out, HY.out, tabUpp_bt b]
          exact hp
        · repeat (first | (with_reducible first | exact HB.out | apply below_alloc | apply pw_below_drewN | apply below_drew1 | refine below_set ?_ GE.out) | exact HB.out)
    · have c1 : decide (x9 < (s.size : Int)) = false := decide_eq_false (by omega)
      have hke : k = l.length := by have := HK.out; omega
      have hcv := And.intro (BR.back BK.out 24 9 s.size Try.underlying24 Try.underlying5 Try.underlying9) (fun m => BR.back (BK.out.drewN m) 24 9 s.size Try.underlying24 Try.underlying5 Try.underlying9)
      rw [tabUppL_len l k HK.out, ← HS.out] at hcv
      have HKE := Aside0.mk hke
      clear hx9 hsl hke hlt
      go_wp2
      go_ret
      refine ⟨?_, by repeat (first | (with_reducible first | exact HB.out | apply below_alloc | apply pw_below_drewN | apply below_drew1) | exact HB.out)⟩
      rw [HKE.out, ← HLL.out]
      simp [tabUppL]

def tabLow (c : UInt8) : UInt8 := tab2.data.toList.getD c.toNat 0
theorem tabLow_bt (c : UInt8) : bt tab2 (c.toNat : Int) = ((tabLow c).toNat : Int) := by
  have h : c.toNat < tab2.data.toList.length := Nat.lt_of_lt_of_eq c.toNat_lt (by kernel_rfl)
  rw [Go.Proofs.YtipmmjbjgbfgjaaKit.bt_nat tab2 c.toNat h]
  unfold tabLow
  rw [List.getD_eq_getElem?_getD, List.getElem?_eq_getElem h]
  rfl
def tabLowL (l : List UInt8) (k : Nat) : List UInt8 := (l.take k).map tabLow ++ l.drop k
theorem tabLowL_len (l : List UInt8) (k : Nat) (h : k ≤ l.length) : (tabLowL l k).length = l.length := by simp [tabLowL]; omega
theorem tabLowL_at (l : List UInt8) (k : Nat) (h : k < l.length) : (tabLowL l k)[k]? = some l[k] := by
  unfold tabLowL
  rw [List.getElem?_append_right (by simp; omega)]
  simp [Nat.min_eq_left (Nat.le_of_lt h)]
theorem tabLowL_set (l : List UInt8) (k : Nat) (h : k < l.length) : (tabLowL l k).set k (tabLow l[k]) = tabLowL l (k + 1) := by
  unfold tabLowL
  rw [List.set_append_right _ _ (by simp; omega), List.take_succ_eq_append_getElem h, List.map_append, List.append_assoc]
  simp [Nat.min_eq_left (Nat.le_of_lt h)]
  rw [List.drop_eq_getElem_cons h]
  rfl
set_option maxHeartbeats 8000000 in
set_option maxRecDepth 100000 in
theorem toLower_calls (s : ByteArray) (w : World) (hl : s.size ≤ 140737488355328) : Calls Try.prog 58 #[.string s] w fun e w' => e = .returned (.string ⟨(s.data.toList.map tabLow).toArray⟩) ∧ Below w.heap.size w w' := by
  have HL := Aside0.mk hl
  clear hl
  have HB := Aside0.mk (Below.refl w.heap.size w)
  obtain ⟨l, hl⟩ : ∃ l, l = s.data.toList := ⟨_, rfl⟩
  have HLL := Aside0.mk hl
  have hs : s.size = l.length := by rw [hl]; simp
  have HS := Aside0.mk hs
  clear hl hs
  go_enter Try.func58, Try.ntmps58
  go_wp2_with (first | ((with_reducible refine gate_dst (N := 7) rfl ?_); refine make_BR rfl 24 5 _ _ rfl s.size rfl rfl Try.underlying24 info5 (by have := HL.out; omega) ?_; intro w6 gb hgb hbr hb; have GE : Aside0 (w.heap.size ≤ gb) := ⟨by rw [hgb]; exact below_size HB.out⟩; have n0_ := Aside0.mk (below_step HB.out hb); have BK := Aside0.mk hbr; clear HB hbr hb hgb; have HB := n0_; clear n0_) | ((with_reducible refine gate_builtin (b := .copy) (xs := #[.tmp 8, .tmp 9]) rfl ?_); refine copy_BR rfl (.tmp 8) (.tmp 9) 24 9 5 rfl Try.underlying24 (fun W => by kernel_rfl) gb _ (List.replicate s.size 0) s (by simp) rfl rfl BK.out w.heap.size GE.out ?_; intro w7 hbr hb; rw [← HLL.out] at hbr; have n0_ := Aside0.mk (HB.out.trans hb); clear HB BK hb; have BK := hbr; have HB := n0_; clear n0_ hbr))
  have BK0 : Aside0 (BR w7 gb 5 (tabLowL l 0)) := ⟨by rw [show tabLowL l 0 = l by simp [tabLowL]]; exact BK⟩
  clear BK
  go_loopw [4] (fun s9 wr => ∃ k : Nat, s9 = .int .i64 (k : Int) ∧ Aside0 (k ≤ l.length) ∧ Aside0 (BR wr gb 5 (tabLowL l k)) ∧ Aside0 (Below w.heap.size w wr)) (fun s9 _ => (l.length - (intOf s9)).toNat)
  case atStart => exact ⟨0, rfl, ⟨Nat.zero_le _⟩, BK0, HB⟩
  case round =>
    clear HB BK0
    obtain ⟨k, rfl, HK, BK, HB⟩ := hrel
    obtain ⟨x9, hx9⟩ : ∃ x : Int, x = (k : Int) := ⟨_, rfl⟩
    rw [← hx9]
    have HX := Aside0.mk hx9
    have hsl : (s.size : Int) = (l.length : Int) := by rw [HS.out]
    by_cases hlt : k < l.length
    · have c1 : decide (x9 < (s.size : Int)) = true := decide_eq_true (by omega)
      have c2 : decide (0 ≤ x9) = true := decide_eq_true (by omega)
      have p1 : (0 ≤ x9) = True := eq_true (by omega)
      have q1 : (x9 < (s.size : Int)) = True := eq_true (by omega)
      have hxt : x9.toNat = k := by omega
      obtain ⟨b, hb⟩ : ∃ b : UInt8, b = l[k] := ⟨_, rfl⟩
      obtain ⟨y, hy⟩ : ∃ y : Int, y = (b.toNat : Int) := ⟨_, rfl⟩
      have hlen := tabLowL_len l k HK.out
      have hat : (tabLowL l k)[k]'(by omega) = l[k] := by have := tabLowL_at l k hlt; rw [List.getElem?_eq_getElem (by omega)] at this; exact Option.some.inj this
      have hcell : wr.cell? ⟨gb, x9.toNat, none⟩ = some (.int .u8 y) := by rw [hxt, hy, hb, ← hat]; exact BK.out.cell k (by omega)
      have hfz : wr.frozen? ⟨gb, x9.toNat, none⟩ = false := by rw [hxt]; exact BK.out.frozen k (by omega)
      have HY := Aside0.mk hy
      have HXT := Aside0.mk hxt
      have HLT := Aside0.mk hlt
      have HLEN := Aside0.mk hlen
      have HW : Aside0 (wrap64 (x9 + 1) = ((k + 1 : Nat) : Int)) := ⟨by have h1 := HL.out; have h2 := HS.out; rw [hx9]; unfold wrap64; omega⟩
      have hset : (tabLowL l k).set k (tabLow b) = tabLowL l (k + 1) := by rw [hb]; exact tabLowL_set l k hlt
      have HSET := Aside0.mk hset
      have hy0 : 0 ≤ y := by omega
      have hyt : y < (tab2.size : Int) := by have h1 := b.toNat_lt; (have h2 : tab2.size = 256 := by kernel_rfl); omega
      have HY0 := Aside0.mk hy0
      have HYT := Aside0.mk hyt
      clear hx9 hsl hxt hy hlen hat hset hb hlt hy0 hyt
      go_wp2_with ((with_reducible refine gate_dst (N := 23) rfl ?_); refine Go.Proofs.YtipmmjbjgbfgjaaX.index_tab (some 23) rfl rfl 9 _ _ rfl Try.underlying9 tab2 (by kernel_rfl) .u8 y rfl HY0.out HYT.out ?_)
      go_roundw
      case measure => show ((l.length : Int) - wrap64 (x9 + 1)).toNat < ((l.length : Int) - x9).toNat; rw [HW.out]; have := HX.out; have := HLT.out; omega
      case rel =>
        refine ⟨k + 1, congrArg (Value.int .i64) HW.out, ⟨by have := HLT.out; omega⟩, ⟨?_⟩, ⟨?_⟩⟩
        · have hp := BK.out.put k (by have := HLEN.out; have := HLT.out; omega) (tabLow b)
          rw [HSET.out] at hp
          rw [HXT.out, HY.out, tabLow_bt b]
          exact hp
        · repeat (first | (with_reducible first | exact HB.out | apply below_alloc | apply pw_below_drewN | apply below_drew1 | refine below_set ?_ GE.out) | exact HB.out)
    · have c1 : decide (x9 < (s.size : Int)) = false := decide_eq_false (by omega)
      have hke : k = l.length := by have := HK.out; omega
      have hcv := And.intro (BR.back BK.out 24 9 s.size Try.underlying24 Try.underlying5 Try.underlying9) (fun m => BR.back (BK.out.drewN m) 24 9 s.size Try.underlying24 Try.underlying5 Try.underlying9)
      rw [tabLowL_len l k HK.out, ← HS.out] at hcv
      have HKE := Aside0.mk hke
      clear hx9 hsl hke hlt
      go_wp2
      go_ret
      refine ⟨?_, by repeat (first | (with_reducible first | exact HB.out | apply below_alloc | apply pw_below_drewN | apply below_drew1) | exact HB.out)⟩
      rw [HKE.out, ← HLL.out]
      simp [tabLowL]

end Go.Proofs.Ytipmmjbjgbfgjaa.Q
