/- The law FnTrimmed itself, walked: its last region draws its order and makes memory under guards. -/
import Derived.Test.YtipmmjbjgbfgjaaSpTri
import Derived.Test.YtipmmjbjgbfgjaaBt
import Derived.Deep.RegionWith
namespace Go.Proofs.Ytipmmjbjgbfgjaa.Q
open Go.RowKit Go.Proofs.YtipmmjbjgbfgjaaW.PrintWords Go.Proofs.YtipmmjbjgbfgjaaW.PrintLast Go.Proofs.YtipmmjbjgbfgjaaW.PrintMore
open Go.Proofs.YtipmmjbjgbfgjaaKit (L size_L)
open Go.Proofs.Ytipmmjbjgbfgjaa.SpA (toI toI_length ldS tlS trS ld_le tl_le ld_lt ld_at tl_ge tl_at ld_tl tl_zero left_f right_f both_f bytes_f)
set_option linter.unusedVariables false
set_option linter.unusedSimpArgs false
def natV : Value → Nat
  | .int _ x => x.toNat
  | _ => 0
theorem drawn_below {b : Nat} {a w w' : World} (h : Below b a w) (d : Drawn0 w w') : Below b a w' := by
  obtain ⟨m, rfl⟩ := d
  exact pw_below_drewN h m
theorem BR.Call {w : World} {g : Nat} {l : List UInt8} (h : BR w g 5 l) (hl : l.length ≤ 4611686018427387904) : Kd.C (Kd.int .u8) w (some ⟨g, 0, none⟩) (toI l).length (toI l) := by
  refine Kd.C_of_reads (enc := Value.int .u8) (d := (0 : Int)) (h1 := fun _ => rfl) ⟨rfl, by rw [toI_length]; omega, fun _ => ⟨_, rfl, fun j hj => ?_⟩⟩
  rw [toI_length] at hj
  have := h.cell j hj
  show World.cell? w (Addr.add ⟨g, 0, none⟩ j) = _
  rw [show (Addr.add ⟨g, 0, none⟩ j : Addr) = ⟨g, j, none⟩ by unfold Addr.add; by_cases hj0 : j = 0 <;> simp [hj0], this]
  simp [toI, hj]
theorem tb_at (s : ByteArray) (cv : Int) (W0 : World) (hs : s.size ≤ 2147483647) : Calls Try.prog 16 #[.slice (some ⟨W0.heap.size, 0, none⟩) s.size (grownCap W0 s.size 0 5), .int .u8 cv] (Lib.bytesWorld W0 5 s) fun e w' => ∃ A n c, e = .returned (.slice A n c) ∧ (convert 24 9 (.slice A n c)).run Try.prog w' = .ok (.string (trS s cv)) w' ∧ Below W0.heap.size W0 w' := by
  have hl : (toI (L s)).length = s.size := by rw [toI_length, ← size_L]
  have hb := BR.conv W0 5 s
  have hC := BR.Call hb (by rw [← size_L]; omega)
  have hf : impl_TrimBytes.f (toI (L s)) cv = some (trimI (toI (L s)) cv) := by unfold impl_TrimBytes.f; rw [if_pos (by omega)]
  have h := impl_TrimBytes.calls (some ⟨W0.heap.size, 0, none⟩) (grownCap W0 s.size 0 5) (toI (L s)) cv _ (Lib.bytesWorld W0 5 s) hC (by rw [hl]; exact grownCap_ge _ _ _ _) hf
  rw [hl] at h
  refine h.mono ?_
  rintro e w' ⟨v0, rfl, hv, hbl⟩
  obtain ⟨A, c, rfl⟩ := Kd.V_slice hv
  have hc := (Kd.V_reads' hv).2.2
  have hcv := Kd.C_string (P := Try.prog) (c := c) Try.underlying24 Try.underlying5 Try.underlying9 hc
  rw [bytes_f] at hcv
  refine ⟨A, _, c, rfl, hcv, ?_⟩
  have h0 : Below W0.heap.size W0 (Lib.bytesWorld W0 5 s) := ⟨rfl, rfl, rfl, by rw [Lib.bytesWorld_size]; omega, fun k hk => Lib.bytesWorld_at_old W0 5 s k hk⟩
  exact below_step h0 hbl
end Go.Proofs.Ytipmmjbjgbfgjaa.Q
