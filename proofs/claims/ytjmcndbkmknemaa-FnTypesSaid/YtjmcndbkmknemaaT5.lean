import Derived.Test.YtjmcndbkmknemaaT4
namespace Go.Proofs.Ytjmcndbkmknemaa.Q
open Go.RowKit Go.Proofs.YtjmcndbkmknemaaW.PrintWords Go.Proofs.YtjmcndbkmknemaaW.PrintLast Go.Proofs.YtjmcndbkmknemaaW.PrintMore
theorem info72 : (Try.prog.info? 72).map (fun i => (i.zero, i.size, i.bytes)) = some (some .nilIface, 1, 16) := by kernel_rfl
set_option maxHeartbeats 8000000 in
set_option maxRecDepth 100000 in
theorem types_calls (A0 : Option Addr) (c0 : Nat) (l0 : List (S45)) (w : World) (hr0 : Kd.C k45 w A0 l0.length l0) (hc0 : l0.length ≤ c0) (hl : l0.length ≤ 2147483647) :
    Calls Try.prog 51 #[.slice A0 l0.length c0] w fun e w' => ∃ v0_ : Value, e = .returned (v0_) ∧ Kd.R KI 72 w' w.heap.size (fun _ => True) v0_ l0 ∧ Below w.heap.size w w' := by
  have hu45 := Try.underlying45
  have HR0 := Aside0.mk hr0
  have HC0 := Aside0.mk hc0
  have HL := Aside0.mk hl
  clear hr0 hc0 hl
  have HB := Aside0.mk (Below.refl w.heap.size w)
  go_enter Try.func51, Try.ntmps51
  go_wp2
  go_loopw [3, 8] (fun v3 v8 w' => ∃ (k : Nat), v8 = .int .i64 (k : Int) ∧ Aside0 (k ≤ l0.length) ∧ Aside0 (Kd.R KI 72 w' w.heap.size (fun _ => True) v3 (l0.take k)) ∧ Aside0 (Below w.heap.size w w')) (fun _ v8 _ => (l0.length - (intOf v8)).toNat)
  case atStart => exact ⟨0, rfl, ⟨by omega⟩, ⟨Kd.R_nil _ _ _ _ _⟩, ⟨by repeat (first | (with_reducible first | exact HB.out | apply below_alloc | apply pw_below_drewN | apply below_drew1) | exact HB.out)⟩⟩
  case round =>
    clear HB
    obtain ⟨k, rfl, HK, HO_3, HB⟩ := hrel
    by_cases hlt : k < l0.length
    · obtain ⟨x8_1, hx8⟩ : ∃ x : Int, x = (k : Int) := ⟨_, rfl⟩
      rw [← hx8]
      have HX := Aside0.mk hx8
      have c2b0 : decide (x8_1 < (l0.length : Int)) = true := decide_eq_true (by omega)
      have c3b0 : decide (0 ≤ x8_1) = true := decide_eq_true (by omega)
      obtain ⟨y286, hy286⟩ : ∃ y_ : List (S45), y_ = (l0.take k ++ [(⟨(rd_T45 l0 x8_1).f0, (rd_T45 l0 x8_1).f1, (rd_T45 l0 x8_1).f2, (rd_T45 l0 x8_1).f3⟩ : S45)]) := ⟨_, rfl⟩
      have hyt : y286 = l0.take (k + 1) := by
        rw [hy286, ← List.take_append_getElem hlt]
        congr 1
        simp [rd_T45, hlt, hx8]
      have HYT := Aside0.mk hyt
      clear hyt
      have hk31 : x8_1 + 1 ≤ 2147483647 := by have := HL.out; omega
      have HLT := Aside0.mk hlt
      have HW : Aside0 (wrap64 (x8_1 + 1) = ((k + 1 : Nat) : Int)) := ⟨by rw [hx8]; unfold wrap64; omega⟩
      clear hlt hx8 hk31
      have Ny286 := Aside0.mk hy286
      clear hy286
      have p284 : 0 ≤ x8_1 := of_decide_eq_true (by first | (with_reducible assumption) | assumption)
      have q284 : x8_1 < (l0.length : Int) := of_decide_eq_true (by first | (with_reducible assumption) | assumption)
      obtain ⟨ad284, e284, hx284_0, hx284_1, hx284_2, hx284_3⟩ := at_T45 HR0.out x8_1 p284 q284
      cases e284
      replace hx284_0 := (HB.out.cell (World.block_lt_of_cell? w _ hx284_0)).trans hx284_0
      replace hx284_1 := (HB.out.cell (World.block_lt_of_cell? w _ hx284_1)).trans hx284_1
      replace hx284_2 := (HB.out.cell (World.block_lt_of_cell? w _ hx284_2)).trans hx284_2
      replace hx284_3 := (HB.out.cell (World.block_lt_of_cell? w _ hx284_3)).trans hx284_3
      replace p284 := eq_true p284
      replace q284 := eq_true q284
      go_wp2_with (first | ((with_reducible refine gate_dst (N := 5) rfl ?_); refine box_event ?hg (N := 5) ?hd (cs := #[.string (⟨#[]⟩ : ByteArray), .string (⟨#[]⟩ : ByteArray), .bool false, .bool false]) (t := 45) ?hr ?_; (case hd => rfl); (case hg => rfl); (case hr => first | (go_simp; done) | (go_simp; rfl)); intro gb285 hg w6 hbox hb; have n0_ := Aside0.mk (Kd.R_below (by (with_reducible repeat (first | apply Kd.R_alloc | apply Kd.R_drewN | apply Kd.R_drew)); exact HO_3.out) hb); have n1_ := Aside0.mk (below_step (by repeat (first | (with_reducible first | exact HB.out | apply below_alloc | apply pw_below_drewN | apply below_drew1) | exact HB.out)) hb); have n2_ := Aside0.mk (hbox); have n3_ := Aside0.mk ((by rw [hg]; exact (below_size (by repeat (first | (with_reducible first | exact HB.out | apply below_alloc | apply pw_below_drewN | apply below_drew1) | exact HB.out))) : w.heap.size ≤ gb285)); have n4_ := Aside0.mk ((by rw [hg]; exact (below_size (by repeat (first | (with_reducible first | exact HB.out | apply below_alloc | apply pw_below_drewN | apply below_drew1) | exact HB.out))) : w.heap.size ≤ gb285)); clear HO_3; clear HB; have HO_3 := n0_; have HB := n1_; have BK285 := n2_; have GW285 := n3_; have GE285 := n4_; clear n0_ n1_ n2_ n3_ n4_; clear hb hbox hg; have hcz7_0 : w6.cell? ⟨gb285, 0, none⟩ = some (.string (⟨#[]⟩ : ByteArray)) := (blk_cell BK285.out 0).trans rfl; have hcz7_1 : w6.cell? ⟨gb285, 1, none⟩ = some (.string (⟨#[]⟩ : ByteArray)) := (blk_cell BK285.out 1).trans rfl; have hcz7_2 : w6.cell? ⟨gb285, 2, none⟩ = some (.bool false) := (blk_cell BK285.out 2).trans rfl; have hcz7_3 : w6.cell? ⟨gb285, 3, none⟩ = some (.bool false) := (blk_cell BK285.out 3).trans rfl; have hfz7_0 := blk_frozen BK285.out 0; have hfz7_1 := blk_frozen BK285.out 1; have hfz7_2 := blk_frozen BK285.out 2; have hfz7_3 := blk_frozen BK285.out 3) | ((with_reducible refine gate_builtin (b := .append) (xs := #[.tmp 12, .tmp 15]) rfl ?_); at_builtin; refine Kd.R_append KI (w0 := w) w.heap.size rfl (.tmp 12) (.tmp 15) 74 72 .nilIface 16 rfl Try.underlying74 info72 rfl (by decide) (by omega) _ (l0.take k) (⟨(rd_T45 l0 x8_1).f0, (rd_T45 l0 x8_1).f1, (rd_T45 l0 x8_1).f2, (rd_T45 l0 x8_1).f3⟩ : S45) [.iface 76 (.agg #[.string ((rd_T45 l0 x8_1).f0), .string ((rd_T45 l0 x8_1).f1), .bool ((rd_T45 l0 x8_1).f2), .bool ((rd_T45 l0 x8_1).f3)])] (fun _ => True) (fun _ => False) rfl (by first | (go_simp; done) | (go_simp; rfl)) ?aP (fun _ hk => hk.elim) ?aF ?aO ?aB ?aS ?aL ?_; (case aP => rfl); (case aB => exact (by repeat (first | (with_reducible first | exact HB.out | apply below_alloc | apply pw_below_drewN | apply below_drew1 | refine below_set ?_ GE285.out) | exact HB.out))); (case aF => exact (fun _ _ => trivial)); (case aO => exact (by (with_reducible repeat (first | apply Kd.R_alloc | apply Kd.R_drewN | apply Kd.R_drew)); exact Kd.R_mono (Kd.R_far (p := ⟨gb285, 3, none⟩) (Kd.R_far (p := ⟨gb285, 2, none⟩) (Kd.R_far (p := ⟨gb285, 1, none⟩) (Kd.R_far (p := ⟨gb285, 0, none⟩) (Kd.R_types HO_3.out BK285.out (by decide)) (fun _ hk => hk.2) (.string ((rd_T45 l0 x8_1).f0))) (fun _ hk => hk.2) (.string ((rd_T45 l0 x8_1).f1))) (fun _ hk => hk.2) (.bool ((rd_T45 l0 x8_1).f2))) (fun _ hk => hk.2) (.bool ((rd_T45 l0 x8_1).f3))) (fun _ hk => trivial))); (case aS => exact (below_size (by repeat (first | (with_reducible first | exact HB.out | apply below_alloc | apply pw_below_drewN | apply below_drew1 | refine below_set ?_ GE285.out) | exact HB.out)))); (case aL => (have := HL.out; have := HK.out; simp only [List.length_take]; omega)); intro v287 w8 ho hb hg hat; rw [← Ny286.out] at ho; have n1_ := Aside0.mk (hb); have n2_ := Aside0.mk (ho); clear BK285; clear HB; clear HO_3; have HB := n1_; have HO288 := n2_; clear n1_ n2_; clear ho hb hg hat))
      go_roundw
      case measure => show ((l0.length : Int) - wrap64 (x8_1 + 1)).toNat < ((l0.length : Int) - x8_1).toNat; rw [HW.out]; have := HX.out; have := HLT.out; omega
      case rel => exact ⟨k + 1, congrArg (Value.int .i64) HW.out, ⟨by have := HLT.out; omega⟩, ⟨by rw [← HYT.out]; (with_reducible repeat (first | apply Kd.R_alloc | apply Kd.R_drewN | apply Kd.R_drew)); exact HO288.out⟩, ⟨by repeat (first | (with_reducible first | exact HB.out | apply below_alloc | apply pw_below_drewN | apply below_drew1 | refine below_set ?_ GE285.out) | exact HB.out)⟩⟩
    · have c2b0 : decide ((k : Int) < (l0.length : Int)) = false := decide_eq_false (by omega)
      have hke : k = l0.length := by have := HK.out; omega
      clear hlt
      have HO : Aside0 (Kd.R KI 72 wr w.heap.size (fun _ => True) u3 l0) := ⟨by have := HO_3.out; rwa [hke, List.take_length] at this⟩
      clear HO_3
      go_wp2
      go_ret
      exact ⟨_, rfl, by (with_reducible repeat (first | apply Kd.R_alloc | apply Kd.R_drewN | apply Kd.R_drew)); exact HO.out, by repeat (first | (with_reducible first | exact HB.out | apply below_alloc | apply pw_below_drewN | apply below_drew1) | exact HB.out)⟩
end Go.Proofs.Ytjmcndbkmknemaa.Q
