/- A request's cookies as data: ZzCookies, impl.RequestCookies. -/
import Derived.Test.YtipmmjbjgbfgjaaCk5
import Derived.Test.YtipmmjbjgbfgjaaAr6g
namespace Go.Proofs.Ytipmmjbjgbfgjaa.Q
open Go.RowKit Go.Proofs.YtipmmjbjgbfgjaaW.PrintWords Go.Proofs.YtipmmjbjgbfgjaaW.PrintLast Go.Proofs.YtipmmjbjgbfgjaaW.PrintMore Go.Proofs.YtipmmjbjgbfgjaaKit
open Go.Proofs.Ytipmmjbjgbfgjaa.SpA (toI toI_length toI_append dcK dcV)
set_option linter.unusedVariables false
set_option linter.unusedSimpArgs false
set_option maxHeartbeats 16000000 in
set_option maxRecDepth 100000 in
theorem zzCookies_calls (s : ByteArray) (w : World) (hs : s.size ≤ 2147483647) :
    Calls Try.prog 68 #[.string s] w fun e w' => ∃ v0_ : Value, e = .returned v0_ ∧ Kd.R k82 82 w' w.heap.size (fun _ => True) v0_ ((cksL s.data.toList).map zzS) ∧ Below w.heap.size w w' := by
  obtain ⟨l, hl⟩ : ∃ l, l = s.data.toList := ⟨_, rfl⟩
  have hsz : s.size = l.length := by rw [hl]; simp
  rw [← hl]
  have HLL := Aside0.mk hl
  have HSZ := Aside0.mk hsz
  have HS : Aside0 (l.length ≤ 2147483647) := ⟨by omega⟩
  obtain ⟨fin, hfin⟩ : ∃ fin, fin = cksL l := ⟨_, rfl⟩
  rw [← hfin]
  have HFN := Aside0.mk hfin
  clear hl hsz hs hfin
  go_enter Try.func68, Try.ntmps68
  go_wp2_with (first | (refine Go.Proofs.YtipmmjbjgbfgjaaX.convL_ (some 7) rfl rfl 9 24 _ rfl s rfl ?_; refine (conv_BR2 9 24 5 Try.underlying9 Try.underlying24 Try.underlying5 s _).mono ?_; rintro en w6 ⟨c6, rfl, hcc, hbr, hb⟩; rw [← HLL.out] at hbr; rw [HSZ.out] at hcc; rw [HSZ.out]; refine ⟨_, rfl, ?_⟩; have HB6 := Aside0.mk hb; have HR6 := Aside0.mk hbr; have HC6 := Aside0.mk hcc; obtain ⟨gt, hgt⟩ : ∃ gt, gt = w.heap.size := ⟨_, rfl⟩; rw [← hgt] at HR6 ⊢; clear hcc hbr hb hgt) | ((with_reducible refine gate_callee (f := 88) rfl ?_); refine goesL_ (some 8) rfl rfl Try.func88 (by kernel_rfl) rfl #[.slice none 0 0, .slice (some ⟨gt, 0, none⟩) l.length c6] rfl (by (try simp only [List.map_toArray, List.map_cons, List.map_nil]); first | done | rfl) ?_; refine (cparse_calls w6 gt c6 l HR6.out HC6.out HS.out).mono ?_; rintro e w7 ⟨g, C, b, es, r, rfl, h2, h3, h4, h5⟩; rw [← HFN.out] at h3; refine ⟨_, rfl, ?_⟩; have HAB := Aside0.mk h2; have HF := Aside0.mk h3; have HL : Aside0 (es.length ≤ 2147483647) := ⟨by have := HS.out; omega⟩; have HB7 := Aside0.mk (Below.trans HB6.out (h5.below (B := w.heap.size) (fun k hk => hk.elim) HB6.out.size)); clear h2 h3 h4 h5))
  go_loopw [3, 10] (fun v3 v10 wr => ∃ (i : Nat), v10 = .int .i64 (i : Int) ∧ Aside0 (i ≤ es.length) ∧ Aside0 (Kd.R k82 82 wr w7.heap.size (fun _ => True) v3 ((fin.take i).map zzS)) ∧ Aside0 (Below w7.heap.size w7 wr)) (fun _ v10 _ => es.length - natV v10)
  case atStart => exact ⟨0, rfl, ⟨Nat.zero_le _⟩, ⟨by simpa using Kd.R_nil _ _ _ _ _⟩, ⟨by first | exact Below.refl _ _ | exact pw_below_drewN (Below.refl _ _) _⟩⟩
  case round =>
    obtain ⟨i, rfl, HI, HO, HB⟩ := hrel
    by_cases hi : i < es.length
    · have b2 : decide ((i : Int) < (es.length : Int)) = true := decide_eq_true (by omega)
      have p1 : (0 ≤ (i : Int)) = True := eq_true (by omega)
      have q1 : ((i : Int) < (es.length : Int)) = True := eq_true (by omega)
      have hi2 : i < fin.length := by rw [← HF.out.length]; exact hi
      obtain ⟨hk, hv, hbb⟩ := HF.out.get i hi hi2
      have hie : i < (es ++ r).length := by simp; omega
      have hab := HAB.out.below HB.out
      have hget : (es ++ r)[i] = es[i] := List.getElem_append_left hi
      obtain ⟨x, hx⟩ : ∃ x, x = fin[i] := ⟨_, rfl⟩
      have htk : fin.take (i + 1) = fin.take i ++ [x] := by rw [List.take_add_one, List.getElem?_eq_getElem hi2, ← hx]; rfl
      rw [← hx] at hk hv hbb
      obtain ⟨Ak, ck, hkv⟩ := Kd.R_slice hk
      obtain ⟨Av, cv, hvv⟩ := Kd.R_slice hv
      obtain ⟨nk, hnk⟩ : ∃ n, n = (toI x.1).length := ⟨_, rfl⟩
      obtain ⟨nv, hnv⟩ : ∃ n, n = (toI x.2.1).length := ⟨_, rfl⟩
      obtain ⟨bb, hbb'⟩ : ∃ b, b = x.2.2 := ⟨_, rfl⟩
      rw [← hnk] at hkv
      rw [← hnv] at hvv
      rw [← hbb'] at hbb
      have c0 := hab.cellK i (i * 3) (by omega) hie
      have c1 := hab.cellV i (i * 3) (by omega) hie
      have c2 := hab.cellB i (i * 3) (by omega) hie
      rw [hget, hkv] at c0
      rw [hget, hvv] at c1
      rw [hget, hbb] at c2
      rw [hkv] at hk
      rw [hvv] at hv
      have HKR := Aside0.mk hk
      have HVR := Aside0.mk hv
      have HBB := Aside0.mk hbb'
      have HTK := Aside0.mk htk
      have HIL := Aside0.mk hi
      obtain ⟨g5, hg5⟩ : ∃ g5, g5 = wr.heap.size := ⟨_, rfl⟩
      clear hi hi2 hk hv hbb hie hab hget hkv hvv hnk hnv hbb' htk hx
      go_upto_region 5 with (fail)
      refine genW (fun W => W.heap[g5]? = some (.cells #[.slice Ak nk ck, .slice Av nv cv, .bool bb] 86 (0, 0)) ∧ Kd.R k82 82 W w7.heap.size (fun _ => True) u3 ((fin.take i).map zzS) ∧ Below w7.heap.size w7 W) ⟨?_, ?_, ?_⟩ ?_
      · rw [hg5]; exact heap_alloc_new wr _
      · exact Kd.R_alloc HO.out _
      · exact below_alloc HB.out _
      rw [← hg5]
      clear HO HB c0 c1 c2 hg5
      intro W hW
      obtain ⟨hz, ho, hb⟩ := hW
      have zc0 : W.cell? ⟨g5, 0, none⟩ = some (.slice Ak nk ck) := by unfold World.cell?; rw [hz]; rfl
      have zc1 : W.cell? ⟨g5, 1, none⟩ = some (.slice Av nv cv) := by unfold World.cell?; rw [hz]; rfl
      have zc2 : W.cell? ⟨g5, 2, none⟩ = some (.bool bb) := by unfold World.cell?; rw [hz]; rfl
      have hck := conv_R (Kd.R_below HKR.out hb)
      have hcv := conv_R (Kd.R_below HVR.out hb)
      have HOW := Aside0.mk ho
      have HBW := Aside0.mk hb
      have wx : wrap64 ((i : Int) + 1) = ((i + 1 : Nat) : Int) := by have := HL.out; have := HIL.out; unfold wrap64; omega
      clear hz ho hb
      go_wp2_with (first | ((with_reducible refine gate_builtin (b := .append) (xs := #[.tmp 14, .tmp 24]) rfl ?_); at_builtin; refine Kd.R_append k82 (w0 := w7) w7.heap.size rfl (.tmp 14) (.tmp 24) 65 82 (.agg #[(.string ⟨#[]⟩), (.string ⟨#[]⟩), (.bool false)]) 40 rfl Try.underlying65 info82 rfl (by decide) (by omega) u3 ((fin.take i).map zzS) (zzS x) [.string ⟨x.1.toArray⟩, .string ⟨x.2.1.toArray⟩, .bool bb] (fun _ => True) (fun _ => False) rfl (by first | (go_simp; done) | (go_simp; rfl)) ?aP (fun _ hk => hk.elim) ?aF ?aO ?aB ?aS ?aL ?_; (case aP => rw [HBB.out]; exact k82_mkM _ _ _ (zzS x)); (case aB => exact (by repeat (first | (with_reducible first | exact HBW.out | apply below_alloc | apply pw_below_drewN | apply below_drew1) | exact HBW.out))); (case aF => exact (fun _ _ => trivial)); (case aO => exact (by (with_reducible repeat (first | apply Kd.R_alloc | apply Kd.R_drewN | apply Kd.R_drew)); exact HOW.out)); (case aS => exact (below_size (by repeat (first | (with_reducible first | exact HBW.out | apply below_alloc | apply pw_below_drewN | apply below_drew1) | exact HBW.out)))); (case aL => have := HIL.out; have := HL.out; simp; omega); intro v6 w6 ho6 hb6 hg6 hat6; have HO6 := Aside0.mk ho6; have HB6 := Aside0.mk hb6; clear ho6 hb6 hg6 hat6))
      go_roundw
      case measure => have h1_ := HIL.out; simp only [natV]; try rw [wx]; omega
      case rel => exact ⟨i + 1, by first | rfl | (rw [← wx]), ⟨HIL.out⟩, ⟨by rw [HTK.out, List.map_append]; exact HO6.out⟩, HB6⟩
    · have hil : i = es.length := by have := HI.out; omega
      subst hil
      have b2 : decide ((es.length : Int) < (es.length : Int)) = false := decide_eq_false (by omega)
      have HALL : Aside0 (fin.take es.length = fin) := ⟨by rw [HF.out.length, List.take_length]⟩
      clear hi
      go_wp2
      go_ret
      exact ⟨_, rfl, by rw [HALL.out] at HO; exact Kd.R_lower HO.out HB7.out.size, below_step HB7.out HB.out⟩
theorem cksL_len : ∀ q : List UInt8, (cksL q).length ≤ q.length := by
  have key : ∀ (n : Nat) (q : List UInt8), q.length ≤ n → (cksL q).length ≤ q.length := by
    intro n
    induction n with
    | zero =>
      intro q hq
      have : q = [] := List.length_eq_zero_iff.1 (by omega)
      subst this
      simp [cksL_nil]
    | succ n ih =>
      intro q hq
      by_cases h : q = []
      · subst h; simp [cksL_nil]
      · have hr := rstC_lt q h
        have h1 := ih (rstC q) (by omega)
        have h2 : (entC q).length ≤ 1 := by unfold entC; split <;> simp
        rw [cksL_step q h, List.length_append]
        omega
  exact fun q => key q.length q (Nat.le_refl _)
set_option maxHeartbeats 16000000 in
set_option maxRecDepth 100000 in
theorem cookiesOf_calls (s : ByteArray) (w : World) (hs : s.size ≤ 2147483647) :
    Calls Try.prog 28 #[.string s] w fun e w' => ∃ v0_ : Value, e = .returned v0_ ∧ Kd.R k40 40 w' w.heap.size (fun _ => True) v0_ ((cksL s.data.toList).map arS) ∧ Below w.heap.size w w' := by
  obtain ⟨l, hl⟩ : ∃ l, l = s.data.toList := ⟨_, rfl⟩
  have hsz : s.size = l.length := by rw [hl]; simp
  obtain ⟨K, hK⟩ := args_f (cksL l) (by have := cksL_len l; omega)
  rw [← hl]
  have HLL := Aside0.mk hl
  have HS := Aside0.mk hs
  have HK := Aside0.mk hK
  clear hl hsz hs hK
  go_enter Try.func28, Try.ntmps28
  go_wp2_with (first | ((with_reducible refine gate_callee (f := 68) rfl ?_); refine goesL_ (some 4) rfl rfl Try.func68 (by kernel_rfl) rfl #[.string s] rfl (by (try simp only [List.map_toArray, List.map_cons, List.map_nil]); first | done | rfl) ?_; refine (zzCookies_calls s w HS.out).mono ?_; rintro e w8 ⟨v8, rfl, hr8, hb8⟩; rw [← HLL.out] at hr8; obtain ⟨A8, c8, rfl, hl8, hc8⟩ := Kd.R_reads hr8; refine ⟨_, rfl, ?_⟩; have HC8 := Aside0.mk hc8; have HL8 := Aside0.mk hl8; have HB8 := Aside0.mk hb8; clear hr8 hb8 hl8 hc8) | ((with_reducible refine gate_callee (f := 67) rfl ?_); refine goesL_ (some 5) rfl rfl Try.func67 (by kernel_rfl) rfl #[.slice A8 ((cksL l).map zzS).length c8] rfl (by (try simp only [List.map_toArray, List.map_cons, List.map_nil]); first | done | rfl) ?_; refine (impl_args.calls K A8 c8 ((cksL l).map zzS) ((cksL l).map arS) _ (by exact HC8.out) HL8.out (HK.out K (Nat.le_refl _))).mono ?_; rintro e w9 ⟨v9, rfl, hr9, hb9⟩; refine ⟨_, rfl, ?_⟩; have HR9 := Aside0.mk (Kd.R_lower hr9 HB8.out.size); have HB9 := Aside0.mk (below_step HB8.out hb9); clear hr9 hb9))
  go_ret
  exact ⟨_, rfl, HR9.out, HB9.out⟩
end Go.Proofs.Ytipmmjbjgbfgjaa.Q
