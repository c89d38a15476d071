/- The arguments of a query's text, as data: Args.ZzList, impl.ArgsOf. -/
import Derived.Test.YtjklempjljikpaaQ2
import Derived.Test.YtjklempjljikpaaAr5
namespace Go.Proofs.Ytjklempjljikpaa.Q
open Go.RowKit Go.Proofs.YtjklempjljikpaaW.PrintWords Go.Proofs.YtjklempjljikpaaW.PrintLast Go.Proofs.YtjklempjljikpaaW.PrintMore Go.Proofs.YtjklempjljikpaaKit
open Go.Proofs.Ytjklempjljikpaa.SpA (toI toI_length toI_append decP)
set_option linter.unusedVariables false
set_option linter.unusedSimpArgs false
def zzS (x : En) : S74 := ⟨⟨x.1.toArray⟩, ⟨x.2.1.toArray⟩, x.2.2⟩
def arS (x : En) : S36 := ⟨⟨x.1.toArray⟩, ⟨x.2.1.toArray⟩, x.2.2⟩
theorem strOf_toI (l : List UInt8) : strOfNums (toI l) = ⟨l.toArray⟩ := ext (by rw [SpA.L_strOf])
theorem conv_R {w : World} {base : Nat} {ok : Nat → Prop} {A : Option Addr} {n c : Nat} {l : List UInt8} (h : Kd.R (Kd.int .u8) 5 w base ok (.slice A n c) (toI l)) : (convert 48 9 (.slice A n c)).run Try.prog w = .ok (.string ⟨l.toArray⟩) w := by
  obtain ⟨hn, _, hc⟩ := Kd.R_reads' h
  have := Kd.C_string (P := Try.prog) (c := c) Try.underlying48 Try.underlying5 Try.underlying9 hc
  rw [← hn, strOf_toI] at this
  exact this
set_option maxHeartbeats 16000000 in
set_option maxRecDepth 100000 in
theorem zzList_calls (w : World) (ga g C b : Nat) (es r : List AE) (u : Value) (fin : List En) (htb : TB w ga (.slice (some ⟨g, 0, none⟩) es.length C) u) (hab : AB w g (es ++ r)) (hf : FIN w b es fin) (hl : es.length ≤ 2147483647) :
    Calls Try.prog 39 #[.pointer (some ⟨ga, 0, none⟩)] w fun e w' => ∃ v0_ : Value, e = .returned v0_ ∧ Kd.R k74 74 w' w.heap.size (fun _ => True) v0_ (fin.map zzS) ∧ Below w.heap.size w w' := by
  have ft := htb.c0
  have HAB := Aside0.mk hab
  have HF := Aside0.mk hf
  have HL := Aside0.mk hl
  clear htb hab hf hl
  go_enter Try.func39, Try.ntmps39
  go_wp2
  go_loopw [3, 11] (fun v3 v11 wr => ∃ (i : Nat), v11 = .int .i64 (i : Int) ∧ Aside0 (i ≤ es.length) ∧ Aside0 (Kd.R k74 74 wr w.heap.size (fun _ => True) v3 ((fin.take i).map zzS)) ∧ Aside0 (Below w.heap.size w wr)) (fun _ v11 _ => es.length - natV v11)
  case atStart => exact ⟨0, rfl, ⟨Nat.zero_le _⟩, ⟨by simpa using Kd.R_nil _ _ _ _ _⟩, ⟨by first | exact Below.refl _ _ | exact pw_below_drewN (Below.refl _ _) _⟩⟩
  case round =>
    obtain ⟨i, rfl, HI, HO, HB⟩ := hrel
    by_cases hi : i < es.length
    · have b2 : decide ((i : Int) < (es.length : Int)) = true := decide_eq_true (by omega)
      have p1 : (0 ≤ (i : Int)) = True := eq_true (by omega)
      have q1 : ((i : Int) < (es.length : Int)) = True := eq_true (by omega)
      have hi2 : i < fin.length := by rw [← HF.out.length]; exact hi
      obtain ⟨hk, hv, hbb⟩ := HF.out.get i hi hi2
      have hie : i < (es ++ r).length := by simp; omega
      have hab := HAB.out.below HB.out
      have hget : (es ++ r)[i] = es[i] := List.getElem_append_left hi
      obtain ⟨x, hx⟩ : ∃ x, x = fin[i] := ⟨_, rfl⟩
      have htk : fin.take (i + 1) = fin.take i ++ [x] := by rw [List.take_add_one, List.getElem?_eq_getElem hi2, ← hx]; rfl
      rw [← hx] at hk hv hbb
      obtain ⟨Ak, ck, hkv⟩ := Kd.R_slice hk
      obtain ⟨Av, cv, hvv⟩ := Kd.R_slice hv
      obtain ⟨nk, hnk⟩ : ∃ n, n = (toI x.1).length := ⟨_, rfl⟩
      obtain ⟨nv, hnv⟩ : ∃ n, n = (toI x.2.1).length := ⟨_, rfl⟩
      obtain ⟨bb, hbb'⟩ : ∃ b, b = x.2.2 := ⟨_, rfl⟩
      rw [← hnk] at hkv
      rw [← hnv] at hvv
      rw [← hbb'] at hbb
      have c0 := hab.cellK i (i * 3) (by omega) hie
      have c1 := hab.cellV i (i * 3) (by omega) hie
      have c2 := hab.cellB i (i * 3) (by omega) hie
      rw [hget, hkv] at c0
      rw [hget, hvv] at c1
      rw [hget, hbb] at c2
      rw [hkv] at hk
      rw [hvv] at hv
      have HKR := Aside0.mk hk
      have HVR := Aside0.mk hv
      have HBB := Aside0.mk hbb'
      have HTK := Aside0.mk htk
      have HIL := Aside0.mk hi
      obtain ⟨g5, hg5⟩ : ∃ g5, g5 = wr.heap.size := ⟨_, rfl⟩
      clear hi hi2 hk hv hbb hie hab hget hkv hvv hnk hnv hbb' htk hx
      go_upto_region 5 with (fail)
      refine genW (fun W => W.heap[g5]? = some (.cells #[.slice Ak nk ck, .slice Av nv cv, .bool bb] 72 (0, 0)) ∧ Kd.R k74 74 W w.heap.size (fun _ => True) u3 ((fin.take i).map zzS) ∧ Below w.heap.size w W) ⟨?_, ?_, ?_⟩ ?_
      · rw [hg5]; exact heap_alloc_new wr _
      · exact Kd.R_alloc HO.out _
      · exact below_alloc HB.out _
      rw [← hg5]
      clear HO HB c0 c1 c2 hg5
      intro W hW
      obtain ⟨hz, ho, hb⟩ := hW
      have zc0 : W.cell? ⟨g5, 0, none⟩ = some (.slice Ak nk ck) := by unfold World.cell?; rw [hz]; rfl
      have zc1 : W.cell? ⟨g5, 1, none⟩ = some (.slice Av nv cv) := by unfold World.cell?; rw [hz]; rfl
      have zc2 : W.cell? ⟨g5, 2, none⟩ = some (.bool bb) := by unfold World.cell?; rw [hz]; rfl
      have hck := conv_R (Kd.R_below HKR.out hb)
      have hcv := conv_R (Kd.R_below HVR.out hb)
      have HOW := Aside0.mk ho
      have HBW := Aside0.mk hb
      have wx : wrap64 ((i : Int) + 1) = ((i + 1 : Nat) : Int) := by have := HL.out; have := HIL.out; unfold wrap64; omega
      clear hz ho hb
      go_wp2_with (first | ((with_reducible refine gate_builtin (b := .append) (xs := #[.tmp 15, .tmp 25]) rfl ?_); at_builtin; refine Kd.R_append k74 (w0 := w) w.heap.size rfl (.tmp 15) (.tmp 25) 53 74 (.agg #[(.string ⟨#[]⟩), (.string ⟨#[]⟩), (.bool false)]) 40 rfl Try.underlying53 info74 rfl (by decide) (by omega) u3 ((fin.take i).map zzS) (zzS x) [.string ⟨x.1.toArray⟩, .string ⟨x.2.1.toArray⟩, .bool bb] (fun _ => True) (fun _ => False) rfl (by first | (go_simp; done) | (go_simp; rfl)) ?aP (fun _ hk => hk.elim) ?aF ?aO ?aB ?aS ?aL ?_; (case aP => rw [HBB.out]; exact k74_mkM _ _ _ (zzS x)); (case aB => exact (by repeat (first | (with_reducible first | exact HBW.out | apply below_alloc | apply pw_below_drewN | apply below_drew1) | exact HBW.out))); (case aF => exact (fun _ _ => trivial)); (case aO => exact (by (with_reducible repeat (first | apply Kd.R_alloc | apply Kd.R_drewN | apply Kd.R_drew)); exact HOW.out)); (case aS => exact (below_size (by repeat (first | (with_reducible first | exact HBW.out | apply below_alloc | apply pw_below_drewN | apply below_drew1) | exact HBW.out)))); (case aL => have := HIL.out; have := HL.out; simp; omega); intro v6 w6 ho6 hb6 hg6 hat6; have HO6 := Aside0.mk ho6; have HB6 := Aside0.mk hb6; clear ho6 hb6 hg6 hat6))
      go_roundw
      case measure => have h1_ := HIL.out; simp only [natV]; try rw [wx]; omega
      case rel => exact ⟨i + 1, by first | rfl | (rw [← wx]), ⟨HIL.out⟩, ⟨by rw [HTK.out, List.map_append]; exact HO6.out⟩, HB6⟩
    · have hil : i = es.length := by have := HI.out; omega
      subst hil
      have b2 : decide ((es.length : Int) < (es.length : Int)) = false := decide_eq_false (by omega)
      have HALL : Aside0 (fin.take es.length = fin) := ⟨by rw [HF.out.length, List.take_length]⟩
      clear hi
      go_wp2
      go_ret
      exact ⟨_, rfl, by rw [HALL.out] at HO; exact HO.out, HB.out⟩
theorem args_l (l : List S74) (hl : l.length ≤ 4294967296) : ∀ d n, l.length - n = d → n ≤ l.length → Ev (fun k => impl_args.l0 k ((l.take n).map fun x => (⟨x.f0, x.f1, x.f2⟩ : S36)) l (l.length : Int) (n : Int)) (l.map fun x => (⟨x.f0, x.f1, x.f2⟩ : S36)) := by
  intro d
  induction d with
  | zero =>
    intro n hd hn
    have : n = l.length := by omega
    subst this
    refine Ev.step (f := fun _ => some (l.map fun x => (⟨x.f0, x.f1, x.f2⟩ : S36))) (fun k => ?_) (Ev.now _)
    simp only [impl_args.l0]
    rw [if_neg (by omega), List.take_length]
  | succ d ih =>
    intro n hd hn
    have hr : rd_T74 l (n : Int) = l[n]'(by omega) := by unfold rd_T74; rw [Int.toNat_natCast, List.getD_eq_getElem?_getD, List.getElem?_eq_getElem (by omega)]; rfl
    have hw : wrap64 ((n : Int) + 1) = ((n + 1 : Nat) : Int) := by unfold wrap64; omega
    have ht : (l.take (n + 1)).map (fun x => (⟨x.f0, x.f1, x.f2⟩ : S36)) = (l.take n).map (fun x => (⟨x.f0, x.f1, x.f2⟩ : S36)) ++ [⟨(l[n]'(by omega)).f0, (l[n]'(by omega)).f1, (l[n]'(by omega)).f2⟩] := by
      rw [List.take_add_one, List.getElem?_eq_getElem (by omega), List.map_append]; rfl
    have h1 := ih (n + 1) (by omega) (by omega)
    rw [ht] at h1
    refine Ev.step (fun k => ?_) h1
    simp only [impl_args.l0]
    rw [if_pos (by omega), if_pos (by omega), if_pos (by omega), if_pos (by simp; omega), hr, hw]
theorem args_f (fin : List En) (hl : fin.length ≤ 4294967296) : Ev (fun k => impl_args.f k (fin.map zzS)) (fin.map arS) := by
  have h := args_l (fin.map zzS) (by simpa using hl) _ 0 rfl (Nat.zero_le _)
  rw [List.map_map] at h
  exact h
theorem argsL_len : ∀ q : List UInt8, (argsL q).length ≤ q.length := by
  have key : ∀ (n : Nat) (q : List UInt8), q.length ≤ n → (argsL q).length ≤ q.length := by
    intro n
    induction n with
    | zero =>
      intro q hq
      have : q = [] := List.length_eq_zero_iff.1 (by omega)
      subst this
      simp [argsL_nil]
    | succ n ih =>
      intro q hq
      by_cases h : q = []
      · subst h; simp [argsL_nil]
      · have hr := rst_lt q h
        have h1 := ih (rstP q) (by omega)
        have h2 : (entOf q).length ≤ 1 := by unfold entOf; split <;> simp
        rw [argsL_step q h, List.length_append]
        omega
  exact fun q => key q.length q (Nat.le_refl _)
set_option maxHeartbeats 16000000 in
set_option maxRecDepth 100000 in
theorem argsOf_calls (s : ByteArray) (w : World) (hs : s.size ≤ 2147483647) :
    Calls Try.prog 23 #[.string s] w fun e w' => ∃ v0_ : Value, e = .returned v0_ ∧ Kd.R k36 36 w' w.heap.size (fun _ => True) v0_ ((argsL s.data.toList).map arS) ∧ Below w.heap.size w w' := by
  obtain ⟨l, hl⟩ : ∃ l, l = s.data.toList := ⟨_, rfl⟩
  have hsz : s.size = l.length := by rw [hl]; simp
  rw [← hl]
  have HLL := Aside0.mk hl
  have HSZ := Aside0.mk hsz
  have HS : Aside0 (l.length ≤ 2147483647) := ⟨by omega⟩
  obtain ⟨ga, hga⟩ : ∃ ga, ga = w.heap.size := ⟨_, rfl⟩
  clear hl hsz hs
  go_enter Try.func23, Try.ntmps23
  go_upto_region 2 with (fail)
  rw [← hga]
  refine genW (fun W => TB W ga (.slice none 0 0) (.slice none 0 0) ∧ Below w.heap.size w W) ⟨?_, ?_⟩ ?_
  · rw [hga]; exact heap_alloc_new w _
  · exact below_alloc (Below.refl _ _) _
  intro W hW
  have HT := Aside0.mk hW.1
  have HB := Aside0.mk hW.2
  have HGA : Aside0 (w.heap.size ≤ ga) := ⟨Nat.le_of_eq hga.symm⟩
  obtain ⟨K, hK⟩ := args_f (argsL l) (by have := argsL_len l; have := HS.out; omega)
  have HK := Aside0.mk hK
  clear hW hga hK
  go_wp2_with (first | (refine Go.Proofs.YtjklempjljikpaaX.convL_ (some 5) rfl rfl 9 48 _ rfl s rfl ?_; refine (conv_BR2 9 48 5 Try.underlying9 Try.underlying48 Try.underlying5 s _).mono ?_; rintro en w6 ⟨c6, rfl, hcc, hbr, hb⟩; rw [← HLL.out] at hbr; rw [HSZ.out] at hcc; rw [HSZ.out]; refine ⟨_, rfl, ?_⟩; have HT6 := Aside0.mk (HT.out.move (hb.block ga HT.out.lt)); have HB6 := Aside0.mk (below_step HB.out hb); have HR6 := Aside0.mk hbr; have HC6 := Aside0.mk hcc; obtain ⟨gt, hgt⟩ : ∃ gt, gt = W.heap.size := ⟨_, rfl⟩; rw [← hgt] at HR6 ⊢; clear hcc hbr hb hgt) | ((with_reducible refine gate_callee (f := 37) rfl ?_); refine goesL_ (some 6) rfl rfl Try.func37 (by kernel_rfl) rfl #[.pointer (some ⟨ga, 0, none⟩), .slice (some ⟨gt, 0, none⟩) l.length c6] rfl (by (try simp only [List.map_toArray, List.map_cons, List.map_nil]); first | done | rfl) ?_; refine (parse_calls w6 ga gt c6 l _ HT6.out HR6.out HC6.out HS.out).mono ?_; rintro e w7 ⟨rfl, g, C, b, es, r, h1, h2, h3, h4, h5⟩; refine ⟨_, rfl, ?_⟩; have H1 := Aside0.mk h1; have H2 := Aside0.mk h2; have H3 := Aside0.mk h3; have H4 := Aside0.mk h4; have HB7 := Aside0.mk (Below.trans HB6.out (h5.below (fun k hk => by rw [hk]; exact HGA.out) HB6.out.size)); clear h1 h2 h3 h4 h5) | ((with_reducible refine gate_callee (f := 39) rfl ?_); refine goesL_ (some 7) rfl rfl Try.func39 (by kernel_rfl) rfl #[.pointer (some ⟨ga, 0, none⟩)] rfl (by (try simp only [List.map_toArray, List.map_cons, List.map_nil]); first | done | rfl) ?_; refine (zzList_calls w7 ga g C b es r _ (argsL l) H1.out H2.out H3.out (by have := H4.out; have := HS.out; omega)).mono ?_; rintro e w8 ⟨v8, rfl, hr8, hb8⟩; obtain ⟨A8, c8, rfl, hl8, hc8⟩ := Kd.R_reads hr8; refine ⟨_, rfl, ?_⟩; have HC8 := Aside0.mk hc8; have HL8 := Aside0.mk hl8; have HB8 := Aside0.mk (below_step HB7.out hb8); clear hr8 hb8 hl8 hc8) | ((with_reducible refine gate_callee (f := 38) rfl ?_); refine goesL_ (some 8) rfl rfl Try.func38 (by kernel_rfl) rfl #[.slice A8 ((argsL l).map zzS).length c8] rfl (by (try simp only [List.map_toArray, List.map_cons, List.map_nil]); first | done | rfl) ?_; refine (impl_args.calls K A8 c8 ((argsL l).map zzS) ((argsL l).map arS) _ (by exact HC8.out) HL8.out (HK.out K (Nat.le_refl _))).mono ?_; rintro e w9 ⟨v9, rfl, hr9, hb9⟩; refine ⟨_, rfl, ?_⟩; have HR9 := Aside0.mk (Kd.R_lower hr9 HB8.out.size); have HB9 := Aside0.mk (below_step HB8.out hb9); clear hr9 hb9))
  go_ret
  exact ⟨_, rfl, HR9.out, HB9.out⟩
end Go.Proofs.Ytjklempjljikpaa.Q
