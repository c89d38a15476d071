/- The query's text of arguments: impl.ArgsText. -/
import Derived.Test.YtjklempjljikpaaQ5
import Derived.Test.YtjklempjljikpaaAr9
namespace Go.Proofs.Ytjklempjljikpaa.Q
open Go.RowKit Go.Proofs.YtjklempjljikpaaW.PrintWords Go.Proofs.YtjklempjljikpaaW.PrintLast Go.Proofs.YtjklempjljikpaaW.PrintMore
open Go.Proofs.Ytjklempjljikpaa.SpA (toI toI_length toI_append decP escA)
set_option linter.unusedVariables false
set_option linter.unusedSimpArgs false
set_option maxHeartbeats 16000000 in
set_option maxRecDepth 100000 in
theorem qs_calls (w : World) (ga b : Nat) (v : Value) (es : List AE) (fin : List En) (htb : TB w ga v (.slice none 0 0)) (har : AR w v es) (hv : ∃ A C, v = .slice A es.length C) (hf : FIN w b es fin) (hb : b ≤ w.heap.size) (ht : (textL fin).length ≤ 1000000000000) (hn : es.length ≤ 2147483647) :
    Calls Try.prog 55 #[.pointer (some ⟨ga, 0, none⟩)] w fun e w' => ∃ v', e = .returned v' ∧ Kd.R (Kd.int .u8) 5 w' 0 (fun _ => True) v' (toI (textL fin)) ∧ OnlS (fun k => k = ga) w w' := by
  obtain ⟨i0, hi0, _, hsz0, _⟩ := info_parts info5
  have HCK := cutUp (P := Try.prog) Try.underlying48 hi0 none 0 0 0 (0 : Int) rfl (Nat.zero_le _)
  have ft := htb.c1
  have HTB := Aside0.mk htb
  have HAR := Aside0.mk har
  have HV := Aside0.mk hv
  have HF := Aside0.mk hf
  have HBB := Aside0.mk hb
  have HT := Aside0.mk ht
  have HN := Aside0.mk hn
  clear htb har hf hb ht hn hv
  go_enter Try.func55, Try.ntmps55
  go_wp2_with (first | ((with_reducible refine gate_callee (f := 68) rfl ?_); refine goesL_ (some 10) rfl rfl Try.func68 (by kernel_rfl) rfl #[.pointer (some ⟨ga, 0, none⟩), .slice none 0 0] rfl (by (try simp only [List.map_toArray, List.map_cons, List.map_nil]); first | done | rfl) ?_; refine (apb_calls w ga b v _ es fin HTB.out HAR.out HV.out HF.out HBB.out HT.out HN.out).mono ?_; rintro e w5 ⟨v5, rfl, hr5, hb5⟩; obtain ⟨A5, c5, rfl⟩ := Kd.R_slice hr5; refine ⟨_, rfl, ?_⟩; have ht5 := HTB.out.move (hb5.block ga HTB.out.lt); have f5 := ht5.c1; have z5 := ht5.fz 1; have HT5 := Aside0.mk ht5; have HR5 := Aside0.mk hr5; have HB5 := Aside0.mk hb5; clear ht5 hr5 hb5 ft))
  go_ret
  refine ⟨_, rfl, Kd.R_set (Kd.R_lower HR5.out (Nat.zero_le _)) HT5.out (by decide) _ _, OnlS.set (S := fun k => k = ga) (OnlS.of_below HB5.out (fun j h1 h2 => by omega)) (.inl rfl) _ _⟩
set_option maxHeartbeats 16000000 in
set_option maxRecDepth 100000 in
theorem string_calls (w : World) (ga b : Nat) (v : Value) (es : List AE) (fin : List En) (htb : TB w ga v (.slice none 0 0)) (har : AR w v es) (hv : ∃ A C, v = .slice A es.length C) (hf : FIN w b es fin) (hb : b ≤ w.heap.size) (ht : (textL fin).length ≤ 1000000000000) (hn : es.length ≤ 2147483647) :
    Calls Try.prog 42 #[.pointer (some ⟨ga, 0, none⟩)] w fun e w' => e = .returned (.string ⟨(textL fin).toArray⟩) ∧ OnlS (fun k => k = ga) w w' := by
  have HTB := Aside0.mk htb
  have HAR := Aside0.mk har
  have HV := Aside0.mk hv
  have HF := Aside0.mk hf
  have HBB := Aside0.mk hb
  have HT := Aside0.mk ht
  have HN := Aside0.mk hn
  clear htb har hf hb ht hn hv
  go_enter Try.func42, Try.ntmps42
  go_wp2_with (first | ((with_reducible refine gate_callee (f := 55) rfl ?_); refine goesL_ (some 4) rfl rfl Try.func55 (by kernel_rfl) rfl #[.pointer (some ⟨ga, 0, none⟩)] rfl (by (try simp only [List.map_toArray, List.map_cons, List.map_nil]); first | done | rfl) ?_; refine (qs_calls w ga b v es fin HTB.out HAR.out HV.out HF.out HBB.out HT.out HN.out).mono ?_; rintro e w5 ⟨v5, rfl, hr5, hb5⟩; obtain ⟨A5, c5, rfl⟩ := Kd.R_slice hr5; refine ⟨_, rfl, ?_⟩; have hcv := conv_R hr5; have HB5 := Aside0.mk hb5; clear hr5 hb5))
  go_ret
  exact ⟨rfl, HB5.out⟩
def en36 (x : S36) : En := (x.f0.data.toList, valIf x.f2 x.f1.data.toList, x.f2)
def to74 (x : S36) : S74 := ⟨x.f0, x.f1, x.f2⟩
theorem given_l (l : List S36) (hl : l.length ≤ 4294967296) : ∀ d n, l.length - n = d → n ≤ l.length → Ev (fun k => impl_given.l0 k ((l.take n).map to74) l (l.length : Int) (n : Int)) (l.map to74) := by
  intro d
  induction d with
  | zero =>
    intro n hd hn
    have : n = l.length := by omega
    subst this
    refine Ev.step (f := fun _ => some (l.map to74)) (fun k => ?_) (Ev.now _)
    simp only [impl_given.l0]
    rw [if_neg (by omega), List.take_length]
  | succ d ih =>
    intro n hd hn
    have hr : rd_T36 l (n : Int) = l[n]'(by omega) := by unfold rd_T36; rw [Int.toNat_natCast, List.getD_eq_getElem?_getD, List.getElem?_eq_getElem (by omega)]; rfl
    have hw : wrap64 ((n : Int) + 1) = ((n + 1 : Nat) : Int) := by unfold wrap64; omega
    have ht : (l.take (n + 1)).map to74 = (l.take n).map to74 ++ [⟨(l[n]'(by omega)).f0, (l[n]'(by omega)).f1, (l[n]'(by omega)).f2⟩] := by
      rw [List.take_add_one, List.getElem?_eq_getElem (by omega), List.map_append]; rfl
    have h1 := ih (n + 1) (by omega) (by omega)
    rw [ht] at h1
    refine Ev.step (fun k => ?_) h1
    simp only [impl_given.l0]
    rw [if_pos (by omega), if_pos (by omega), if_pos (by omega), if_pos (by simp; omega), hr, hw]
theorem given_f (l : List S36) (hl : l.length ≤ 4294967296) : Ev (fun k => impl_given.f k l) (l.map to74) := given_l l hl _ 0 rfl (Nat.zero_le _)
theorem ZA.form {w0 wr : World} {ga : Nat} {v : Value} {es : List AE} {fin : List En} (h : ZA w0 wr ga v es fin) : ∃ A C, v = .slice A es.length C := by
  rcases h.ar with ⟨rfl, rfl⟩ | ⟨g, C, rfl, _⟩
  · exact ⟨none, 0, rfl⟩
  · exact ⟨_, _, rfl⟩
set_option maxHeartbeats 16000000 in
set_option maxRecDepth 100000 in
theorem argsText_calls (w : World) (A : Option Addr) (c : Nat) (l : List S36) (hr : Kd.C k36 w A l.length l) (hc : l.length ≤ c) (hl : l.length ≤ 2147483647) (hx : ∀ x ∈ l, x.f0.size ≤ 2147483647 ∧ x.f1.size ≤ 2147483647) (ht : (textL (l.map en36)).length ≤ 1000000000000) :
    Calls Try.prog 25 #[.slice A l.length c] w fun e w' => e = .returned (.string ⟨(textL (l.map en36)).toArray⟩) ∧ Below w.heap.size w w' := by
  obtain ⟨K, hK⟩ := given_f l (by omega)
  have hmap : (l.map to74).map enS = l.map en36 := by rw [List.map_map]; rfl
  have HR := Aside0.mk hr
  have HC := Aside0.mk hc
  have HL := Aside0.mk hl
  have HX := Aside0.mk hx
  have HT := Aside0.mk ht
  have HK := Aside0.mk hK
  have HM := Aside0.mk hmap
  clear hr hc hl hx ht hK hmap
  go_enter Try.func25, Try.ntmps25
  go_wp2_with (first | ((with_reducible refine gate_callee (f := 41) rfl ?_); refine goesL_ (some 4) rfl rfl Try.func41 (by kernel_rfl) rfl #[.slice A l.length c] rfl (by (try simp only [List.map_toArray, List.map_cons, List.map_nil]); first | done | rfl) ?_; refine (impl_given.calls K A c l (l.map to74) _ (by exact HR.out) HC.out (HK.out K (Nat.le_refl _))).mono ?_; rintro e w5 ⟨v5, rfl, hr5, hb5⟩; obtain ⟨A5, c5, rfl, hl5, hc5⟩ := Kd.R_reads hr5; refine ⟨_, rfl, ?_⟩; have HC5 := Aside0.mk hc5; have HL5 := Aside0.mk hl5; have HB5 := Aside0.mk hb5; clear hr5 hb5 hl5 hc5) | ((with_reducible refine gate_callee (f := 40) rfl ?_); refine goesL_ (some 5) rfl rfl Try.func40 (by kernel_rfl) rfl #[.slice A5 (l.map to74).length c5] rfl (by (try simp only [List.map_toArray, List.map_cons, List.map_nil]); first | done | rfl) ?_; refine (zzArgs_calls w5 A5 c5 (l.map to74) HC5.out HL5.out (by have := HL.out; simpa using this) (fun x hx_ => by (obtain ⟨y, hy, rfl⟩ := List.mem_map.1 hx_; exact HX.out y hy))).mono ?_; rintro e w6 ⟨ga, v, es, rfl, hz⟩; refine ⟨_, rfl, ?_⟩; rw [HM.out] at hz; have HZ := Aside0.mk hz; clear hz) | ((with_reducible refine gate_callee (f := 42) rfl ?_); refine goesL_ (some 6) rfl rfl Try.func42 (by kernel_rfl) rfl #[.pointer (some ⟨ga, 0, none⟩)] rfl (by (try simp only [List.map_toArray, List.map_cons, List.map_nil]); first | done | rfl) ?_; refine (string_calls w6 ga w6.heap.size v es (l.map en36) HZ.out.tb HZ.out.ar HZ.out.form HZ.out.fi (Nat.le_refl _) HT.out (by have h1_ := HZ.out.fi.length; have := HL.out; simp at h1_; omega)).mono ?_; rintro e w7 ⟨rfl, ho7⟩; refine ⟨_, rfl, ?_⟩; have HB6 := Aside0.mk (below_step HB5.out HZ.out.bl); have HB7 := Aside0.mk (Below.trans HB6.out (ho7.below (fun k hk => by (have h1_ := HZ.out.ga0; have h2_ := HB5.out.size; omega)) HB6.out.size)); clear ho7))
  go_ret
  exact ⟨rfl, HB7.out⟩
end Go.Proofs.Ytjklempjljikpaa.Q
