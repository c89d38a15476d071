/- FnCookieSays: the law's function, called with any arguments, returns true and leaves its arguments as they were: every input, no condition. Part 3 of 12. -/
import Derived.Test.YtfbllodbcmcndaaZFnCookieSays1
section
namespace Go.Proofs.Ytfbllodbcmcndaa.Q
open Go.RowKit Go.Proofs.YtfbllodbcmcndaaW.PrintWords Go.Proofs.YtfbllodbcmcndaaW.PrintLast Go.Proofs.YtfbllodbcmcndaaW.PrintMore
open Go.Proofs.Ytfbllodbcmcndaa.SpA (toI toI_length toI_append decU decU_pos decU_len)
open Go.Proofs.Ytfbllodbcmcndaa.Ob
set_option linter.unusedVariables false
set_option linter.unusedSimpArgs false
def ckKey (k : List UInt8) : List UInt8 := if k = [] then [] else k ++ [61]
def ckAge (m : Int) : List UInt8 := if m = 0 then [] else [59, 32] ++ [109, 97, 120, 45, 97, 103, 101] ++ [61] ++ (if m < 0 then [48] else decU m.toNat)
def ckDom (d : List UInt8) : List UInt8 := if d = [] then [] else [59, 32] ++ [100, 111, 109, 97, 105, 110] ++ [61] ++ d
def ckPath (d : List UInt8) : List UInt8 := if d = [] then [] else [59, 32] ++ [112, 97, 116, 104] ++ [61] ++ d
def ckHo (b : Bool) : List UInt8 := if b then [59, 32] ++ [72, 116, 116, 112, 79, 110, 108, 121] else []
def ckSe (b : Bool) : List UInt8 := if b then [59, 32] ++ [115, 101, 99, 117, 114, 101] else []
def ckSite (n : Int) : List UInt8 := if n = 1 then [59, 32] ++ [83, 97, 109, 101, 83, 105, 116, 101] else if n = 2 then [59, 32] ++ [83, 97, 109, 101, 83, 105, 116, 101] ++ [61] ++ [76, 97, 120] else if n = 3 then [59, 32] ++ [83, 97, 109, 101, 83, 105, 116, 101] ++ [61] ++ [83, 116, 114, 105, 99, 116] else if n = 4 then [59, 32] ++ [83, 97, 109, 101, 83, 105, 116, 101] ++ [61] ++ [78, 111, 110, 101] else []
def ckPa (b : Bool) : List UInt8 := if b then [59, 32] ++ [80, 97, 114, 116, 105, 116, 105, 111, 110, 101, 100] else []
def ckText (k v : List UInt8) (ma : Int) (d p : List UInt8) (ho se : Bool) (ss : Int) (pa : Bool) : List UInt8 := ckKey k ++ v ++ ckAge ma ++ ckDom d ++ ckPath p ++ ckHo ho ++ ckSe se ++ ckSite ss ++ ckPa pa
theorem appU_BV (W : World) (v : Value) (l : List UInt8) (hv : BV W v l) (n : Nat) (hn : n ≤ 9223372036854775807) (hl : l.length < 1000000000000) (hl2 : l.length < 1000000000) :
    Calls Try.prog 107 #[v, .int .i64 (n : Int)] W fun e w' => ∃ v', e = .returned v' ∧ BV w' v' (l ++ decU n) ∧ Only (fun j => v.ownBlock = some j) W w' ∧ (v'.ownBlock = v.ownBlock ∨ ∃ b, v'.ownBlock = some b ∧ W.heap.size ≤ b) := by
  have hB : Below ({ W with heap := #[] } : World).heap.size { W with heap := #[] } W := ⟨rfl, rfl, rfl, Nat.zero_le _, fun k hk => absurd hk (Nat.not_lt_zero _)⟩
  refine (appU_calls (fun k_ => v.ownBlock = some k_) v (toI l) n { W with heap := #[] } W hB hv.R0 hn (by rw [toI_length]; exact hl2)).mono ?_
  rintro e w' ⟨v', rfl, hr, hb, hk⟩
  rw [← toI_append] at hr
  have := decU_pos n
  exact ⟨v', rfl, BV.grew hr (by intro e; rw [(List.append_eq_nil_iff.1 e).2] at this; exact absurd this (by decide)) hb hk⟩
theorem ckAge_len (m : Int) (h : -9223372036854775808 ≤ m ∧ m ≤ 9223372036854775807) : (ckAge m).length ≤ 99 := by
  unfold ckAge
  split
  · simp
  · split
    · simp
    · have := decU_len 18 m.toNat (by omega)
      simp
      omega
def ckVals (vk vv vd vp vb : Value) (ma : Int) (ho se pa : Bool) (ss : Int) : List Value := [vk, vv, .int .i64 ma, vd, vp, .bool ho, .bool se, .bool pa, .int .i64 ss, .slice none 0 0, .slice none 0 0, .bool false, vb]
def ckRows (k v d p : List UInt8) (b : Option (Bool × List UInt8)) : List (Option (Bool × List UInt8)) := [some (true, k), some (true, v), none, some (true, d), some (false, p), none, none, none, none, none, none, none, b]
def ABPost (w : World) (v0 : Value) (g : Nat) (vals : List Value) (rows : List (Option (Bool × List UInt8))) (txt : List UInt8) (e : Ending) (w' : World) : Prop := ∃ v1, e = .returned v1 ∧ ST w v0 w' g 94 vals rows v1 txt
set_option maxHeartbeats 32000000 in
set_option maxRecDepth 100000 in
theorem ab_calls (w : World) (g : Nat) (vk vv vd vp vb v0 : Value) (ma ss : Int) (ho se pa : Bool) (k v d p : List UInt8) (hma : -9223372036854775808 ≤ ma ∧ ma ≤ 9223372036854775807)
    (h : ST w v0 w g 94 (ckVals vk vv vd vp vb ma ho se pa ss) (ckRows k v d p none) v0 [])
    (hk : k.length ≤ 10000000) (hv : v.length ≤ 10000000) (hd : d.length ≤ 10000000) (hp : p.length ≤ 10000000) :
    Calls Try.prog 100 #[.pointer (some ⟨g, 0, none⟩), v0] w (ABPost w v0 g (ckVals vk vv vd vp vb ma ho se pa ss) (ckRows k v d p none) (ckText k v ma d p ho se ss pa)) := by
  obtain ⟨Ak, nk, ck, rfl⟩ : ∃ A n c, vk = .slice A n c := by obtain ⟨_, h1, h2⟩ := h.ob.row 0 true k rfl; cases h1; obtain ⟨A, c, e, _⟩ := h2.slice; exact ⟨A, _, c, e⟩
  obtain ⟨Av, nv, cv, rfl⟩ : ∃ A n c, vv = .slice A n c := by obtain ⟨_, h1, h2⟩ := h.ob.row 1 true v rfl; cases h1; obtain ⟨A, c, e, _⟩ := h2.slice; exact ⟨A, _, c, e⟩
  obtain ⟨Ad, nd, cd, rfl⟩ : ∃ A n c, vd = .slice A n c := by obtain ⟨_, h1, h2⟩ := h.ob.row 3 true d rfl; cases h1; obtain ⟨A, c, e, _⟩ := h2.slice; exact ⟨A, _, c, e⟩
  obtain ⟨Ap, np, cp, rfl⟩ : ∃ A n c, vp = .slice A n c := by obtain ⟨_, h1, h2⟩ := h.ob.row 4 false p rfl; cases h1; obtain ⟨A, c, e, _⟩ := h2.slice; exact ⟨A, _, c, e⟩
  have hnk : nk = k.length := by obtain ⟨_, h1, h2⟩ := h.ob.row 0 true k rfl; cases h1; exact h2.cap.1
  have hnd : nd = d.length := by obtain ⟨_, h1, h2⟩ := h.ob.row 3 true d rfl; cases h1; exact h2.cap.1
  have hnp : np = p.length := by obtain ⟨_, h1, h2⟩ := h.ob.row 4 false p rfl; cases h1; exact h2.cap.1
  obtain ⟨vals, hvals⟩ : ∃ x, x = ckVals (.slice Ak nk ck) (.slice Av nv cv) (.slice Ad nd cd) (.slice Ap np cp) vb ma ho se pa ss := ⟨_, rfl⟩
  obtain ⟨rows, hrows⟩ : ∃ x, x = ckRows k v d p none := ⟨_, rfl⟩
  rw [← hvals, ← hrows] at h ⊢
  have R0 : Aside0 (rows[0]? = some (some (true, k)) ∧ vals[0]? = some (.slice Ak nk ck)) := ⟨by rw [hvals, hrows]; exact ⟨rfl, rfl⟩⟩
  have R1 : Aside0 (rows[1]? = some (some (true, v)) ∧ vals[1]? = some (.slice Av nv cv)) := ⟨by rw [hvals, hrows]; exact ⟨rfl, rfl⟩⟩
  have R2 : Aside0 (vals[2]? = some (.int .i64 ma)) := ⟨by rw [hvals]; rfl⟩
  have R3 : Aside0 (rows[3]? = some (some (true, d)) ∧ vals[3]? = some (.slice Ad nd cd)) := ⟨by rw [hvals, hrows]; exact ⟨rfl, rfl⟩⟩
  have R4 : Aside0 (rows[4]? = some (some (false, p)) ∧ vals[4]? = some (.slice Ap np cp)) := ⟨by rw [hvals, hrows]; exact ⟨rfl, rfl⟩⟩
  have R5 : Aside0 (vals[5]? = some (.bool ho)) := ⟨by rw [hvals]; rfl⟩
  have R6 : Aside0 (vals[6]? = some (.bool se)) := ⟨by rw [hvals]; rfl⟩
  have R7 : Aside0 (vals[7]? = some (.bool pa)) := ⟨by rw [hvals]; rfl⟩
  have R8 : Aside0 (vals[8]? = some (.int .i64 ss)) := ⟨by rw [hvals]; rfl⟩
  have HS := Aside0.mk h
  have HNK := Aside0.mk hnk
  have HND := Aside0.mk hnd
  have HNP := Aside0.mk hnp
  have HK := Aside0.mk hk
  have HV := Aside0.mk hv
  have HD := Aside0.mk hd
  have HP := Aside0.mk hp
  have HMA := Aside0.mk hma
  clear hvals hrows h hnk hnd hnp hk hv hd hp hma
  go_enter Try.func100, Try.ntmps100
  have HLA : Aside0 (([] : List UInt8).length ≤ 0) := ⟨Nat.le_refl _⟩
  have c0 := HS.out.ob.cell 0 _ R0.out.2
  go_upto_if 10 with (fail)
  go_cut [1] (fun v1_ wx => Aside0 (ST w v0 wx g 94 vals rows v1_ ([] ++ ckKey k)))
  case first =>
    cases k with
    | nil =>
      have e0 : nk = 0 := HNK.out
      subst e0
      go_wp2_with (fail)
      go_meet
      case rel => exact HS
    | cons kx kt =>
      obtain ⟨m, rfl⟩ : ∃ m, nk = m + 1 := ⟨kt.length, by have := HNK.out; simpa using this⟩
      go_wp2_with (first | ((with_reducible refine gate_builtin (b := .append) (xs := #[.tmp 11, .tmp 15]) rfl ?_); at_builtin; refine ST.app HS.out (kx :: kt) _ _ _ rfl (.tmp 11) (.tmp 15) 63 rfl Try.underlying63 info5 rfl rfl (by exact HS.out.C 0 _ _ _ _ R0.out.1 R0.out.2) (by have z1 := HLA.out; have z2 := HK.out; have z3 := HV.out; have z4 := HD.out; have z5 := HP.out; (try simp only [List.length_cons, List.length_nil, List.length_append] at z1 z2 z3 z4 z5 ⊢); omega) ?_; intro v1 w1 h1; have HS1 := Aside0.mk h1; clear h1) | ((with_reducible refine gate_builtin (b := .append) (xs := #[.tmp 17, .tmp 18]) rfl ?_); at_builtin; refine ST.app (HS1.out.alloc _) [61] _ _ _ rfl (.tmp 17) (.tmp 18) 63 rfl Try.underlying63 info5 rfl rfl (by exact lit_C [61] _ rfl (heap_alloc_new _ _) (by decide)) (by have z1 := HLA.out; have z2 := HK.out; have z3 := HV.out; have z4 := HD.out; have z5 := HP.out; (try simp only [List.length_cons, List.length_nil, List.length_append] at z1 z2 z3 z4 z5 ⊢); omega) ?_; intro v2 w2 h2; have HS2 := Aside0.mk h2; clear h2))
      go_meet
      case rel => exact HS2
  case rest =>
    obtain ⟨a1, ha1⟩ : ∃ a, a = [] ++ ckKey k := ⟨_, rfl⟩
    have HSX := hcut
    rw [← ha1] at HSX
    have HLB : Aside0 (a1.length ≤ 10000001) := ⟨by rw [ha1]; have := HLA.out; have := HK.out; have := HV.out; have := HD.out; have := HP.out; have := HMA.out; simp only [List.nil_append, ckKey]; split <;> simp <;> omega⟩
    have HA1 := Aside0.mk ha1
    clear HLA HS hcut ha1
    have HLA := HLB
    have HS := HSX
    clear HLB HSX
    have c1 := HS.out.ob.cell 1 _ R1.out.2
    clear c0
    go_upto_region 5 with (first | ((with_reducible refine gate_builtin (b := .append) (xs := #[.tmp 20, .tmp 24]) rfl ?_); at_builtin; refine ST.app HS.out v _ _ _ rfl (.tmp 20) (.tmp 24) 63 rfl Try.underlying63 info5 rfl rfl (by exact HS.out.C 1 _ _ _ _ R1.out.1 R1.out.2) (by have z1 := HLA.out; have z2 := HK.out; have z3 := HV.out; have z4 := HD.out; have z5 := HP.out; (try simp only [List.length_cons, List.length_nil, List.length_append] at z1 z2 z3 z4 z5 ⊢); omega) ?_; intro v1 w1 h1; have HS1 := Aside0.mk h1; clear h1))
    obtain ⟨a2, ha2⟩ : ∃ a, a = a1 ++ v := ⟨_, rfl⟩
    rw [← ha2] at HS1
    have HLB : Aside0 (a2.length ≤ 20000001) := ⟨by rw [ha2]; have := HLA.out; have := HV.out; simp; omega⟩
    have HA2 := Aside0.mk ha2
    clear HLA HS c1 ha2
    have HLA := HLB
    have HS := HS1
    clear HLB HS1
    have c2 := HS.out.ob.cell 2 _ R2.out
    have hm0 := HMA.out
    go_upto_if 30 with (fail)
    go_cut [1] (fun v1_ wx => Aside0 (ST w v0 wx g 94 vals rows v1_ (a2 ++ ckAge ma)))
    case first =>
      by_cases h0 : ma = 0
      · subst h0
        go_wp2_with (fail)
        go_meet
        case rel => exact ⟨by simpa [ckAge] using HS.out⟩
      · have b0 : (ma != 0) = true := bne_iff_ne.2 h0
        have b1 : (ma == 0) = false := beq_eq_false_iff_ne.2 h0
        by_cases hn : ma < 0
        · have b2 : decide (ma < 0) = true := decide_eq_true hn
          have HE : Aside0 (ckAge ma = [59, 32] ++ [109, 97, 120, 45, 97, 103, 101] ++ [61] ++ [48]) := ⟨by unfold ckAge; rw [if_neg h0, if_pos hn]⟩
          clear h0 hn hm0
          go_wp2_with (first | ((with_reducible refine gate_builtin (b := .append) (xs := #[.tmp 31, .tmp 32]) rfl ?_); at_builtin; refine ST.app (HS.out.alloc _) [59, 32] _ _ _ rfl (.tmp 31) (.tmp 32) 63 rfl Try.underlying63 info5 rfl rfl (by exact lit_C [59, 32] _ rfl (heap_alloc_new _ _) (by decide)) (by have z1 := HLA.out; have z2 := HK.out; have z3 := HV.out; have z4 := HD.out; have z5 := HP.out; (try simp only [List.length_cons, List.length_nil, List.length_append] at z1 z2 z3 z4 z5 ⊢); omega) ?_; intro v1 w1 h1; have HS1 := Aside0.mk h1; clear h1) | ((with_reducible refine gate_callee (f := 106) rfl ?_); refine goesL_ (some 35) rfl rfl Try.func106 (by kernel_rfl) rfl #[] rfl (by (try simp only [List.map_toArray, List.map_cons, List.map_nil]); first | done | rfl) ?_; refine (strCookieMaxAge_calls _).mono ?_; rintro e w2 ⟨g2, c2, rfl, hc2, hb2, hg2, hw2⟩; refine ⟨_, rfl, ?_⟩; have HT2 := Aside0.mk (HS1.out.below hw2); have HB2 := Aside0.mk hb2; clear hc2 hb2 hg2 hw2) | ((with_reducible refine gate_builtin (b := .append) (xs := #[.tmp 34, .tmp 35]) rfl ?_); at_builtin; refine ST.app HT2.out [109, 97, 120, 45, 97, 103, 101] _ _ _ rfl (.tmp 34) (.tmp 35) 63 rfl Try.underlying63 info5 rfl rfl (by exact Ob.BR.C HB2.out (by decide)) (by have z1 := HLA.out; have z2 := HK.out; have z3 := HV.out; have z4 := HD.out; have z5 := HP.out; (try simp only [List.length_cons, List.length_nil, List.length_append] at z1 z2 z3 z4 z5 ⊢); omega) ?_; intro v3 w3 h3; have HS3 := Aside0.mk h3; clear h3) | ((with_reducible refine gate_builtin (b := .append) (xs := #[.tmp 37, .tmp 38]) rfl ?_); at_builtin; refine ST.app (HS3.out.alloc _) [61] _ _ _ rfl (.tmp 37) (.tmp 38) 63 rfl Try.underlying63 info5 rfl rfl (by exact lit_C [61] _ rfl (heap_alloc_new _ _) (by decide)) (by have z1 := HLA.out; have z2 := HK.out; have z3 := HV.out; have z4 := HD.out; have z5 := HP.out; (try simp only [List.length_cons, List.length_nil, List.length_append] at z1 z2 z3 z4 z5 ⊢); omega) ?_; intro v4 w4 h4; have HS4 := Aside0.mk h4; have c2b := h4.ob.cell 2 _ R2.out; clear h4) | ((with_reducible refine gate_builtin (b := .append) (xs := #[.tmp 45, .tmp 46]) rfl ?_); at_builtin; refine ST.app (HS4.out.alloc _) [48] _ _ _ rfl (.tmp 45) (.tmp 46) 63 rfl Try.underlying63 info5 rfl rfl (by exact lit_C [48] _ rfl (heap_alloc_new _ _) (by decide)) (by have z1 := HLA.out; have z2 := HK.out; have z3 := HV.out; have z4 := HD.out; have z5 := HP.out; (try simp only [List.length_cons, List.length_nil, List.length_append] at z1 z2 z3 z4 z5 ⊢); omega) ?_; intro v5 w5 h5; have HS5 := Aside0.mk h5; clear h5))
          go_meet
          case rel => exact ⟨by rw [HE.out]; simpa using HS5.out⟩
        · have b2 : decide (ma < 0) = false := decide_eq_false hn
          obtain ⟨n, rfl⟩ : ∃ n : Nat, ma = n := ⟨ma.toNat, by omega⟩
          have HE : Aside0 (ckAge (n : Int) = [59, 32] ++ [109, 97, 120, 45, 97, 103, 101] ++ [61] ++ decU n) := ⟨by unfold ckAge; rw [if_neg h0, if_neg hn, Int.toNat_natCast]⟩
          have HN : Aside0 (n ≤ 9223372036854775807) := ⟨by omega⟩
          clear h0 hn hm0
          go_wp2_with (first | ((with_reducible refine gate_builtin (b := .append) (xs := #[.tmp 31, .tmp 32]) rfl ?_); at_builtin; refine ST.app (HS.out.alloc _) [59, 32] _ _ _ rfl (.tmp 31) (.tmp 32) 63 rfl Try.underlying63 info5 rfl rfl (by exact lit_C [59, 32] _ rfl (heap_alloc_new _ _) (by decide)) (by have z1 := HLA.out; have z2 := HK.out; have z3 := HV.out; have z4 := HD.out; have z5 := HP.out; (try simp only [List.length_cons, List.length_nil, List.length_append] at z1 z2 z3 z4 z5 ⊢); omega) ?_; intro v1 w1 h1; have HS1 := Aside0.mk h1; clear h1) | ((with_reducible refine gate_callee (f := 106) rfl ?_); refine goesL_ (some 35) rfl rfl Try.func106 (by kernel_rfl) rfl #[] rfl (by (try simp only [List.map_toArray, List.map_cons, List.map_nil]); first | done | rfl) ?_; refine (strCookieMaxAge_calls _).mono ?_; rintro e w2 ⟨g2, c2, rfl, hc2, hb2, hg2, hw2⟩; refine ⟨_, rfl, ?_⟩; have HT2 := Aside0.mk (HS1.out.below hw2); have HB2 := Aside0.mk hb2; clear hc2 hb2 hg2 hw2) | ((with_reducible refine gate_builtin (b := .append) (xs := #[.tmp 34, .tmp 35]) rfl ?_); at_builtin; refine ST.app HT2.out [109, 97, 120, 45, 97, 103, 101] _ _ _ rfl (.tmp 34) (.tmp 35) 63 rfl Try.underlying63 info5 rfl rfl (by exact Ob.BR.C HB2.out (by decide)) (by have z1 := HLA.out; have z2 := HK.out; have z3 := HV.out; have z4 := HD.out; have z5 := HP.out; (try simp only [List.length_cons, List.length_nil, List.length_append] at z1 z2 z3 z4 z5 ⊢); omega) ?_; intro v3 w3 h3; have HS3 := Aside0.mk h3; clear h3) | ((with_reducible refine gate_builtin (b := .append) (xs := #[.tmp 37, .tmp 38]) rfl ?_); at_builtin; refine ST.app (HS3.out.alloc _) [61] _ _ _ rfl (.tmp 37) (.tmp 38) 63 rfl Try.underlying63 info5 rfl rfl (by exact lit_C [61] _ rfl (heap_alloc_new _ _) (by decide)) (by have z1 := HLA.out; have z2 := HK.out; have z3 := HV.out; have z4 := HD.out; have z5 := HP.out; (try simp only [List.length_cons, List.length_nil, List.length_append] at z1 z2 z3 z4 z5 ⊢); omega) ?_; intro v4 w4 h4; have HS4 := Aside0.mk h4; have c2b := h4.ob.cell 2 _ R2.out; clear h4) | ((with_reducible refine gate_callee (f := 107) rfl ?_); refine goesL_ (some 53) rfl rfl Try.func107 (by kernel_rfl) rfl #[v4, .int .i64 (n : Int)] rfl (by (try simp only [List.map_toArray, List.map_cons, List.map_nil]); first | done | rfl) ?_; refine (appU_BV w4 v4 _ HS4.out.bv n HN.out (by have := HLA.out; simp; omega) (by have := HLA.out; simp; omega)).mono ?_; rintro e w5 ⟨v5, rfl, hb5, ho5, ht5⟩; refine ⟨_, rfl, ?_⟩; have HS5 := Aside0.mk (HS4.out.step hb5 ho5 ht5); clear hb5 ho5 ht5))
          go_meet
          case rel => exact ⟨by rw [HE.out]; simpa using HS5.out⟩
    case rest =>
      obtain ⟨a3, ha3⟩ : ∃ a, a = a2 ++ ckAge ma := ⟨_, rfl⟩
      have HSX := hcut
      rw [← ha3] at HSX
      have HLB : Aside0 (a3.length ≤ 20000100) := ⟨by rw [ha3]; have := HLA.out; have := HK.out; have := HV.out; have := HD.out; have := HP.out; have := HMA.out; have h2 : (ckAge ma).length ≤ 99 := ckAge_len ma HMA.out; simp; omega⟩
      have HA3 := Aside0.mk ha3
      clear HLA HS hcut ha3
      have HLA := HLB
      have HS := HSX
      clear HLB HSX
      have c3 := HS.out.ob.cell 3 _ R3.out.2
      clear c2 hm0
      go_upto_if 59 with (fail)
      go_cut [1] (fun v1_ wx => Aside0 (ST w v0 wx g 94 vals rows v1_ (a3 ++ ckDom d)))
      case first =>
        cases d with
        | nil =>
          have e0 : nd = 0 := HND.out
          subst e0
          go_wp2_with (fail)
          go_meet
          case rel => exact ⟨by simpa [ckDom] using HS.out⟩
        | cons kx kt =>
          obtain ⟨m, rfl⟩ : ∃ m, nd = m + 1 := ⟨kt.length, by have := HND.out; simpa using this⟩
          go_wp2_with (fail)
          go_region_with (first | (go_at_call 109; refine (strCookieDomain_calls _).mono ?_; rintro e w1 ⟨g1, c1, rfl, hc1, hb1, hg1, hw1⟩; have hw1b := below_step (Below.refl _ _).drew hw1; have HT1 := Aside0.mk (HS.out.below hw1b); have HB1 := Aside0.mk hb1; have HG1 := Aside0.mk hg1; have c3b := (HS.out.below hw1b).ob.cell 3 _ R3.out.2; clear hc1 hb1 hg1 hw1 hw1b) | (go_at_call 108; refine (part_calls _ w v0 g _ vals rows _ _ HT1.out _ _ _ _ _ _ [100, 111, 109, 97, 105, 110] (kx :: kt) (fun w1 v1 acc1 _ h2 => h2.lit HB1.out (fun e => by have q1 := HS.out.bv.lt _ e; have q2 : wc.heap.size ≤ _ := HG1.out; omega) (by decide)) (fun w1 v1 acc1 h1 _ => h1.C 3 _ _ _ _ R3.out.1 R3.out.2) (by have z1 := HLA.out; have z2 := HK.out; have z3 := HV.out; have z4 := HD.out; have z5 := HP.out; (try simp only [List.length_cons, List.length_nil, List.length_append] at z1 z2 z3 z4 z5 ⊢); omega)).mono ?_; rintro e w2 ⟨v2, rfl, h2⟩; have HS2 := Aside0.mk h2; clear h2))
          all_goals go_wp2_with (fail)
          all_goals go_meet
          all_goals exact ⟨by simpa [ckDom] using HS2.out⟩
      case rest =>
        obtain ⟨a4, ha4⟩ : ∃ a, a = a3 ++ ckDom d := ⟨_, rfl⟩
        have HSX := hcut
        rw [← ha4] at HSX
        have HLB : Aside0 (a4.length ≤ 31000100) := ⟨by rw [ha4]; have := HLA.out; have := HK.out; have := HV.out; have := HD.out; have := HP.out; have := HMA.out; simp only [ckDom, List.length_append]; split <;> simp <;> omega⟩
        have HA4 := Aside0.mk ha4
        clear HLA HS hcut ha4
        have HLA := HLB
        have HS := HSX
        clear HLB HSX
        have c4 := HS.out.ob.cell 4 _ R4.out.2
        clear c3
        go_upto_if 72 with (fail)
        go_cut [1] (fun v1_ wx => Aside0 (ST w v0 wx g 94 vals rows v1_ (a4 ++ ckPath p)))
        case first =>
          cases p with
          | nil =>
            have e0 : np = 0 := HNP.out
            subst e0
            go_wp2_with (fail)
            go_meet
            case rel => exact ⟨by simpa [ckPath] using HS.out⟩
          | cons kx kt =>
            obtain ⟨m, rfl⟩ : ∃ m, np = m + 1 := ⟨kt.length, by have := HNP.out; simpa using this⟩
            go_wp2_with (fail)
            go_region_with (first | (go_at_call 110; refine (strCookiePath_calls _).mono ?_; rintro e w1 ⟨g1, c1, rfl, hc1, hb1, hg1, hw1⟩; have hw1b := below_step (Below.refl _ _).drew hw1; have HT1 := Aside0.mk (HS.out.below hw1b); have HB1 := Aside0.mk hb1; have HG1 := Aside0.mk hg1; have c4b := (HS.out.below hw1b).ob.cell 4 _ R4.out.2; clear hc1 hb1 hg1 hw1 hw1b) | (go_at_call 108; refine (part_calls _ w v0 g _ vals rows _ _ HT1.out _ _ _ _ _ _ [112, 97, 116, 104] (kx :: kt) (fun w1 v1 acc1 _ h2 => h2.lit HB1.out (fun e => by have q1 := HS.out.bv.lt _ e; have q2 : wc.heap.size ≤ _ := HG1.out; omega) (by decide)) (fun w1 v1 acc1 h1 _ => h1.C 4 _ _ _ _ R4.out.1 R4.out.2) (by have z1 := HLA.out; have z2 := HK.out; have z3 := HV.out; have z4 := HD.out; have z5 := HP.out; (try simp only [List.length_cons, List.length_nil, List.length_append] at z1 z2 z3 z4 z5 ⊢); omega)).mono ?_; rintro e w2 ⟨v2, rfl, h2⟩; have HS2 := Aside0.mk h2; clear h2))
            all_goals go_wp2_with (fail)
            all_goals go_meet
            all_goals exact ⟨by simpa [ckPath] using HS2.out⟩
        case rest =>
          obtain ⟨a5, ha5⟩ : ∃ a, a = a4 ++ ckPath p := ⟨_, rfl⟩
          have HSX := hcut
          rw [← ha5] at HSX
          have HLB : Aside0 (a5.length ≤ 42000100) := ⟨by rw [ha5]; have := HLA.out; have := HK.out; have := HV.out; have := HD.out; have := HP.out; have := HMA.out; simp only [ckPath, List.length_append]; split <;> simp <;> omega⟩
          have HA5 := Aside0.mk ha5
          clear HLA HS hcut ha5
          have HLA := HLB
          have HS := HSX
          clear HLB HSX
          have c5 := HS.out.ob.cell 5 _ R5.out
          clear c4
          go_upto_if 83 with (fail)
          go_cut [1] (fun v1_ wx => Aside0 (ST w v0 wx g 94 vals rows v1_ (a5 ++ ckHo ho)))
          case first =>
            cases ho with
            | false =>
              go_wp2_with (fail)
              go_meet
              case rel => exact ⟨by simpa [ckHo] using HS.out⟩
            | true =>
              go_wp2_with (first | ((with_reducible refine gate_builtin (b := .append) (xs := #[.tmp 84, .tmp 85]) rfl ?_); at_builtin; refine ST.app (HS.out.alloc _) [59, 32] _ _ _ rfl (.tmp 84) (.tmp 85) 63 rfl Try.underlying63 info5 rfl rfl (by exact lit_C [59, 32] _ rfl (heap_alloc_new _ _) (by decide)) (by have z1 := HLA.out; have z2 := HK.out; have z3 := HV.out; have z4 := HD.out; have z5 := HP.out; (try simp only [List.length_cons, List.length_nil, List.length_append] at z1 z2 z3 z4 z5 ⊢); omega) ?_; intro v1 w1 h1; have HS1 := Aside0.mk h1; clear h1) | ((with_reducible refine gate_callee (f := 111) rfl ?_); refine goesL_ (some 88) rfl rfl Try.func111 (by kernel_rfl) rfl #[] rfl (by (try simp only [List.map_toArray, List.map_cons, List.map_nil]); first | done | rfl) ?_; refine (strCookieHTTPOnly_calls _).mono ?_; rintro e w2 ⟨g2, c2, rfl, hc2, hb2, hg2, hw2⟩; refine ⟨_, rfl, ?_⟩; have HT2 := Aside0.mk (HS1.out.below hw2); have HB2 := Aside0.mk hb2; clear hc2 hb2 hg2 hw2) | ((with_reducible refine gate_builtin (b := .append) (xs := #[.tmp 87, .tmp 88]) rfl ?_); at_builtin; refine ST.app HT2.out [72, 116, 116, 112, 79, 110, 108, 121] _ _ _ rfl (.tmp 87) (.tmp 88) 63 rfl Try.underlying63 info5 rfl rfl (by exact Ob.BR.C HB2.out (by decide)) (by have z1 := HLA.out; have z2 := HK.out; have z3 := HV.out; have z4 := HD.out; have z5 := HP.out; (try simp only [List.length_cons, List.length_nil, List.length_append] at z1 z2 z3 z4 z5 ⊢); omega) ?_; intro v3 w3 h3; have HS3 := Aside0.mk h3; clear h3))
              go_meet
              case rel => exact ⟨by simpa [ckHo] using HS3.out⟩
          case rest =>
            obtain ⟨a6, ha6⟩ : ∃ a, a = a5 ++ ckHo ho := ⟨_, rfl⟩
            have HSX := hcut
            rw [← ha6] at HSX
            have HLB : Aside0 (a6.length ≤ 42000200) := ⟨by rw [ha6]; have := HLA.out; have := HK.out; have := HV.out; have := HD.out; have := HP.out; have := HMA.out; simp only [ckHo, List.length_append]; split <;> simp <;> omega⟩
            have HA6 := Aside0.mk ha6
            clear HLA HS hcut ha6
            have HLA := HLB
            have HS := HSX
            clear HLB HSX
            have c6 := HS.out.ob.cell 6 _ R6.out
            clear c5
            go_upto_if 93 with (fail)
            go_cut [1] (fun v1_ wx => Aside0 (ST w v0 wx g 94 vals rows v1_ (a6 ++ ckSe se)))
            case first =>
              cases se with
              | false =>
                go_wp2_with (fail)
                go_meet
                case rel => exact ⟨by simpa [ckSe] using HS.out⟩
              | true =>
                go_wp2_with (first | ((with_reducible refine gate_builtin (b := .append) (xs := #[.tmp 94, .tmp 95]) rfl ?_); at_builtin; refine ST.app (HS.out.alloc _) [59, 32] _ _ _ rfl (.tmp 94) (.tmp 95) 63 rfl Try.underlying63 info5 rfl rfl (by exact lit_C [59, 32] _ rfl (heap_alloc_new _ _) (by decide)) (by have z1 := HLA.out; have z2 := HK.out; have z3 := HV.out; have z4 := HD.out; have z5 := HP.out; (try simp only [List.length_cons, List.length_nil, List.length_append] at z1 z2 z3 z4 z5 ⊢); omega) ?_; intro v1 w1 h1; have HS1 := Aside0.mk h1; clear h1) | ((with_reducible refine gate_callee (f := 112) rfl ?_); refine goesL_ (some 98) rfl rfl Try.func112 (by kernel_rfl) rfl #[] rfl (by (try simp only [List.map_toArray, List.map_cons, List.map_nil]); first | done | rfl) ?_; refine (strCookieSecure_calls _).mono ?_; rintro e w2 ⟨g2, c2, rfl, hc2, hb2, hg2, hw2⟩; refine ⟨_, rfl, ?_⟩; have HT2 := Aside0.mk (HS1.out.below hw2); have HB2 := Aside0.mk hb2; clear hc2 hb2 hg2 hw2) | ((with_reducible refine gate_builtin (b := .append) (xs := #[.tmp 97, .tmp 98]) rfl ?_); at_builtin; refine ST.app HT2.out [115, 101, 99, 117, 114, 101] _ _ _ rfl (.tmp 97) (.tmp 98) 63 rfl Try.underlying63 info5 rfl rfl (by exact Ob.BR.C HB2.out (by decide)) (by have z1 := HLA.out; have z2 := HK.out; have z3 := HV.out; have z4 := HD.out; have z5 := HP.out; (try simp only [List.length_cons, List.length_nil, List.length_append] at z1 z2 z3 z4 z5 ⊢); omega) ?_; intro v3 w3 h3; have HS3 := Aside0.mk h3; clear h3))
                go_meet
                case rel => exact ⟨by simpa [ckSe] using HS3.out⟩
            case rest =>
              obtain ⟨a7, ha7⟩ : ∃ a, a = a6 ++ ckSe se := ⟨_, rfl⟩
              have HSX := hcut
              rw [← ha7] at HSX
              have HLB : Aside0 (a7.length ≤ 42000300) := ⟨by rw [ha7]; have := HLA.out; have := HK.out; have := HV.out; have := HD.out; have := HP.out; have := HMA.out; simp only [ckSe, List.length_append]; split <;> simp <;> omega⟩
              have HA7 := Aside0.mk ha7
              clear HLA HS hcut ha7
              have HLA := HLB
              have HS := HSX
              clear HLB HSX
              have c8 := HS.out.ob.cell 8 _ R8.out
              clear c6
              go_upto_block 0 with (fail)
              go_cut [1] (fun v1_ wx => Aside0 (ST w v0 wx g 94 vals rows v1_ (a7 ++ ckSite ss)))
              case first =>
                by_cases h1 : ss = 1
                · subst h1
                  have e1 : ((1 : Int) == 1) = true := rfl
                  have e2 : ((1 : Int) == 2) = false := rfl
                  have e3 : ((1 : Int) == 3) = false := rfl
                  have e4 : ((1 : Int) == 4) = false := rfl
                  go_wp2_with (first | ((with_reducible refine gate_builtin (b := .append) (xs := #[.tmp 106, .tmp 107]) rfl ?_); at_builtin; refine ST.app (HS.out.alloc _) [59, 32] _ _ _ rfl (.tmp 106) (.tmp 107) 63 rfl Try.underlying63 info5 rfl rfl (by exact lit_C [59, 32] _ rfl (heap_alloc_new _ _) (by decide)) (by have z1 := HLA.out; have z2 := HK.out; have z3 := HV.out; have z4 := HD.out; have z5 := HP.out; (try simp only [List.length_cons, List.length_nil, List.length_append] at z1 z2 z3 z4 z5 ⊢); omega) ?_; intro v1 w1 h1; have HS1 := Aside0.mk h1; clear h1) | ((with_reducible refine gate_callee (f := 113) rfl ?_); refine goesL_ (some 110) rfl rfl Try.func113 (by kernel_rfl) rfl #[] rfl (by (try simp only [List.map_toArray, List.map_cons, List.map_nil]); first | done | rfl) ?_; refine (strCookieSameSite_calls _).mono ?_; rintro e w2 ⟨g2, c2, rfl, hc2, hb2, hg2, hw2⟩; refine ⟨_, rfl, ?_⟩; have HT2 := Aside0.mk (HS1.out.below hw2); have HB2 := Aside0.mk hb2; clear hc2 hb2 hg2 hw2) | ((with_reducible refine gate_builtin (b := .append) (xs := #[.tmp 109, .tmp 110]) rfl ?_); at_builtin; refine ST.app HT2.out [83, 97, 109, 101, 83, 105, 116, 101] _ _ _ rfl (.tmp 109) (.tmp 110) 63 rfl Try.underlying63 info5 rfl rfl (by exact Ob.BR.C HB2.out (by decide)) (by have z1 := HLA.out; have z2 := HK.out; have z3 := HV.out; have z4 := HD.out; have z5 := HP.out; (try simp only [List.length_cons, List.length_nil, List.length_append] at z1 z2 z3 z4 z5 ⊢); omega) ?_; intro v3 w3 h3; have HS3 := Aside0.mk h3; clear h3))
                  go_meet
                  case rel => exact ⟨by simpa [ckSite] using HS3.out⟩
                have f1 : (ss == 1) = false := beq_eq_false_iff_ne.2 h1
                by_cases h2 : ss = 2
                · subst h2
                  have e1 : ((2 : Int) == 1) = false := rfl
                  have e2 : ((2 : Int) == 2) = true := rfl
                  have e3 : ((2 : Int) == 3) = false := rfl
                  have e4 : ((2 : Int) == 4) = false := rfl
                  go_wp2_with (first | ((with_reducible refine gate_callee (f := 113) rfl ?_); refine goesL_ (some 115) rfl rfl Try.func113 (by kernel_rfl) rfl #[] rfl (by (try simp only [List.map_toArray, List.map_cons, List.map_nil]); first | done | rfl) ?_; refine (strCookieSameSite_calls _).mono ?_; rintro e w1 ⟨g1, c1, rfl, hc1, hb1, hg1, hw1⟩; refine ⟨_, rfl, ?_⟩; have HT1 := Aside0.mk (HS.out.below hw1); have HB1 := Aside0.mk hb1; have HG1 := Aside0.mk hg1; clear hc1 hb1 hg1 hw1) | ((with_reducible refine gate_callee (f := 114) rfl ?_); refine goesL_ (some 116) rfl rfl Try.func114 (by kernel_rfl) rfl #[] rfl (by (try simp only [List.map_toArray, List.map_cons, List.map_nil]); first | done | rfl) ?_; refine (strCookieSameSiteLax_calls _).mono ?_; rintro e w2 ⟨g2, c2, rfl, hc2, hb2, hg2, hw2⟩; refine ⟨_, rfl, ?_⟩; have HT2 := Aside0.mk (HT1.out.below hw2); have HB2 := Aside0.mk hb2; have HG2 := Aside0.mk hg2; have HB1b := Aside0.mk (HB1.out.below hw2); have HSZ := Aside0.mk hw2.size; clear hc2 hb2 hg2 hw2) | ((with_reducible refine gate_callee (f := 108) rfl ?_); refine goesL_ (some 117) rfl rfl Try.func108 (by kernel_rfl) rfl #[u1, .slice (some ⟨g1, 0, none⟩) 8 c1, .slice (some ⟨g2, 0, none⟩) 3 c2] rfl (by (try simp only [List.map_toArray, List.map_cons, List.map_nil]); first | done | rfl) ?_; refine (part_calls _ w v0 g _ vals rows _ _ HT2.out _ _ _ _ _ _ [83, 97, 109, 101, 83, 105, 116, 101] [76, 97, 120] (fun w1 v1 acc1 _ h2 => h2.lit HB1b.out (fun e => by have := HS.out.bv.lt _ e; have := HG1.out; omega) (by decide)) (fun w1 v1 acc1 _ h2 => h2.lit HB2.out (fun e => by have := HT1.out.bv.lt _ e; have := HG2.out; omega) (by decide)) (by have := HLA.out; simp; omega)).mono ?_; rintro e w3 ⟨v3, rfl, h3⟩; refine ⟨_, rfl, ?_⟩; have HS3 := Aside0.mk h3; clear h3))
                  go_meet
                  case rel => exact ⟨by simpa [ckSite] using HS3.out⟩
                have f2 : (ss == 2) = false := beq_eq_false_iff_ne.2 h2
                by_cases h3 : ss = 3
                · subst h3
                  have e1 : ((3 : Int) == 1) = false := rfl
                  have e2 : ((3 : Int) == 2) = false := rfl
                  have e3 : ((3 : Int) == 3) = true := rfl
                  have e4 : ((3 : Int) == 4) = false := rfl
                  go_wp2_with (first | ((with_reducible refine gate_callee (f := 113) rfl ?_); refine goesL_ (some 121) rfl rfl Try.func113 (by kernel_rfl) rfl #[] rfl (by (try simp only [List.map_toArray, List.map_cons, List.map_nil]); first | done | rfl) ?_; refine (strCookieSameSite_calls _).mono ?_; rintro e w1 ⟨g1, c1, rfl, hc1, hb1, hg1, hw1⟩; refine ⟨_, rfl, ?_⟩; have HT1 := Aside0.mk (HS.out.below hw1); have HB1 := Aside0.mk hb1; have HG1 := Aside0.mk hg1; clear hc1 hb1 hg1 hw1) | ((with_reducible refine gate_callee (f := 115) rfl ?_); refine goesL_ (some 122) rfl rfl Try.func115 (by kernel_rfl) rfl #[] rfl (by (try simp only [List.map_toArray, List.map_cons, List.map_nil]); first | done | rfl) ?_; refine (strCookieSameSiteStrict_calls _).mono ?_; rintro e w2 ⟨g2, c2, rfl, hc2, hb2, hg2, hw2⟩; refine ⟨_, rfl, ?_⟩; have HT2 := Aside0.mk (HT1.out.below hw2); have HB2 := Aside0.mk hb2; have HG2 := Aside0.mk hg2; have HB1b := Aside0.mk (HB1.out.below hw2); have HSZ := Aside0.mk hw2.size; clear hc2 hb2 hg2 hw2) | ((with_reducible refine gate_callee (f := 108) rfl ?_); refine goesL_ (some 123) rfl rfl Try.func108 (by kernel_rfl) rfl #[u1, .slice (some ⟨g1, 0, none⟩) 8 c1, .slice (some ⟨g2, 0, none⟩) 6 c2] rfl (by (try simp only [List.map_toArray, List.map_cons, List.map_nil]); first | done | rfl) ?_; refine (part_calls _ w v0 g _ vals rows _ _ HT2.out _ _ _ _ _ _ [83, 97, 109, 101, 83, 105, 116, 101] [83, 116, 114, 105, 99, 116] (fun w1 v1 acc1 _ h2 => h2.lit HB1b.out (fun e => by have := HS.out.bv.lt _ e; have := HG1.out; omega) (by decide)) (fun w1 v1 acc1 _ h2 => h2.lit HB2.out (fun e => by have := HT1.out.bv.lt _ e; have := HG2.out; omega) (by decide)) (by have := HLA.out; simp; omega)).mono ?_; rintro e w3 ⟨v3, rfl, h3⟩; refine ⟨_, rfl, ?_⟩; have HS3 := Aside0.mk h3; clear h3))
                  go_meet
                  case rel => exact ⟨by simpa [ckSite] using HS3.out⟩
                have f3 : (ss == 3) = false := beq_eq_false_iff_ne.2 h3
                by_cases h4 : ss = 4
                · subst h4
                  have e1 : ((4 : Int) == 1) = false := rfl
                  have e2 : ((4 : Int) == 2) = false := rfl
                  have e3 : ((4 : Int) == 3) = false := rfl
                  have e4 : ((4 : Int) == 4) = true := rfl
                  go_wp2_with (first | ((with_reducible refine gate_callee (f := 113) rfl ?_); refine goesL_ (some 127) rfl rfl Try.func113 (by kernel_rfl) rfl #[] rfl (by (try simp only [List.map_toArray, List.map_cons, List.map_nil]); first | done | rfl) ?_; refine (strCookieSameSite_calls _).mono ?_; rintro e w1 ⟨g1, c1, rfl, hc1, hb1, hg1, hw1⟩; refine ⟨_, rfl, ?_⟩; have HT1 := Aside0.mk (HS.out.below hw1); have HB1 := Aside0.mk hb1; have HG1 := Aside0.mk hg1; clear hc1 hb1 hg1 hw1) | ((with_reducible refine gate_callee (f := 116) rfl ?_); refine goesL_ (some 128) rfl rfl Try.func116 (by kernel_rfl) rfl #[] rfl (by (try simp only [List.map_toArray, List.map_cons, List.map_nil]); first | done | rfl) ?_; refine (strCookieSameSiteNone_calls _).mono ?_; rintro e w2 ⟨g2, c2, rfl, hc2, hb2, hg2, hw2⟩; refine ⟨_, rfl, ?_⟩; have HT2 := Aside0.mk (HT1.out.below hw2); have HB2 := Aside0.mk hb2; have HG2 := Aside0.mk hg2; have HB1b := Aside0.mk (HB1.out.below hw2); have HSZ := Aside0.mk hw2.size; clear hc2 hb2 hg2 hw2) | ((with_reducible refine gate_callee (f := 108) rfl ?_); refine goesL_ (some 129) rfl rfl Try.func108 (by kernel_rfl) rfl #[u1, .slice (some ⟨g1, 0, none⟩) 8 c1, .slice (some ⟨g2, 0, none⟩) 4 c2] rfl (by (try simp only [List.map_toArray, List.map_cons, List.map_nil]); first | done | rfl) ?_; refine (part_calls _ w v0 g _ vals rows _ _ HT2.out _ _ _ _ _ _ [83, 97, 109, 101, 83, 105, 116, 101] [78, 111, 110, 101] (fun w1 v1 acc1 _ h2 => h2.lit HB1b.out (fun e => by have := HS.out.bv.lt _ e; have := HG1.out; omega) (by decide)) (fun w1 v1 acc1 _ h2 => h2.lit HB2.out (fun e => by have := HT1.out.bv.lt _ e; have := HG2.out; omega) (by decide)) (by have := HLA.out; simp; omega)).mono ?_; rintro e w3 ⟨v3, rfl, h3⟩; refine ⟨_, rfl, ?_⟩; have HS3 := Aside0.mk h3; clear h3))
                  go_meet
                  case rel => exact ⟨by simpa [ckSite] using HS3.out⟩
                have f4 : (ss == 4) = false := beq_eq_false_iff_ne.2 h4
                have HE : Aside0 (ckSite ss = []) := ⟨by unfold ckSite; rw [if_neg h1, if_neg h2, if_neg h3, if_neg h4]⟩
                clear h1 h2 h3 h4
                go_wp2_with (fail)
                go_meet
                case rel => exact ⟨by rw [HE.out, List.append_nil]; exact HS.out⟩
              case rest =>
                obtain ⟨a8, ha8⟩ : ∃ a, a = a7 ++ ckSite ss := ⟨_, rfl⟩
                have HSX := hcut
                rw [← ha8] at HSX
                have HLB : Aside0 (a8.length ≤ 42000400) := ⟨by rw [ha8]; have := HLA.out; have := HK.out; have := HV.out; have := HD.out; have := HP.out; have := HMA.out; simp only [ckSite, List.length_append]; (repeat' split) <;> simp <;> omega⟩
                have HA8 := Aside0.mk ha8
                clear HLA HS hcut ha8
                have HLA := HLB
                have HS := HSX
                clear HLB HSX
                have c7 := HS.out.ob.cell 7 _ R7.out
                clear c8
                go_upto_if 133 with (fail)
                go_cut [1] (fun v1_ wx => Aside0 (ST w v0 wx g 94 vals rows v1_ (a8 ++ ckPa pa)))
                case first =>
                  cases pa with
                  | false =>
                    go_wp2_with (fail)
                    go_meet
                    case rel => exact ⟨by simpa [ckPa] using HS.out⟩
                  | true =>
                    go_wp2_with (first | ((with_reducible refine gate_builtin (b := .append) (xs := #[.tmp 134, .tmp 135]) rfl ?_); at_builtin; refine ST.app (HS.out.alloc _) [59, 32] _ _ _ rfl (.tmp 134) (.tmp 135) 63 rfl Try.underlying63 info5 rfl rfl (by exact lit_C [59, 32] _ rfl (heap_alloc_new _ _) (by decide)) (by have z1 := HLA.out; have z2 := HK.out; have z3 := HV.out; have z4 := HD.out; have z5 := HP.out; (try simp only [List.length_cons, List.length_nil, List.length_append] at z1 z2 z3 z4 z5 ⊢); omega) ?_; intro v1 w1 h1; have HS1 := Aside0.mk h1; clear h1) | ((with_reducible refine gate_callee (f := 117) rfl ?_); refine goesL_ (some 138) rfl rfl Try.func117 (by kernel_rfl) rfl #[] rfl (by (try simp only [List.map_toArray, List.map_cons, List.map_nil]); first | done | rfl) ?_; refine (strCookiePartitioned_calls _).mono ?_; rintro e w2 ⟨g2, c2, rfl, hc2, hb2, hg2, hw2⟩; refine ⟨_, rfl, ?_⟩; have HT2 := Aside0.mk (HS1.out.below hw2); have HB2 := Aside0.mk hb2; clear hc2 hb2 hg2 hw2) | ((with_reducible refine gate_builtin (b := .append) (xs := #[.tmp 137, .tmp 138]) rfl ?_); at_builtin; refine ST.app HT2.out [80, 97, 114, 116, 105, 116, 105, 111, 110, 101, 100] _ _ _ rfl (.tmp 137) (.tmp 138) 63 rfl Try.underlying63 info5 rfl rfl (by exact Ob.BR.C HB2.out (by decide)) (by have z1 := HLA.out; have z2 := HK.out; have z3 := HV.out; have z4 := HD.out; have z5 := HP.out; (try simp only [List.length_cons, List.length_nil, List.length_append] at z1 z2 z3 z4 z5 ⊢); omega) ?_; intro v3 w3 h3; have HS3 := Aside0.mk h3; clear h3))
                    go_meet
                    case rel => exact ⟨by simpa [ckPa] using HS3.out⟩
                case rest =>
                  have HF : Aside0 (a8 ++ ckPa pa = ckText k v ma d p ho se ss pa) := ⟨by unfold ckText; rw [HA8.out, HA7.out, HA6.out, HA5.out, HA4.out, HA3.out, HA2.out, HA1.out]; simp only [List.nil_append]⟩
                  have HSX := hcut
                  rw [HF.out] at HSX
                  clear hcut c7
                  go_wp2_with (fail)
                  go_ret
                  exact ⟨_, rfl, HSX.out⟩
end Go.Proofs.Ytfbllodbcmcndaa.Q
end
section
namespace Go.Proofs.Ytfbllodbcmcndaa.Q
open Go.RowKit Go.Proofs.YtfbllodbcmcndaaW.PrintWords Go.Proofs.YtfbllodbcmcndaaW.PrintLast Go.Proofs.YtfbllodbcmcndaaW.PrintMore
open Go.Proofs.Ytfbllodbcmcndaa.SpA (toI toI_length toI_append)
open Go.Proofs.Ytfbllodbcmcndaa.Ob
set_option linter.unusedVariables false
set_option linter.unusedSimpArgs false
set_option maxHeartbeats 8000000 in
set_option maxRecDepth 100000 in
theorem setKey_calls (w : World) (g : Nat) (vals : List Value) (rows : List (Option (Bool × List UInt8))) (l : List UInt8) (A : Option Addr) (n c : Nat) (y : ByteArray) (h : OBJ w g 94 vals rows) (hr : rows[0]? = some (some (true, l))) (hv : vals[0]? = some (.slice A n c)) (hy : y.size ≤ 2147483647) :
    Calls Try.prog 50 #[.pointer (some ⟨g, 0, none⟩), .string y] w fun e w' => e = .returned (.tuple #[]) ∧ ∃ v', OBJ w' g 94 (vals.set 0 v') (rows.set 0 (some (true, y.data.toList))) ∧ Only (fun j => j = g ∨ (Value.slice A n c).ownBlock = some j) w w' := by
  obtain ⟨i0, hi0, _, hsz0, _⟩ := info_parts info5
  obtain ⟨u, hu, hb⟩ := h.row 0 true l hr
  rw [hv] at hu
  cases hu
  have c0 := h.cell 0 _ hv
  have HCUT := cut0_run (P := Try.prog) Try.underlying63 hi0 A n c 0 (0 : Int) rfl (Nat.zero_le _)
  have hlen : 0 < vals.length := by rcases Nat.lt_or_ge 0 vals.length with h1 | h1; exact h1; rw [List.getElem?_eq_none h1] at hv; cases hv
  have hsame : (Value.slice A 0 c).ownBlock = (Value.slice A n c).ownBlock := by cases A <;> rfl
  have H := Aside0.mk h
  have HR := Aside0.mk hr
  have HV := Aside0.mk hv
  have HB := Aside0.mk (BV.cut0 hb.bv)
  have HY := Aside0.mk hy
  have HLEN := Aside0.mk hlen
  have HSAME := Aside0.mk hsame
  clear h hr hv hb hy hi0 hsz0 hlen hsame
  go_enter Try.func50, Try.ntmps50
  go_wp2_with ((with_reducible refine gate_builtin (b := .append) (xs := #[.tmp 9, .tmp 10]) rfl ?_); at_builtin; refine apps_BV rfl (.tmp 9) (.tmp 10) 63 9 rfl Try.underlying63 Try.underlying9 info5 (.slice A 0 c) [] y rfl rfl HB.out (by have := HY.out; simp; omega) ?_; intro v1 w1 h1 h2 h3; obtain ⟨A1, n1, m1, rfl⟩ := h1.form; obtain ⟨h4, h5⟩ := H.out.refill (by decide) 0 HR.out HV.out HSAME.out h2 h3; have c1 := h4.cell 0 _ HV.out; have z1 := h4.fz 0; have H1 := Aside0.mk h1; have H2 := Aside0.mk h2; have H4 := Aside0.mk h4; have H5 := Aside0.mk h5; clear h1 h2 h3 h4 h5)
  go_end0
  refine ⟨rfl, _, OBJ.restore (by decide) 0 HLEN.out H4.out H5.out (BV.rw (by have := H1.out; rwa [List.nil_append] at this)), ?_⟩
  exact Only.set (S := fun j => j = g ∨ (Value.slice A n c).ownBlock = some j) (H2.out.mono fun k _ hk => .inr (by rw [← HSAME.out]; exact hk)) (.inl (.inl rfl)) _ _
set_option maxHeartbeats 8000000 in
set_option maxRecDepth 100000 in
theorem setValue_calls (w : World) (g : Nat) (vals : List Value) (rows : List (Option (Bool × List UInt8))) (l : List UInt8) (A : Option Addr) (n c : Nat) (y : ByteArray) (h : OBJ w g 94 vals rows) (hr : rows[1]? = some (some (true, l))) (hv : vals[1]? = some (.slice A n c)) (hy : y.size ≤ 2147483647) :
    Calls Try.prog 51 #[.pointer (some ⟨g, 0, none⟩), .string y] w fun e w' => e = .returned (.tuple #[]) ∧ ∃ v', OBJ w' g 94 (vals.set 1 v') (rows.set 1 (some (true, y.data.toList))) ∧ Only (fun j => j = g ∨ (Value.slice A n c).ownBlock = some j) w w' := by
  obtain ⟨i0, hi0, _, hsz0, _⟩ := info_parts info5
  obtain ⟨u, hu, hb⟩ := h.row 1 true l hr
  rw [hv] at hu
  cases hu
  have c0 := h.cell 1 _ hv
  have HCUT := cut0_run (P := Try.prog) Try.underlying63 hi0 A n c 0 (0 : Int) rfl (Nat.zero_le _)
  have hlen : 1 < vals.length := by rcases Nat.lt_or_ge 1 vals.length with h1 | h1; exact h1; rw [List.getElem?_eq_none h1] at hv; cases hv
  have hsame : (Value.slice A 0 c).ownBlock = (Value.slice A n c).ownBlock := by cases A <;> rfl
  have H := Aside0.mk h
  have HR := Aside0.mk hr
  have HV := Aside0.mk hv
  have HB := Aside0.mk (BV.cut0 hb.bv)
  have HY := Aside0.mk hy
  have HLEN := Aside0.mk hlen
  have HSAME := Aside0.mk hsame
  clear h hr hv hb hy hi0 hsz0 hlen hsame
  go_enter Try.func51, Try.ntmps51
  go_wp2_with ((with_reducible refine gate_builtin (b := .append) (xs := #[.tmp 9, .tmp 10]) rfl ?_); at_builtin; refine apps_BV rfl (.tmp 9) (.tmp 10) 63 9 rfl Try.underlying63 Try.underlying9 info5 (.slice A 0 c) [] y rfl rfl HB.out (by have := HY.out; simp; omega) ?_; intro v1 w1 h1 h2 h3; obtain ⟨A1, n1, m1, rfl⟩ := h1.form; obtain ⟨h4, h5⟩ := H.out.refill (by decide) 1 HR.out HV.out HSAME.out h2 h3; have c1 := h4.cell 1 _ HV.out; have z1 := h4.fz 1; have H1 := Aside0.mk h1; have H2 := Aside0.mk h2; have H4 := Aside0.mk h4; have H5 := Aside0.mk h5; clear h1 h2 h3 h4 h5)
  go_end0
  refine ⟨rfl, _, OBJ.restore (by decide) 1 HLEN.out H4.out H5.out (BV.rw (by have := H1.out; rwa [List.nil_append] at this)), ?_⟩
  exact Only.set (S := fun j => j = g ∨ (Value.slice A n c).ownBlock = some j) (H2.out.mono fun k _ hk => .inr (by rw [← HSAME.out]; exact hk)) (.inl (.inl rfl)) _ _
set_option maxHeartbeats 8000000 in
set_option maxRecDepth 100000 in
theorem setDomain_calls (w : World) (g : Nat) (vals : List Value) (rows : List (Option (Bool × List UInt8))) (l : List UInt8) (A : Option Addr) (n c : Nat) (y : ByteArray) (h : OBJ w g 94 vals rows) (hr : rows[3]? = some (some (true, l))) (hv : vals[3]? = some (.slice A n c)) (hy : y.size ≤ 2147483647) :
    Calls Try.prog 52 #[.pointer (some ⟨g, 0, none⟩), .string y] w fun e w' => e = .returned (.tuple #[]) ∧ ∃ v', OBJ w' g 94 (vals.set 3 v') (rows.set 3 (some (true, y.data.toList))) ∧ Only (fun j => j = g ∨ (Value.slice A n c).ownBlock = some j) w w' := by
  obtain ⟨i0, hi0, _, hsz0, _⟩ := info_parts info5
  obtain ⟨u, hu, hb⟩ := h.row 3 true l hr
  rw [hv] at hu
  cases hu
  have c0 := h.cell 3 _ hv
  have HCUT := cut0_run (P := Try.prog) Try.underlying63 hi0 A n c 0 (0 : Int) rfl (Nat.zero_le _)
  have hlen : 3 < vals.length := by rcases Nat.lt_or_ge 3 vals.length with h1 | h1; exact h1; rw [List.getElem?_eq_none h1] at hv; cases hv
  have hsame : (Value.slice A 0 c).ownBlock = (Value.slice A n c).ownBlock := by cases A <;> rfl
  have H := Aside0.mk h
  have HR := Aside0.mk hr
  have HV := Aside0.mk hv
  have HB := Aside0.mk (BV.cut0 hb.bv)
  have HY := Aside0.mk hy
  have HLEN := Aside0.mk hlen
  have HSAME := Aside0.mk hsame
  clear h hr hv hb hy hi0 hsz0 hlen hsame
  go_enter Try.func52, Try.ntmps52
  go_wp2_with ((with_reducible refine gate_builtin (b := .append) (xs := #[.tmp 9, .tmp 10]) rfl ?_); at_builtin; refine apps_BV rfl (.tmp 9) (.tmp 10) 63 9 rfl Try.underlying63 Try.underlying9 info5 (.slice A 0 c) [] y rfl rfl HB.out (by have := HY.out; simp; omega) ?_; intro v1 w1 h1 h2 h3; obtain ⟨A1, n1, m1, rfl⟩ := h1.form; obtain ⟨h4, h5⟩ := H.out.refill (by decide) 3 HR.out HV.out HSAME.out h2 h3; have c1 := h4.cell 3 _ HV.out; have z1 := h4.fz 3; have H1 := Aside0.mk h1; have H2 := Aside0.mk h2; have H4 := Aside0.mk h4; have H5 := Aside0.mk h5; clear h1 h2 h3 h4 h5)
  go_end0
  refine ⟨rfl, _, OBJ.restore (by decide) 3 HLEN.out H4.out H5.out (BV.rw (by have := H1.out; rwa [List.nil_append] at this)), ?_⟩
  exact Only.set (S := fun j => j = g ∨ (Value.slice A n c).ownBlock = some j) (H2.out.mono fun k _ hk => .inr (by rw [← HSAME.out]; exact hk)) (.inl (.inl rfl)) _ _
end Go.Proofs.Ytfbllodbcmcndaa.Q
end
section
namespace Go.Proofs.Ytfbllodbcmcndaa.Q
open Go.RowKit Go.Proofs.YtfbllodbcmcndaaW.PrintWords Go.Proofs.YtfbllodbcmcndaaW.PrintLast Go.Proofs.YtfbllodbcmcndaaW.PrintMore
attribute [local go_sem] max2_int min2_int max_two min_two max_three min_three max_four min_four
set_option linter.unusedVariables false
set_option linter.unusedSimpArgs false
def hertzproto_decodeArgAppendNoPlus.l0 : Nat → List Int → List Int → Int → Option (List Int)
  | 0, _, _, _ => none
  | k + 1, x0, x1, x5 => if x5 < (x1.length : Int) then (if 0 ≤ x5 then (if (rd x1 x5) = 37 then (if (wrap64 (x5 + 2)) ≥ (x1.length : Int) then (if x5 ≤ (x1.length : Int) then ((some (x1.drop (x5 : Int).toNat : List Int)).bind fun y115 => (if x0.length + y115.length < 140737488355328 then (some (x0 ++ y115)) else (none))) else (none)) else (if 0 ≤ (wrap64 (x5 + 2)) then (if (wrap64 (x5 + 2)) < (x1.length : Int) then (if 0 ≤ (rd x1 (wrap64 (x5 + 2))) then (if (rd x1 (wrap64 (x5 + 2))) < (tab1.size : Int) then (if 0 ≤ (wrap64 (x5 + 1)) then (if (wrap64 (x5 + 1)) < (x1.length : Int) then (if 0 ≤ (rd x1 (wrap64 (x5 + 1))) then (if (rd x1 (wrap64 (x5 + 1))) < (tab1.size : Int) then (if (bt tab1 (rd x1 (wrap64 (x5 + 1)))) = 16 then (if x0.length < 140737488355328 then (hertzproto_decodeArgAppendNoPlus.l0 k (x0 ++ [37]) x1 (wrap64 (x5 + 1))) else (none)) else (if (bt tab1 (rd x1 (wrap64 (x5 + 2)))) = 16 then (if x0.length < 140737488355328 then (hertzproto_decodeArgAppendNoPlus.l0 k (x0 ++ [37]) x1 (wrap64 (x5 + 1))) else (none)) else (if x0.length < 140737488355328 then (hertzproto_decodeArgAppendNoPlus.l0 k (x0 ++ [Go.bits .or .u8 (((bt tab1 (rd x1 (wrap64 (x5 + 1)))) * 16) % 256) (bt tab1 (rd x1 (wrap64 (x5 + 2))))]) x1 (wrap64 ((wrap64 (x5 + 2)) + 1))) else (none)))) else (none)) else (none)) else (none)) else (none)) else (none)) else (none)) else (none)) else (none))) else (if x0.length < 140737488355328 then (hertzproto_decodeArgAppendNoPlus.l0 k (x0 ++ [rd x1 x5]) x1 (wrap64 (x5 + 1))) else (none))) else (none)) else (some x0)
def hertzproto_decodeArgAppendNoPlus.f (k : Nat) (l0 : List Int) (l1 : List Int) : Option (List Int) := (bytes_IndexByte.f l1 37).bind fun t110 => (if t110 < 0 then (if l0.length + l1.length < 140737488355328 then (some (l0 ++ l1)) else (none)) else (hertzproto_decodeArgAppendNoPlus.l0 k l0 l1 0))
set_option maxHeartbeats 8000000 in
set_option maxRecDepth 100000 in
theorem hertzproto_decodeArgAppendNoPlus.calls (k : Nat) (P0_ : Nat → Prop) (u9000_ : Value) (l0 : List Int) (A1 : Option Addr) (c1 : Nat) (l1 : List Int) (r : List Int) (w0 w : World) (hB : Below w0.heap.size w0 w) (ho0 : Kd.R (Kd.int .u8) 5 w w0.heap.size P0_ u9000_ l0) (hr1 : ∀ W_, Kept w W_ (fun k_ => P0_ k_) → Kd.C (Kd.int .u8) W_ A1 l1.length l1) (hc1 : l1.length ≤ c1) (h : hertzproto_decodeArgAppendNoPlus.f k l0 l1 = some r) :
    Calls Try.prog 91 #[u9000_, .slice A1 l1.length c1] w fun e w' => ∃ v0_ : Value, e = .returned (v0_) ∧ Kd.R (Kd.int .u8) 5 w' w0.heap.size (fun k_ => (P0_ k_ ∨ w.heap.size ≤ k_)) v0_ r ∧ Below w0.heap.size w0 w' ∧ Kept w w' (fun k_ => P0_ k_) := by
  have HO0 := Aside0.mk (show Kd.R (Kd.int .u8) 5 w w0.heap.size (fun k_ => (P0_ k_ ∨ w.heap.size ≤ k_)) u9000_ l0 from Kd.R_mono ho0 (fun k_ hk => (.inl hk)))
  have HR1 := Aside0.mk hr1
  have HC1 := Aside0.mk hc1
  clear hr1 hc1
  have HK := Aside0.mk (Kept.refl w (fun k_ => P0_ k_))
  have HW0 := Aside0.mk hB.size
  have HB := Aside0.mk hB
  clear hB
  have H : ((bytes_IndexByte.f l1 37).bind fun t110 => (if t110 < 0 then (if l0.length + l1.length < 140737488355328 then (some (l0 ++ l1)) else (none)) else (hertzproto_decodeArgAppendNoPlus.l0 k l0 l1 0))) = some r := h
  clear h
  replace H := Option.bind_eq_some_iff.mp H
  obtain ⟨t110, A30, H⟩ := H
  replace H : (if t110 < 0 then (if l0.length + l1.length < 140737488355328 then (some (l0 ++ l1)) else (none)) else (hertzproto_decodeArgAppendNoPlus.l0 k l0 l1 0)) = some r := H
  have A3 := Aside0.mk A30
  clear A30
  by_cases c4 : t110 < 0
  · rw [if_pos c4] at H
    have c4b0 : decide (t110 < 0) = true := decide_eq_true c4
    clear c4
    by_cases c5 : l0.length + l1.length < 140737488355328
    · rw [if_pos c5] at H
      have LMc5 := Aside0.mk c5
      clear c5
      obtain ⟨y111, hy111⟩ : ∃ y_ : List Int, y_ = (l0 ++ l1) := ⟨_, rfl⟩
      replace H : (some y111) = some r := by first | (rw [hy111]; with_reducible exact H) | (have H2_ := (Option.bind_some _ _).symm.trans H; rw [hy111]; with_reducible exact H2_) | (have H2_ := (Option.bind_some _ _).symm.trans H; with_reducible exact H2_) | with_reducible exact H | (rw [hy111]; exact H) | exact H
      have Ny111 := Aside0.mk hy111
      clear hy111
      obtain rfl := Option.some.inj H
      go_enter Try.func91, Try.ntmps91
      go_wp2_with (first | ((with_reducible refine gate_callee (f := 101) rfl ?_); refine goesL_ (some 10) rfl rfl Try.func101 (by kernel_rfl) rfl #[.slice A1 l1.length c1, .int .u8 37] rfl (by (try simp only [List.map_toArray, List.map_cons, List.map_nil]); first | done | rfl | (simp only [List.length_drop, List.length_take]; rfl)) ?_; (with_reducible refine (bytes_IndexByte.calls _ _ l1 37 t110 _ ?side1 ?side2 A3.out).mono ?_); (case side1 => exact Kd.C_kept_now HR1.out (by repeat (first | (with_reducible first | exact HK.out | apply Kept.alloc | apply Kept.drewN | apply Kept.drew) | exact HK.out))); (case side2 => exact HC1.out); rintro e w' ⟨rfl, ⟨nd, rfl⟩⟩; refine ⟨_, rfl, ?_⟩) | ((with_reducible refine gate_builtin (b := .append) (xs := #[.tmp 12, .tmp 13]) rfl ?_); at_builtin; refine Kd.R_append_rows (Kd.int .u8) (w0 := w0) w0.heap.size rfl (.tmp 12) (.tmp 13) 63 5 (.int .u8 0) 1 rfl Try.underlying63 info5 rfl (by decide) (by omega) u9000_ l0 l1 _ _ _ (fun k_ => (P0_ k_ ∨ w.heap.size ≤ k_)) (fun _ => False) rfl rfl ?aO ?aR (fun _ _ h => h) (fun _ h => h.elim) ?aF ?aB ?aS ?aL ?_; (case aR => exact Kd.C_kept_now HR1.out (by repeat (first | (with_reducible first | exact HK.out | apply Kept.alloc | apply Kept.drewN | apply Kept.drew) | exact HK.out))); (case aB => exact (by repeat (first | (with_reducible first | exact HB.out | apply below_alloc | apply pw_below_drewN | apply below_drew1) | exact HB.out))); (case aF => exact (fun k_ hk => (.inr (Nat.le_trans (by first | exact HK.out.1 | exact (show Kept w _ (fun k_ => P0_ k_) from by repeat (first | (with_reducible first | exact HK.out | apply Kept.alloc | apply Kept.drewN | apply Kept.drew) | exact HK.out)).1) hk)))); (case aO => exact (by (with_reducible repeat (first | apply Kd.R_alloc | apply Kd.R_drewN | apply Kd.R_drew)); exact HO0.out)); (case aS => exact (below_size (by repeat (first | (with_reducible first | exact HB.out | apply below_alloc | apply pw_below_drewN | apply below_drew1) | exact HB.out)))); (case aL => have := LMc5.out; omega); intro v112 w6 ho hb hg hat; rw [← Ny111.out] at ho; have n0_ := Aside0.mk (hb); have n1_ := Aside0.mk (Kept.of_grown (S := (fun k_ => P0_ k_)) hg (by repeat (first | (with_reducible first | exact HK.out | apply Kept.alloc | apply Kept.drewN | apply Kept.drew) | exact HK.out)) (fun k_ e_ => (HO0.out.1 k_ e_))); have n2_ := Aside0.mk (ho); clear HB; clear HK; clear HO0; have HB := n0_; have HK := n1_; have HO113 := n2_; clear n0_ n1_ n2_; clear ho hb hg hat))
      go_ret
      exact ⟨_, by first | rfl | (simp [errW_none, errW_some] <;> rfl) | (simp [*, errW_none, errW_some] <;> rfl), by (with_reducible repeat (first | apply Kd.R_alloc | apply Kd.R_drewN | apply Kd.R_drew)); exact HO113.out, by repeat (first | (with_reducible first | exact HB.out | apply below_alloc | apply pw_below_drewN | apply below_drew1) | exact HB.out), by repeat (first | (with_reducible first | exact HK.out | apply Kept.alloc | apply Kept.drewN | apply Kept.drew) | exact HK.out)⟩
    · rw [if_neg c5] at H
      exact absurd H (by simp)
  · rw [if_neg c4] at H
    have c4b0 : decide (t110 < 0) = false := decide_eq_false c4
    clear c4
    have H' := Aside0.mk H
    clear H
    go_enter Try.func91, Try.ntmps91
    go_wp2_with (first | ((with_reducible refine gate_callee (f := 101) rfl ?_); refine goesL_ (some 10) rfl rfl Try.func101 (by kernel_rfl) rfl #[.slice A1 l1.length c1, .int .u8 37] rfl (by (try simp only [List.map_toArray, List.map_cons, List.map_nil]); first | done | rfl | (simp only [List.length_drop, List.length_take]; rfl)) ?_; (with_reducible refine (bytes_IndexByte.calls _ _ l1 37 t110 _ ?side1 ?side2 A3.out).mono ?_); (case side1 => exact Kd.C_kept_now HR1.out (by repeat (first | (with_reducible first | exact HK.out | apply Kept.alloc | apply Kept.drewN | apply Kept.drew) | exact HK.out))); (case side2 => exact HC1.out); rintro e w' ⟨rfl, ⟨nd, rfl⟩⟩; refine ⟨_, rfl, ?_⟩))
    go_loopg [0, 5] k (fun kq v0 v5 w' => ∃ (x0_1 : List Int) (x5_1 : Int), v5 = .int .i64 x5_1 ∧ Aside0 (hertzproto_decodeArgAppendNoPlus.l0 kq x0_1 l1 x5_1 = some r) ∧ Aside0 (kq ≤ k) ∧ Aside0 (Kd.R (Kd.int .u8) 5 w' w0.heap.size (fun k_ => (P0_ k_ ∨ w.heap.size ≤ k_)) v0 x0_1) ∧ Aside0 (Kept w w' (fun k_ => P0_ k_)) ∧ Aside0 (Below w0.heap.size w0 w'))
    case atStart => exact ⟨(l0), (0), (by first | rfl | (simp; done) | (simp [*]; done) | (simp [Go.Proofs.YtfbllodbcmcndaaX.isEmpty_ne]; done)), H', ⟨Nat.le_refl _⟩, ⟨by (with_reducible repeat (first | apply Kd.R_alloc | apply Kd.R_drewN | apply Kd.R_drew)); exact HO0.out⟩, ⟨by repeat (first | (with_reducible first | exact HK.out | apply Kept.alloc | apply Kept.drewN | apply Kept.drew) | exact HK.out)⟩, ⟨by repeat (first | (with_reducible first | exact HB.out | apply below_alloc | apply pw_below_drewN | apply below_drew1) | exact HB.out)⟩⟩
    case round =>
      clear H'
      try clear c1
      try clear p2
      try clear c4
      try clear c4b0
      try clear c5
      obtain ⟨x0_1, x5_1, rfl, HA, HK1, HO_0, HK, HB⟩ := hrel
      cases gk with
      | zero => exact absurd HA.out (by simp [hertzproto_decodeArgAppendNoPlus.l0])
      | succ k1 =>
        have H := HA.out
        clear HA
        simp only [hertzproto_decodeArgAppendNoPlus.l0] at H
        by_cases c7 : x5_1 < (l1.length : Int)
        · rw [if_pos c7] at H
          have c7b0 : decide (x5_1 < (l1.length : Int)) = true := decide_eq_true c7
          clear c7
          by_cases c8 : 0 ≤ x5_1
          · rw [if_pos c8] at H
            have c8b0 : decide (0 ≤ x5_1) = true := decide_eq_true c8
            clear c8
            by_cases c9 : (rd l1 x5_1) = 37
            · rw [if_pos c9] at H
              have c9b0 : ((rd l1 x5_1) == 37) = true := beq_iff_eq.mpr c9
              have c9b1 : ((rd l1 x5_1) != 37) = false := bne_eq_false_iff_eq.mpr c9
              clear c9
              by_cases c10 : (wrap64 (x5_1 + 2)) ≥ (l1.length : Int)
              · rw [if_pos c10] at H
                have c10b0 : decide ((l1.length : Int) ≤ (wrap64 (x5_1 + 2))) = true := decide_eq_true c10
                clear c10
                have c11b0 := eq_true (of_decide_eq_true (by first | (with_reducible assumption) | assumption) : 0 ≤ x5_1)
                by_cases c12 : x5_1 ≤ (l1.length : Int)
                · rw [if_pos c12] at H
                  have c12b0 := eq_true c12
                  have c12b1 : decide (x5_1 ≤ (l1.length : Int)) = true := decide_eq_true c12
                  clear c12
                  obtain ⟨y115, hy115⟩ : ∃ y_ : List Int, y_ = (l1.drop (x5_1 : Int).toNat) := ⟨_, rfl⟩
                  replace H : (if x0_1.length + y115.length < 140737488355328 then (some (x0_1 ++ y115)) else (none)) = some r := by first | (rw [hy115]; with_reducible exact H) | (have H2_ := (Option.bind_some _ _).symm.trans H; rw [hy115]; with_reducible exact H2_) | (have H2_ := (Option.bind_some _ _).symm.trans H; with_reducible exact H2_) | with_reducible exact H | (rw [hy115]; exact H) | exact H
                  have Ny115 := Aside0.mk hy115
                  clear hy115
                  by_cases c13 : x0_1.length + y115.length < 140737488355328
                  · rw [if_pos c13] at H
                    have LMc13 := Aside0.mk c13
                    clear c13
                    obtain ⟨y119, hy119⟩ : ∃ y_ : List Int, y_ = (x0_1 ++ y115) := ⟨_, rfl⟩
                    replace H : (some y119) = some r := by first | (rw [hy119]; with_reducible exact H) | (have H2_ := (Option.bind_some _ _).symm.trans H; rw [hy119]; with_reducible exact H2_) | (have H2_ := (Option.bind_some _ _).symm.trans H; with_reducible exact H2_) | with_reducible exact H | (rw [hy119]; exact H) | exact H
                    have Ny119 := Aside0.mk hy119
                    clear hy119
                    obtain rfl := Option.some.inj H
                    have p114 : 0 ≤ (x5_1 : Int) := of_decide_eq_true (by first | (with_reducible assumption) | assumption)
                    have q114 : x5_1 < (l1.length : Int) := of_decide_eq_true (by first | (with_reducible assumption) | assumption)
                    obtain ⟨ad114, e114, hx114_0⟩ := Kd.at_int (Kd.C_kept_now HR1.out HK.out) x5_1 p114 q114
                    cases e114
                    replace p114 := eq_true p114
                    replace q114 := eq_true q114
                    have q14 : (x5_1 : Int) ≤ ((l1.length : Int) : Int) := of_decide_eq_true (by first | (with_reducible assumption) | assumption)
                    obtain ⟨i014, hi014, _, hsz14, _⟩ := info_parts info5
                    have hroom14 : l1.length ≤ c1 := HC1.out
                    have hC14 : Kd.C (Kd.int .u8) _ (some ad114) l1.length l1 := (Kd.C_kept_now HR1.out HK.out)
                    have q014 : (0 : Int) ≤ (x5_1 : Int) := of_decide_eq_true (by first | (with_reducible assumption) | assumption)
                    have hcut14 := cut_from (P := Try.prog) 63 5 .i64 Try.underlying63 hi014 1 hsz14 (some ad114) l1.length c1 x5_1 q014 q14
                    have hr14 := Kd.C_drop (m := (x5_1 : Int).toNat) (c := c1) hC14 (by omega) hroom14
                    obtain ⟨A14, hA14⟩ : ∃ zq_, zq_ = (if c1 = (x5_1 : Int).toNat then (some ad114) else ((some ad114) : Option Addr).map (·.add ((x5_1 : Int).toNat * 1))) := ⟨_, rfl⟩
                    obtain ⟨c14, hc14⟩ : ∃ zq_, zq_ = c1 - (x5_1 : Int).toNat := ⟨_, rfl⟩
                    have hy14 : y115.length = l1.length - (x5_1 : Int).toNat := (by rw [Ny115.out, List.length_drop] <;> omega)
                    rw [show (l1).drop (x5_1 : Int).toNat = y115 from Ny115.out.symm] at hr14
                    replace hr14 : Kd.C (Kd.int .u8) _ A14 y115.length y115 := (by rw [hA14]; exact hr14)
                    rw [← hy14, ← hA14, ← hc14] at hcut14
                    have HR118 := Aside0.mk hr14
                    have HC118 := Aside0.mk (show y115.length ≤ c14 from by rw [hy14, hc14]; exact Nat.sub_le_sub_right hroom14 _)
                    clear hr14 hC14 hroom14 hi014 hsz14 hc14
                    have KY14 := Aside0.mk hy14
                    have KA14 := Aside0.mk hA14
                    clear hy14 hA14
                    have KL14 := Aside0.mk (show (x5_1 : Int).toNat ≤ l1.length from by omega)
                    replace q14 := eq_true q14
                    go_wp2_with (first | ((with_reducible refine gate_builtin (b := .append) (xs := #[.tmp 32, .tmp 35]) rfl ?_); at_builtin; refine Kd.R_append_rows (Kd.int .u8) (w0 := w0) w0.heap.size rfl (.tmp 32) (.tmp 35) 63 5 (.int .u8 0) 1 rfl Try.underlying63 info5 rfl (by decide) (by omega) u0 x0_1 y115 _ _ _ (fun k_ => (P0_ k_ ∨ w.heap.size ≤ k_)) (fun _ => False) rfl rfl ?aO ?aR (fun _ _ h => h) (fun _ h => h.elim) ?aF ?aB ?aS ?aL ?_; (case aR => repeat (first | exact (by repeat (first | (with_reducible exact HR118.out) | (with_reducible refine Kd.C_alloc ?_ _) | (with_reducible refine Kd.C_drewN ?_ _) | (with_reducible refine Kd.C_drew ?_) | exact HR118.out)) | (with_reducible refine Kd.C_alloc ?_ _) | (with_reducible refine Kd.C_drewN ?_ _) | (with_reducible refine Kd.C_drew ?_))); (case aB => exact (by repeat (first | (with_reducible first | exact HB.out | apply below_alloc | apply pw_below_drewN | apply below_drew1) | exact HB.out))); (case aF => exact (fun k_ hk => (.inr (Nat.le_trans (by first | exact HK.out.1 | exact (show Kept w _ (fun k_ => P0_ k_) from by repeat (first | (with_reducible first | exact HK.out | apply Kept.alloc | apply Kept.drewN | apply Kept.drew) | exact HK.out)).1) hk)))); (case aO => exact (by (with_reducible repeat (first | apply Kd.R_alloc | apply Kd.R_drewN | apply Kd.R_drew)); exact HO_0.out)); (case aS => exact (below_size (by repeat (first | (with_reducible first | exact HB.out | apply below_alloc | apply pw_below_drewN | apply below_drew1) | exact HB.out)))); (case aL => have := LMc13.out; omega); intro v120 w15 ho hb hg hat; rw [← Ny119.out] at ho; have n0_ := Aside0.mk (hb); have n1_ := Aside0.mk (Kept.of_grown (S := (fun k_ => P0_ k_)) hg (by repeat (first | (with_reducible first | exact HK.out | apply Kept.alloc | apply Kept.drewN | apply Kept.drew) | exact HK.out)) (fun k_ e_ => (HO_0.out.1 k_ e_))); have n2_ := Aside0.mk ((show Kd.C (Kd.int .u8) w15 A14 y115.length y115 from by rw [Ny115.out, KA14.out]; exact Kd.C_drop (m := (x5_1 : Int).toNat) (c := c1) (Kd.C_kept_now HR1.out (show Kept w w15 (fun k_ => P0_ k_) from (Kept.of_grown (S := (fun k_ => P0_ k_)) hg (by repeat (first | (with_reducible first | exact HK.out | apply Kept.alloc | apply Kept.drewN | apply Kept.drew) | exact HK.out)) (fun k_ e_ => (HO_0.out.1 k_ e_))))) KL14.out HC1.out)); have n3_ := Aside0.mk (ho); clear HB; clear HK; clear HR118; clear HO_0; have HB := n0_; have HK := n1_; have HR118 := n2_; have HO121 := n3_; clear n0_ n1_ n2_ n3_; clear ho hb hg hat))
                    go_ret
                    exact ⟨_, by first | rfl | (simp [errW_none, errW_some] <;> rfl) | (simp [*, errW_none, errW_some] <;> rfl), by (with_reducible repeat (first | apply Kd.R_alloc | apply Kd.R_drewN | apply Kd.R_drew)); exact HO121.out, by repeat (first | (with_reducible first | exact HB.out | apply below_alloc | apply pw_below_drewN | apply below_drew1) | exact HB.out), by repeat (first | (with_reducible first | exact HK.out | apply Kept.alloc | apply Kept.drewN | apply Kept.drew) | exact HK.out)⟩
                  · rw [if_neg c13] at H
                    exact absurd H (by simp)
                · rw [if_neg c12] at H
                  exact absurd H (by simp)
              · rw [if_neg c10] at H
                have c10b0 : decide ((l1.length : Int) ≤ (wrap64 (x5_1 + 2))) = false := decide_eq_false c10
                clear c10
                obtain ⟨ji16, hji16⟩ : ∃ j_ : Int, (wrap64 (x5_1 + 2)) = j_ := ⟨_, rfl⟩
                replace H : (if 0 ≤ (ji16) then (if (ji16) < (l1.length : Int) then (if 0 ≤ (rd l1 (ji16)) then (if (rd l1 (ji16)) < (tab1.size : Int) then (if 0 ≤ (wrap64 (x5_1 + 1)) then (if (wrap64 (x5_1 + 1)) < (l1.length : Int) then (if 0 ≤ (rd l1 (wrap64 (x5_1 + 1))) then (if (rd l1 (wrap64 (x5_1 + 1))) < (tab1.size : Int) then (if (bt tab1 (rd l1 (wrap64 (x5_1 + 1)))) = 16 then (if x0_1.length < 140737488355328 then (hertzproto_decodeArgAppendNoPlus.l0 k1 (x0_1 ++ [37]) l1 (wrap64 (x5_1 + 1))) else (none)) else (if (bt tab1 (rd l1 (ji16))) = 16 then (if x0_1.length < 140737488355328 then (hertzproto_decodeArgAppendNoPlus.l0 k1 (x0_1 ++ [37]) l1 (wrap64 (x5_1 + 1))) else (none)) else (if x0_1.length < 140737488355328 then (hertzproto_decodeArgAppendNoPlus.l0 k1 (x0_1 ++ [Go.bits .or .u8 (((bt tab1 (rd l1 (wrap64 (x5_1 + 1)))) * 16) % 256) (bt tab1 (rd l1 (ji16)))]) l1 (wrap64 ((ji16) + 1))) else (none)))) else (none)) else (none)) else (none)) else (none)) else (none)) else (none)) else (none)) else (none)) = some r := by first | (rw [hji16] at H; exact H) | (simp only [hji16] at H ⊢; exact H)
                (try rw [hji16] at c10b0)
                have hji16w : (IntKind.i64.wrap (x5_1 + 2)) = ji16 := (i64_w _).trans hji16
                by_cases c17 : 0 ≤ (ji16)
                · rw [if_pos c17] at H
                  have c17b0 : decide (0 ≤ (ji16)) = true := decide_eq_true c17
                  clear c17
                  by_cases c18 : (ji16) < (l1.length : Int)
                  · rw [if_pos c18] at H
                    have c18b0 : decide ((ji16) < (l1.length : Int)) = true := decide_eq_true c18
                    clear c18
                    by_cases c19 : 0 ≤ (rd l1 (ji16))
                    · rw [if_pos c19] at H
                      have c19b0 : decide (0 ≤ (rd l1 (ji16))) = true := decide_eq_true c19
                      clear c19
                      by_cases c20 : (rd l1 (ji16)) < (tab1.size : Int)
                      · rw [if_pos c20] at H
                        have c20b0 : decide ((rd l1 (ji16)) < (tab1.size : Int)) = true := decide_eq_true c20
                        clear c20
                        obtain ⟨ji22, hji22⟩ : ∃ j_ : Int, (wrap64 (x5_1 + 1)) = j_ := ⟨_, rfl⟩
                        replace H : (if 0 ≤ (ji22) then (if (ji22) < (l1.length : Int) then (if 0 ≤ (rd l1 (ji22)) then (if (rd l1 (ji22)) < (tab1.size : Int) then (if (bt tab1 (rd l1 (ji22))) = 16 then (if x0_1.length < 140737488355328 then (hertzproto_decodeArgAppendNoPlus.l0 k1 (x0_1 ++ [37]) l1 ji22) else (none)) else (if (bt tab1 (rd l1 (ji16))) = 16 then (if x0_1.length < 140737488355328 then (hertzproto_decodeArgAppendNoPlus.l0 k1 (x0_1 ++ [37]) l1 ji22) else (none)) else (if x0_1.length < 140737488355328 then (hertzproto_decodeArgAppendNoPlus.l0 k1 (x0_1 ++ [Go.bits .or .u8 (((bt tab1 (rd l1 (ji22))) * 16) % 256) (bt tab1 (rd l1 (ji16)))]) l1 (wrap64 ((ji16) + 1))) else (none)))) else (none)) else (none)) else (none)) else (none)) = some r := by first | (rw [hji22] at H; exact H) | (simp only [hji22] at H ⊢; exact H)
                        have hji22w : (IntKind.i64.wrap (x5_1 + 1)) = ji22 := (i64_w _).trans hji22
                        by_cases c23 : 0 ≤ (ji22)
                        · rw [if_pos c23] at H
                          have c23b0 : decide (0 ≤ (ji22)) = true := decide_eq_true c23
                          clear c23
                          by_cases c24 : (ji22) < (l1.length : Int)
                          · rw [if_pos c24] at H
                            have c24b0 : decide ((ji22) < (l1.length : Int)) = true := decide_eq_true c24
                            clear c24
                            by_cases c25 : 0 ≤ (rd l1 (ji22))
                            · rw [if_pos c25] at H
                              have c25b0 : decide (0 ≤ (rd l1 (ji22))) = true := decide_eq_true c25
                              clear c25
                              by_cases c26 : (rd l1 (ji22)) < (tab1.size : Int)
                              · rw [if_pos c26] at H
                                have c26b0 : decide ((rd l1 (ji22)) < (tab1.size : Int)) = true := decide_eq_true c26
                                clear c26
                                by_cases c28 : (bt tab1 (rd l1 (ji22))) = 16
                                · rw [if_pos c28] at H
                                  have c28b0 : ((bt tab1 (rd l1 (ji22))) == 16) = true := beq_iff_eq.mpr c28
                                  have c28b1 : ((bt tab1 (rd l1 (ji22))) != 16) = false := bne_eq_false_iff_eq.mpr c28
                                  clear c28
                                  by_cases c29 : x0_1.length < 140737488355328
                                  · rw [if_pos c29] at H
                                    have LMc29 := Aside0.mk c29
                                    clear c29
                                    obtain ⟨y124, hy124⟩ : ∃ y_ : List Int, y_ = (x0_1 ++ [37]) := ⟨_, rfl⟩
                                    replace H : (hertzproto_decodeArgAppendNoPlus.l0 k1 y124 l1 ji22) = some r := by first | (rw [hy124]; with_reducible exact H) | (have H2_ := (Option.bind_some _ _).symm.trans H; rw [hy124]; with_reducible exact H2_) | (have H2_ := (Option.bind_some _ _).symm.trans H; with_reducible exact H2_) | with_reducible exact H | (rw [hy124]; exact H) | exact H
                                    have Ny124 := Aside0.mk hy124
                                    clear hy124
                                    have H' := Aside0.mk H
                                    clear H
                                    have p114 : 0 ≤ (x5_1 : Int) := of_decide_eq_true (by first | (with_reducible assumption) | assumption)
                                    have q114 : x5_1 < (l1.length : Int) := of_decide_eq_true (by first | (with_reducible assumption) | assumption)
                                    obtain ⟨ad114, e114, hx114_0⟩ := Kd.at_int (Kd.C_kept_now HR1.out HK.out) x5_1 p114 q114
                                    cases e114
                                    replace p114 := eq_true p114
                                    replace q114 := eq_true q114
                                    have p122 : 0 ≤ ((ji16) : Int) := of_decide_eq_true (by first | (with_reducible assumption) | assumption)
                                    have q122 : (ji16) < (l1.length : Int) := of_decide_eq_true (by first | (with_reducible assumption) | assumption)
                                    obtain ⟨ad122, e122, hx122_0⟩ := Kd.at_int (Kd.C_kept_now HR1.out HK.out) (ji16) p122 q122
                                    obtain rfl : ad114 = ad122 := (by injection e122)
                                    replace p122 := eq_true p122
                                    replace q122 := eq_true q122
                                    have p123 : 0 ≤ ((ji22) : Int) := of_decide_eq_true (by first | (with_reducible assumption) | assumption)
                                    have q123 : (ji22) < (l1.length : Int) := of_decide_eq_true (by first | (with_reducible assumption) | assumption)
                                    obtain ⟨ad123, e123, hx123_0⟩ := Kd.at_int (Kd.C_kept_now HR1.out HK.out) (ji22) p123 q123
                                    obtain rfl : ad114 = ad123 := (by injection e123)
                                    replace p123 := eq_true p123
                                    replace q123 := eq_true q123
                                    go_wp2_with (first | ((with_reducible refine gate_dst (N := 42) rfl ?_); refine Go.Proofs.YtfbllodbcmcndaaX.index_tab (some 42) rfl rfl 9 _ _ rfl Try.underlying9 tab1 (by kernel_rfl) .u8 (rd l1 (ji16)) rfl (by first | exact of_decide_eq_true (by first | (with_reducible assumption) | assumption) | exact (bt_range _ _).1 | omega) (of_decide_eq_true (by first | (with_reducible assumption) | assumption)) ?_) | ((with_reducible refine gate_dst (N := 48) rfl ?_); refine Go.Proofs.YtfbllodbcmcndaaX.index_tab (some 48) rfl rfl 9 _ _ rfl Try.underlying9 tab1 (by kernel_rfl) .u8 (rd l1 (ji22)) rfl (by first | exact of_decide_eq_true (by first | (with_reducible assumption) | assumption) | exact (bt_range _ _).1 | omega) (of_decide_eq_true (by first | (with_reducible assumption) | assumption)) ?_) | ((with_reducible refine gate_builtin (b := .append) (xs := #[.tmp 55, .tmp 56]) rfl ?_); at_builtin; refine Kd.R_append (Kd.int .u8) (w0 := w0) w0.heap.size rfl (.tmp 55) (.tmp 56) 63 5 (.int .u8 0) 1 rfl Try.underlying63 info5 rfl (by decide) (by omega) u0 x0_1 37 [.int .u8 37] (fun k_ => (P0_ k_ ∨ w.heap.size ≤ k_)) (fun _ => False) rfl rfl ?aP (fun _ hk => hk.elim) ?aF ?aO ?aB ?aS ?aL ?_; (case aP => exact rfl); (case aB => exact (by repeat (first | (with_reducible first | exact HB.out | apply below_alloc | apply pw_below_drewN | apply below_drew1) | exact HB.out))); (case aF => exact (fun k_ hk => (.inr (Nat.le_trans (by first | exact HK.out.1 | exact (show Kept w _ (fun k_ => P0_ k_) from by repeat (first | (with_reducible first | exact HK.out | apply Kept.alloc | apply Kept.drewN | apply Kept.drew) | exact HK.out)).1) hk)))); (case aO => exact (by (with_reducible repeat (first | apply Kd.R_alloc | apply Kd.R_drewN | apply Kd.R_drew)); exact HO_0.out)); (case aS => exact (below_size (by repeat (first | (with_reducible first | exact HB.out | apply below_alloc | apply pw_below_drewN | apply below_drew1) | exact HB.out)))); (case aL => have := LMc29.out; omega); intro v125 w30 ho hb hg hat; rw [← Ny124.out] at ho; have n0_ := Aside0.mk (hb); have n1_ := Aside0.mk (Kept.of_grown (S := (fun k_ => P0_ k_)) hg (by repeat (first | (with_reducible first | exact HK.out | apply Kept.alloc | apply Kept.drewN | apply Kept.drew) | exact HK.out)) (fun k_ e_ => (HO_0.out.1 k_ e_))); have n2_ := Aside0.mk (ho); clear HB; clear HK; clear HO_0; have HB := n0_; have HK := n1_; have HO126 := n2_; clear n0_ n1_ n2_; clear ho hb hg hat))
                                    go_roundg k1
                                    case measure => have := HK1.out; omega
                                    case rel => exact ⟨(y124), (ji22), (by first | rfl | (simp; done) | (simp only [← hji22] <;> (first | rfl | simp)) | (simp [*]; done) | (simp [Go.Proofs.YtfbllodbcmcndaaX.isEmpty_ne]; done)), H', ⟨by have := HK1.out; omega⟩, ⟨by (with_reducible repeat (first | apply Kd.R_alloc | apply Kd.R_drewN | apply Kd.R_drew)); exact HO126.out⟩, ⟨by repeat (first | (with_reducible first | exact HK.out | apply Kept.alloc | apply Kept.drewN | apply Kept.drew) | exact HK.out)⟩, ⟨by repeat (first | (with_reducible first | exact HB.out | apply below_alloc | apply pw_below_drewN | apply below_drew1) | exact HB.out)⟩⟩
                                  · rw [if_neg c29] at H
                                    exact absurd H (by simp)
                                · rw [if_neg c28] at H
                                  have c28b0 : ((bt tab1 (rd l1 (ji22))) == 16) = false := beq_eq_false_iff_ne.mpr c28
                                  have c28b1 : ((bt tab1 (rd l1 (ji22))) != 16) = true := bne_iff_ne.mpr c28
                                  by_cases c31 : (bt tab1 (rd l1 (ji16))) = 16
                                  · rw [if_pos c31] at H
                                    have c31b0 : ((bt tab1 (rd l1 (ji16))) == 16) = true := beq_iff_eq.mpr c31
                                    have c31b1 : ((bt tab1 (rd l1 (ji16))) != 16) = false := bne_eq_false_iff_eq.mpr c31
                                    clear c31
                                    by_cases c32 : x0_1.length < 140737488355328
                                    · rw [if_pos c32] at H
                                      have LMc32 := Aside0.mk c32
                                      clear c32
                                      obtain ⟨y127, hy127⟩ : ∃ y_ : List Int, y_ = (x0_1 ++ [37]) := ⟨_, rfl⟩
                                      replace H : (hertzproto_decodeArgAppendNoPlus.l0 k1 y127 l1 ji22) = some r := by first | (rw [hy127]; with_reducible exact H) | (have H2_ := (Option.bind_some _ _).symm.trans H; rw [hy127]; with_reducible exact H2_) | (have H2_ := (Option.bind_some _ _).symm.trans H; with_reducible exact H2_) | with_reducible exact H | (rw [hy127]; exact H) | exact H
                                      have Ny127 := Aside0.mk hy127
                                      clear hy127
                                      have H' := Aside0.mk H
                                      clear H
                                      have p114 : 0 ≤ (x5_1 : Int) := of_decide_eq_true (by first | (with_reducible assumption) | assumption)
                                      have q114 : x5_1 < (l1.length : Int) := of_decide_eq_true (by first | (with_reducible assumption) | assumption)
                                      obtain ⟨ad114, e114, hx114_0⟩ := Kd.at_int (Kd.C_kept_now HR1.out HK.out) x5_1 p114 q114
                                      cases e114
                                      replace p114 := eq_true p114
                                      replace q114 := eq_true q114
                                      have p122 : 0 ≤ ((ji16) : Int) := of_decide_eq_true (by first | (with_reducible assumption) | assumption)
                                      have q122 : (ji16) < (l1.length : Int) := of_decide_eq_true (by first | (with_reducible assumption) | assumption)
                                      obtain ⟨ad122, e122, hx122_0⟩ := Kd.at_int (Kd.C_kept_now HR1.out HK.out) (ji16) p122 q122
                                      obtain rfl : ad114 = ad122 := (by injection e122)
                                      replace p122 := eq_true p122
                                      replace q122 := eq_true q122
                                      have p123 : 0 ≤ ((ji22) : Int) := of_decide_eq_true (by first | (with_reducible assumption) | assumption)
                                      have q123 : (ji22) < (l1.length : Int) := of_decide_eq_true (by first | (with_reducible assumption) | assumption)
                                      obtain ⟨ad123, e123, hx123_0⟩ := Kd.at_int (Kd.C_kept_now HR1.out HK.out) (ji22) p123 q123
                                      obtain rfl : ad114 = ad123 := (by injection e123)
                                      replace p123 := eq_true p123
                                      replace q123 := eq_true q123
                                      go_wp2_with (first | ((with_reducible refine gate_dst (N := 42) rfl ?_); refine Go.Proofs.YtfbllodbcmcndaaX.index_tab (some 42) rfl rfl 9 _ _ rfl Try.underlying9 tab1 (by kernel_rfl) .u8 (rd l1 (ji16)) rfl (by first | exact of_decide_eq_true (by first | (with_reducible assumption) | assumption) | exact (bt_range _ _).1 | omega) (of_decide_eq_true (by first | (with_reducible assumption) | assumption)) ?_) | ((with_reducible refine gate_dst (N := 48) rfl ?_); refine Go.Proofs.YtfbllodbcmcndaaX.index_tab (some 48) rfl rfl 9 _ _ rfl Try.underlying9 tab1 (by kernel_rfl) .u8 (rd l1 (ji22)) rfl (by first | exact of_decide_eq_true (by first | (with_reducible assumption) | assumption) | exact (bt_range _ _).1 | omega) (of_decide_eq_true (by first | (with_reducible assumption) | assumption)) ?_) | ((with_reducible refine gate_builtin (b := .append) (xs := #[.tmp 55, .tmp 56]) rfl ?_); at_builtin; refine Kd.R_append (Kd.int .u8) (w0 := w0) w0.heap.size rfl (.tmp 55) (.tmp 56) 63 5 (.int .u8 0) 1 rfl Try.underlying63 info5 rfl (by decide) (by omega) u0 x0_1 37 [.int .u8 37] (fun k_ => (P0_ k_ ∨ w.heap.size ≤ k_)) (fun _ => False) rfl rfl ?aP (fun _ hk => hk.elim) ?aF ?aO ?aB ?aS ?aL ?_; (case aP => exact rfl); (case aB => exact (by repeat (first | (with_reducible first | exact HB.out | apply below_alloc | apply pw_below_drewN | apply below_drew1) | exact HB.out))); (case aF => exact (fun k_ hk => (.inr (Nat.le_trans (by first | exact HK.out.1 | exact (show Kept w _ (fun k_ => P0_ k_) from by repeat (first | (with_reducible first | exact HK.out | apply Kept.alloc | apply Kept.drewN | apply Kept.drew) | exact HK.out)).1) hk)))); (case aO => exact (by (with_reducible repeat (first | apply Kd.R_alloc | apply Kd.R_drewN | apply Kd.R_drew)); exact HO_0.out)); (case aS => exact (below_size (by repeat (first | (with_reducible first | exact HB.out | apply below_alloc | apply pw_below_drewN | apply below_drew1) | exact HB.out)))); (case aL => have := LMc32.out; omega); intro v128 w33 ho hb hg hat; rw [← Ny127.out] at ho; have n0_ := Aside0.mk (hb); have n1_ := Aside0.mk (Kept.of_grown (S := (fun k_ => P0_ k_)) hg (by repeat (first | (with_reducible first | exact HK.out | apply Kept.alloc | apply Kept.drewN | apply Kept.drew) | exact HK.out)) (fun k_ e_ => (HO_0.out.1 k_ e_))); have n2_ := Aside0.mk (ho); clear HB; clear HK; clear HO_0; have HB := n0_; have HK := n1_; have HO129 := n2_; clear n0_ n1_ n2_; clear ho hb hg hat))
                                      go_roundg k1
                                      case measure => have := HK1.out; omega
                                      case rel => exact ⟨(y127), (ji22), (by first | rfl | (simp; done) | (simp only [← hji22] <;> (first | rfl | simp)) | (simp [*]; done) | (simp [Go.Proofs.YtfbllodbcmcndaaX.isEmpty_ne]; done)), H', ⟨by have := HK1.out; omega⟩, ⟨by (with_reducible repeat (first | apply Kd.R_alloc | apply Kd.R_drewN | apply Kd.R_drew)); exact HO129.out⟩, ⟨by repeat (first | (with_reducible first | exact HK.out | apply Kept.alloc | apply Kept.drewN | apply Kept.drew) | exact HK.out)⟩, ⟨by repeat (first | (with_reducible first | exact HB.out | apply below_alloc | apply pw_below_drewN | apply below_drew1) | exact HB.out)⟩⟩
                                    · rw [if_neg c32] at H
                                      exact absurd H (by simp)
                                  · rw [if_neg c31] at H
                                    have c31b0 : ((bt tab1 (rd l1 (ji16))) == 16) = false := beq_eq_false_iff_ne.mpr c31
                                    have c31b1 : ((bt tab1 (rd l1 (ji16))) != 16) = true := bne_iff_ne.mpr c31
                                    by_cases c34 : x0_1.length < 140737488355328
                                    · rw [if_pos c34] at H
                                      have LMc34 := Aside0.mk c34
                                      clear c34
                                      obtain ⟨y130, hy130⟩ : ∃ y_ : List Int, y_ = (x0_1 ++ [Go.bits .or .u8 (((bt tab1 (rd l1 (ji22))) * 16) % 256) (bt tab1 (rd l1 (ji16)))]) := ⟨_, rfl⟩
                                      replace H : (hertzproto_decodeArgAppendNoPlus.l0 k1 y130 l1 (wrap64 ((ji16) + 1))) = some r := by first | (rw [hy130]; with_reducible exact H) | (have H2_ := (Option.bind_some _ _).symm.trans H; rw [hy130]; with_reducible exact H2_) | (have H2_ := (Option.bind_some _ _).symm.trans H; with_reducible exact H2_) | with_reducible exact H | (rw [hy130]; exact H) | exact H
                                      have Ny130 := Aside0.mk hy130
                                      clear hy130
                                      have H' := Aside0.mk H
                                      clear H
                                      have p114 : 0 ≤ (x5_1 : Int) := of_decide_eq_true (by first | (with_reducible assumption) | assumption)
                                      have q114 : x5_1 < (l1.length : Int) := of_decide_eq_true (by first | (with_reducible assumption) | assumption)
                                      obtain ⟨ad114, e114, hx114_0⟩ := Kd.at_int (Kd.C_kept_now HR1.out HK.out) x5_1 p114 q114
                                      cases e114
                                      replace p114 := eq_true p114
                                      replace q114 := eq_true q114
                                      have p122 : 0 ≤ ((ji16) : Int) := of_decide_eq_true (by first | (with_reducible assumption) | assumption)
                                      have q122 : (ji16) < (l1.length : Int) := of_decide_eq_true (by first | (with_reducible assumption) | assumption)
                                      obtain ⟨ad122, e122, hx122_0⟩ := Kd.at_int (Kd.C_kept_now HR1.out HK.out) (ji16) p122 q122
                                      obtain rfl : ad114 = ad122 := (by injection e122)
                                      replace p122 := eq_true p122
                                      replace q122 := eq_true q122
                                      have p123 : 0 ≤ ((ji22) : Int) := of_decide_eq_true (by first | (with_reducible assumption) | assumption)
                                      have q123 : (ji22) < (l1.length : Int) := of_decide_eq_true (by first | (with_reducible assumption) | assumption)
                                      obtain ⟨ad123, e123, hx123_0⟩ := Kd.at_int (Kd.C_kept_now HR1.out HK.out) (ji22) p123 q123
                                      obtain rfl : ad114 = ad123 := (by injection e123)
                                      replace p123 := eq_true p123
                                      replace q123 := eq_true q123
                                      go_wp2_with (first | ((with_reducible refine gate_dst (N := 42) rfl ?_); refine Go.Proofs.YtfbllodbcmcndaaX.index_tab (some 42) rfl rfl 9 _ _ rfl Try.underlying9 tab1 (by kernel_rfl) .u8 (rd l1 (ji16)) rfl (by first | exact of_decide_eq_true (by first | (with_reducible assumption) | assumption) | exact (bt_range _ _).1 | omega) (of_decide_eq_true (by first | (with_reducible assumption) | assumption)) ?_) | ((with_reducible refine gate_dst (N := 48) rfl ?_); refine Go.Proofs.YtfbllodbcmcndaaX.index_tab (some 48) rfl rfl 9 _ _ rfl Try.underlying9 tab1 (by kernel_rfl) .u8 (rd l1 (ji22)) rfl (by first | exact of_decide_eq_true (by first | (with_reducible assumption) | assumption) | exact (bt_range _ _).1 | omega) (of_decide_eq_true (by first | (with_reducible assumption) | assumption)) ?_) | ((with_reducible refine gate_builtin (b := .append) (xs := #[.tmp 58, .tmp 63]) rfl ?_); at_builtin; refine Kd.R_append (Kd.int .u8) (w0 := w0) w0.heap.size rfl (.tmp 58) (.tmp 63) 63 5 (.int .u8 0) 1 rfl Try.underlying63 info5 rfl (by decide) (by omega) u0 x0_1 (Go.bits .or .u8 (((bt tab1 (rd l1 (ji22))) * 16) % 256) (bt tab1 (rd l1 (ji16)))) [.int .u8 (Go.bits .or .u8 (((bt tab1 (rd l1 (ji22))) * 16) % 256) (bt tab1 (rd l1 (ji16))))] (fun k_ => (P0_ k_ ∨ w.heap.size ≤ k_)) (fun _ => False) rfl rfl ?aP (fun _ hk => hk.elim) ?aF ?aO ?aB ?aS ?aL ?_; (case aP => exact rfl); (case aB => exact (by repeat (first | (with_reducible first | exact HB.out | apply below_alloc | apply pw_below_drewN | apply below_drew1) | exact HB.out))); (case aF => exact (fun k_ hk => (.inr (Nat.le_trans (by first | exact HK.out.1 | exact (show Kept w _ (fun k_ => P0_ k_) from by repeat (first | (with_reducible first | exact HK.out | apply Kept.alloc | apply Kept.drewN | apply Kept.drew) | exact HK.out)).1) hk)))); (case aO => exact (by (with_reducible repeat (first | apply Kd.R_alloc | apply Kd.R_drewN | apply Kd.R_drew)); exact HO_0.out)); (case aS => exact (below_size (by repeat (first | (with_reducible first | exact HB.out | apply below_alloc | apply pw_below_drewN | apply below_drew1) | exact HB.out)))); (case aL => have := LMc34.out; omega); intro v131 w35 ho hb hg hat; rw [← Ny130.out] at ho; have n0_ := Aside0.mk (hb); have n1_ := Aside0.mk (Kept.of_grown (S := (fun k_ => P0_ k_)) hg (by repeat (first | (with_reducible first | exact HK.out | apply Kept.alloc | apply Kept.drewN | apply Kept.drew) | exact HK.out)) (fun k_ e_ => (HO_0.out.1 k_ e_))); have n2_ := Aside0.mk (ho); clear HB; clear HK; clear HO_0; have HB := n0_; have HK := n1_; have HO132 := n2_; clear n0_ n1_ n2_; clear ho hb hg hat))
                                      go_roundg k1
                                      case measure => have := HK1.out; omega
                                      case rel => exact ⟨(y130), (wrap64 ((ji16) + 1)), (by first | rfl | (simp; done) | (simp only [← hji16] <;> (first | rfl | simp)) | (simp [*]; done) | (simp [Go.Proofs.YtfbllodbcmcndaaX.isEmpty_ne]; done)), H', ⟨by have := HK1.out; omega⟩, ⟨by (with_reducible repeat (first | apply Kd.R_alloc | apply Kd.R_drewN | apply Kd.R_drew)); exact HO132.out⟩, ⟨by repeat (first | (with_reducible first | exact HK.out | apply Kept.alloc | apply Kept.drewN | apply Kept.drew) | exact HK.out)⟩, ⟨by repeat (first | (with_reducible first | exact HB.out | apply below_alloc | apply pw_below_drewN | apply below_drew1) | exact HB.out)⟩⟩
                                    · rw [if_neg c34] at H
                                      exact absurd H (by simp)
                              · rw [if_neg c26] at H
                                exact absurd H (by simp)
                            · rw [if_neg c25] at H
                              exact absurd H (by simp)
                          · rw [if_neg c24] at H
                            exact absurd H (by simp)
                        · rw [if_neg c23] at H
                          exact absurd H (by simp)
                      · rw [if_neg c20] at H
                        exact absurd H (by simp)
                    · rw [if_neg c19] at H
                      exact absurd H (by simp)
                  · rw [if_neg c18] at H
                    exact absurd H (by simp)
                · rw [if_neg c17] at H
                  exact absurd H (by simp)
            · rw [if_neg c9] at H
              have c9b0 : ((rd l1 x5_1) == 37) = false := beq_eq_false_iff_ne.mpr c9
              have c9b1 : ((rd l1 x5_1) != 37) = true := bne_iff_ne.mpr c9
              by_cases c36 : x0_1.length < 140737488355328
              · rw [if_pos c36] at H
                have LMc36 := Aside0.mk c36
                clear c36
                obtain ⟨y133, hy133⟩ : ∃ y_ : List Int, y_ = (x0_1 ++ [rd l1 x5_1]) := ⟨_, rfl⟩
                replace H : (hertzproto_decodeArgAppendNoPlus.l0 k1 y133 l1 (wrap64 (x5_1 + 1))) = some r := by first | (rw [hy133]; with_reducible exact H) | (have H2_ := (Option.bind_some _ _).symm.trans H; rw [hy133]; with_reducible exact H2_) | (have H2_ := (Option.bind_some _ _).symm.trans H; with_reducible exact H2_) | with_reducible exact H | (rw [hy133]; exact H) | exact H
                have Ny133 := Aside0.mk hy133
                clear hy133
                have H' := Aside0.mk H
                clear H
                have p114 : 0 ≤ (x5_1 : Int) := of_decide_eq_true (by first | (with_reducible assumption) | assumption)
                have q114 : x5_1 < (l1.length : Int) := of_decide_eq_true (by first | (with_reducible assumption) | assumption)
                obtain ⟨ad114, e114, hx114_0⟩ := Kd.at_int (Kd.C_kept_now HR1.out HK.out) x5_1 p114 q114
                cases e114
                replace p114 := eq_true p114
                replace q114 := eq_true q114
                go_wp2_with (first | ((with_reducible refine gate_builtin (b := .append) (xs := #[.tmp 67, .tmp 69]) rfl ?_); at_builtin; refine Kd.R_append (Kd.int .u8) (w0 := w0) w0.heap.size rfl (.tmp 67) (.tmp 69) 63 5 (.int .u8 0) 1 rfl Try.underlying63 info5 rfl (by decide) (by omega) u0 x0_1 (rd l1 x5_1) [.int .u8 (rd l1 x5_1)] (fun k_ => (P0_ k_ ∨ w.heap.size ≤ k_)) (fun _ => False) rfl rfl ?aP (fun _ hk => hk.elim) ?aF ?aO ?aB ?aS ?aL ?_; (case aP => exact rfl); (case aB => exact (by repeat (first | (with_reducible first | exact HB.out | apply below_alloc | apply pw_below_drewN | apply below_drew1) | exact HB.out))); (case aF => exact (fun k_ hk => (.inr (Nat.le_trans (by first | exact HK.out.1 | exact (show Kept w _ (fun k_ => P0_ k_) from by repeat (first | (with_reducible first | exact HK.out | apply Kept.alloc | apply Kept.drewN | apply Kept.drew) | exact HK.out)).1) hk)))); (case aO => exact (by (with_reducible repeat (first | apply Kd.R_alloc | apply Kd.R_drewN | apply Kd.R_drew)); exact HO_0.out)); (case aS => exact (below_size (by repeat (first | (with_reducible first | exact HB.out | apply below_alloc | apply pw_below_drewN | apply below_drew1) | exact HB.out)))); (case aL => have := LMc36.out; omega); intro v134 w37 ho hb hg hat; rw [← Ny133.out] at ho; have n0_ := Aside0.mk (hb); have n1_ := Aside0.mk (Kept.of_grown (S := (fun k_ => P0_ k_)) hg (by repeat (first | (with_reducible first | exact HK.out | apply Kept.alloc | apply Kept.drewN | apply Kept.drew) | exact HK.out)) (fun k_ e_ => (HO_0.out.1 k_ e_))); have n2_ := Aside0.mk (ho); clear HB; clear HK; clear HO_0; have HB := n0_; have HK := n1_; have HO135 := n2_; clear n0_ n1_ n2_; clear ho hb hg hat))
                go_roundg k1
                case measure => have := HK1.out; omega
                case rel => exact ⟨(y133), (wrap64 (x5_1 + 1)), (by first | rfl | (simp; done) | (simp [*]; done) | (simp [Go.Proofs.YtfbllodbcmcndaaX.isEmpty_ne]; done)), H', ⟨by have := HK1.out; omega⟩, ⟨by (with_reducible repeat (first | apply Kd.R_alloc | apply Kd.R_drewN | apply Kd.R_drew)); exact HO135.out⟩, ⟨by repeat (first | (with_reducible first | exact HK.out | apply Kept.alloc | apply Kept.drewN | apply Kept.drew) | exact HK.out)⟩, ⟨by repeat (first | (with_reducible first | exact HB.out | apply below_alloc | apply pw_below_drewN | apply below_drew1) | exact HB.out)⟩⟩
              · rw [if_neg c36] at H
                exact absurd H (by simp)
          · rw [if_neg c8] at H
            exact absurd H (by simp)
        · rw [if_neg c7] at H
          have c7b0 : decide (x5_1 < (l1.length : Int)) = false := decide_eq_false c7
          clear c7
          obtain rfl := Option.some.inj H
          go_wp2
          go_ret
          exact ⟨_, by first | rfl | (simp [errW_none, errW_some] <;> rfl) | (simp [*, errW_none, errW_some] <;> rfl), by (with_reducible repeat (first | apply Kd.R_alloc | apply Kd.R_drewN | apply Kd.R_drew)); exact HO_0.out, by repeat (first | (with_reducible first | exact HB.out | apply below_alloc | apply pw_below_drewN | apply below_drew1) | exact HB.out), by repeat (first | (with_reducible first | exact HK.out | apply Kept.alloc | apply Kept.drewN | apply Kept.drew) | exact HK.out)⟩
end Go.Proofs.Ytfbllodbcmcndaa.Q
end
