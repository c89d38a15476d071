import Derived.Test.YtjmcndbkmknemaaQ0
import Derived.Outline
import Derived.WalkSpells
import Derived.Deep.RegionWith
namespace Go.Proofs.Ytjmcndbkmknemaa.Q
open Go.RowKit Go.Proofs.YtjmcndbkmknemaaW.PrintWords Go.Proofs.YtjmcndbkmknemaaW.PrintLast Go.Proofs.YtjmcndbkmknemaaW.PrintMore
def encI (x : S45) : Value := .iface 76 (.agg #[.string x.f0, .string x.f1, .bool x.f2, .bool x.f3])
set_option maxHeartbeats 8000000 in
set_option maxRecDepth 100000 in
theorem alias_calls (a b : ByteArray) (c d : Bool) (w : World) : Calls Try.prog 86 #[.agg #[.string a, .string b, .bool c, .bool d]] w fun e w' => e = .returned (.string b) ∧ Below w.heap.size w w' := by
  go_enter Try.func86, Try.ntmps86
  go_wp2
  go_ret
  exact ⟨rfl, (Below.refl _ _).alloc (Nat.le_refl _) _⟩
set_option maxHeartbeats 8000000 in
set_option maxRecDepth 100000 in
theorem indent_calls (a b : ByteArray) (c d : Bool) (w : World) : Calls Try.prog 87 #[.agg #[.string a, .string b, .bool c, .bool d]] w fun e w' => e = .returned (.string a) ∧ Below w.heap.size w w' := by
  go_enter Try.func87, Try.ntmps87
  go_wp2
  go_ret
  exact ⟨rfl, (Below.refl _ _).alloc (Nat.le_refl _) _⟩
set_option maxHeartbeats 8000000 in
set_option maxRecDepth 100000 in
theorem hasAlias_calls (a b : ByteArray) (c d : Bool) (w : World) : Calls Try.prog 66 #[.iface 76 (.agg #[.string a, .string b, .bool c, .bool d])] w fun e w' => e = .returned (.tuple #[.string b, .bool (decide (0 < b.size))]) ∧ Below w.heap.size w w' := by
  have hta : ∀ (v : Value) (W : World), (Instr.typeAssert (.iface 76 v) 72 95 true).run Try.prog W = .ok (.tuple #[.iface 76 v, .bool true]) W := fun v W => by kernel_rfl
  have hm : ∀ (W : World), (method 213 76 (.agg #[.string a, .string b, .bool c, .bool d]) "Alias").run Try.prog W = .ok (86, .agg #[.string a, .string b, .bool c, .bool d]) W := fun W => by kernel_rfl
  go_enter Try.func66, Try.ntmps66
  go_wp2_with (go_at_call 86; refine (alias_calls a b c d _).mono ?_; rintro e w' ⟨rfl, hb⟩; have HB := Aside0.mk hb; clear hb)
  go_ret2
  exact ⟨by simp, HB.out⟩
def KI : Kd S45 := Kd.scalar encI (fun _ => rfl)
def hasName (nm : ByteArray) (x : S45) : Bool := (x.f0.toList == nm.toList) || (decide (0 < x.f1.size) && (x.f1.toList == nm.toList))
def findT (nm : ByteArray) : List S45 → Value × Bool
  | [] => (.nilIface, false)
  | x :: t => if hasName nm x = true then (encI x, true) else findT nm t
theorem KI_at {w : World} {A : Option Addr} {l : List S45} (h : Kd.C KI w A l.length l) (k : Nat) (hk : k < l.length) : ∃ ad, A = some ad ∧ w.cell? (ad.add k) = some (encI l[k]) := by
  obtain ⟨ad, c, e, hl, hK, hc⟩ := Kd.C_get h z45 (k : Int) (by omega) (by omega)
  obtain rfl : c = [encI (l.getD (k : Int).toNat z45)] := hK
  refine ⟨ad, e, ?_⟩
  have := hc 0 _ rfl
  rw [show (k : Int).toNat * KI.sz + 0 = k by show (k : Int).toNat * 1 + 0 = k; omega] at this
  rw [this]
  simp [hk]
set_option maxHeartbeats 8000000 in
set_option maxRecDepth 100000 in
theorem lookup_calls (nm : ByteArray) (A : Option Addr) (c : Nat) (l : List S45) (w : World) (hr : Kd.C KI w A l.length l) (hc : l.length ≤ c) (hl : l.length ≤ 2147483647) :
    Calls Try.prog 58 #[.string nm, .slice A l.length c] w fun e w' => e = .returned (.tuple #[(findT nm l).1, .bool (findT nm l).2]) ∧ Below w.heap.size w w' := by
  have HR := Aside0.mk hr
  have HC := Aside0.mk hc
  have HL := Aside0.mk hl
  clear hr hc hl
  go_enter Try.func58, Try.ntmps58
  go_wp2
  go_loopw [7, 12] (fun s7 s12 wr => ∃ (k : Nat), s12 = .int .i64 (k : Int) ∧ k ≤ l.length ∧ findT nm (l.drop k) = findT nm l ∧ Below w.heap.size w wr) (fun _ s12 _ => (l.length - (intOf s12)).toNat)
  case atStart => exact ⟨0, rfl, by omega, rfl, Below.refl _ _⟩
  case round =>
    obtain ⟨k, rfl, hk, hf, hb⟩ := hrel
    have HF := Aside0.mk hf
    have HB := Aside0.mk hb
    clear hf hb
    by_cases hlt : k < l.length
    · obtain ⟨ad, rfl, hcell⟩ := KI_at (Kd.C_below HR.out HB.out) k hlt
      obtain ⟨⟨xa, xb, xc, xd⟩, hx⟩ : ∃ x, l[k] = x := ⟨_, rfl⟩
      rw [hx] at hcell
      have hcell' : wr.cell? (ad.add k) = some (.iface 76 (.agg #[.string xa, .string xb, .bool xc, .bool xd])) := hcell
      have HX := Aside0.mk hx
      clear hcell hx
      have hm : ∀ (W : World), (method 213 76 (.agg #[.string xa, .string xb, .bool xc, .bool xd]) "Indent").run Try.prog W = .ok (87, .agg #[.string xa, .string xb, .bool xc, .bool xd]) W := fun W => by kernel_rfl
      by_cases h1 : xa.toList = nm.toList
      · have b1 : (xa.toList == nm.toList) = true := by simpa using h1
        have H1 := Aside0.mk h1
        clear h1
        go_wp2_with ((go_at_call 87; refine (indent_calls xa xb xc xd _).mono ?_; rintro e w' ⟨rfl, hb⟩; have HB1 := Aside0.mk hb; clear hb))
        go_ret2
        have hd : findT nm (l.drop k) = (encI ⟨xa, xb, xc, xd⟩, true) := by
          rw [List.drop_eq_getElem_cons hlt, HX.out, findT, if_pos (by simp [hasName, H1.out])]
        refine ⟨?_, HB.out.trans (HB1.out.mono HB.out.size)⟩
        rw [← HF.out, hd]
        rfl
      · have b1 : (xa.toList == nm.toList) = false := by simpa using h1
        have H1 := Aside0.mk h1
        clear h1
        by_cases h2 : 0 < xb.size ∧ xb.toList = nm.toList
        · have b2 : decide (0 < xb.size) = true := decide_eq_true h2.1
          have b3 : (xb.toList == nm.toList) = true := by simpa using h2.2
          have H2 := Aside0.mk h2
          clear h2
          go_wp2_with (first | (go_at_call 87; refine (indent_calls xa xb xc xd _).mono ?_; rintro e w' ⟨rfl, hb⟩; have HB1 := Aside0.mk hb; clear hb) | (go_at_call 66; refine (hasAlias_calls xa xb xc xd _).mono ?_; rintro e w' ⟨rfl, hb⟩; have HB2 := Aside0.mk hb; clear hb))
          go_ret2
          have hd : findT nm (l.drop k) = (encI ⟨xa, xb, xc, xd⟩, true) := by
            rw [List.drop_eq_getElem_cons hlt, HX.out, findT, if_pos (by simp [hasName, H2.out])]
          have hw := HB.out.trans (HB1.out.mono HB.out.size)
          refine ⟨?_, hw.trans (HB2.out.mono hw.size)⟩
          rw [← HF.out, hd]
          rfl
        · have hd : findT nm (l.drop k) = findT nm (l.drop (k + 1)) := by
            rw [List.drop_eq_getElem_cons hlt, HX.out, findT, if_neg]
            simp only [hasName, b1, Bool.false_or, Bool.and_eq_true, decide_eq_true_eq, beq_iff_eq]
            exact h2
          have HD := Aside0.mk hd
          clear hd
          have hkl : (k : Int) + 1 ≤ 2147483647 := by have := HL.out; omega
          by_cases h3 : 0 < xb.size
          · have b2 : decide (0 < xb.size) = true := decide_eq_true h3
            have b3 : (xb.toList == nm.toList) = false := by simpa using fun e => h2 ⟨h3, e⟩
            clear h2 h3
            go_wp2_with (first | (go_at_call 87; refine (indent_calls xa xb xc xd _).mono ?_; rintro e w' ⟨rfl, hb⟩; have HB1 := Aside0.mk hb; clear hb) | (go_at_call 66; refine (hasAlias_calls xa xb xc xd _).mono ?_; rintro e w' ⟨rfl, hb⟩; have HB2 := Aside0.mk hb; clear hb))
            have hw := Aside0.mk (HB.out.trans (HB1.out.mono HB.out.size))
            go_roundw
            case measure => simp [intOf]; omega
            case rel => exact ⟨k + 1, by go_num, by omega, by rw [← HF.out]; exact HD.out.symm, hw.out.trans (HB2.out.mono hw.out.size)⟩
          · have b2 : decide (0 < xb.size) = false := decide_eq_false h3
            clear h2 h3
            go_wp2_with (first | (go_at_call 87; refine (indent_calls xa xb xc xd _).mono ?_; rintro e w' ⟨rfl, hb⟩; have HB1 := Aside0.mk hb; clear hb) | (go_at_call 66; refine (hasAlias_calls xa xb xc xd _).mono ?_; rintro e w' ⟨rfl, hb⟩; have HB2 := Aside0.mk hb; clear hb))
            have hw := Aside0.mk (HB.out.trans (HB1.out.mono HB.out.size))
            go_roundw
            case measure => simp [intOf]; omega
            case rel => exact ⟨k + 1, by go_num, by omega, by rw [← HF.out]; exact HD.out.symm, hw.out.trans (HB2.out.mono hw.out.size)⟩
    · have hke : k = l.length := by omega
      have hd : findT nm l = (.nilIface, false) := by rw [← HF.out, hke, List.drop_length]; rfl
      have HD := Aside0.mk hd
      clear hd hke
      go_wp2
      go_ret2
      exact ⟨by rw [HD.out]; rfl, HB.out⟩
end Go.Proofs.Ytjmcndbkmknemaa.Q
