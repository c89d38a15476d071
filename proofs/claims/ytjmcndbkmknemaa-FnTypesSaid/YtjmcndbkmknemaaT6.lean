import Derived.Test.YtjmcndbkmknemaaT5
namespace Go.Proofs.Ytjmcndbkmknemaa.Q
open Go.RowKit Go.Proofs.YtjmcndbkmknemaaW.PrintWords Go.Proofs.YtjmcndbkmknemaaW.PrintLast Go.Proofs.YtjmcndbkmknemaaW.PrintMore
set_option maxHeartbeats 8000000 in
set_option maxRecDepth 100000 in
theorem master_calls (a b : ByteArray) (c d : Bool) (w : World) : Calls Try.prog 88 #[.agg #[.string a, .string b, .bool c, .bool d]] w fun e w' => e = .returned (.bool c) ∧ Below w.heap.size w w' := by
  go_enter Try.func88, Try.ntmps88
  go_wp2
  go_ret
  exact ⟨rfl, (Below.refl _ _).alloc (Nat.le_refl _) _⟩
set_option maxHeartbeats 8000000 in
set_option maxRecDepth 100000 in
theorem isMaster_calls (a b : ByteArray) (c d : Bool) (w : World) : Calls Try.prog 62 #[.iface 76 (.agg #[.string a, .string b, .bool c, .bool d])] w fun e w' => e = .returned (.bool c) ∧ Below w.heap.size w w' := by
  have hta : ∀ (v : Value) (W : World), (Instr.typeAssert (.iface 76 v) 72 91 true).run Try.prog W = .ok (.tuple #[.iface 76 v, .bool true]) W := fun v W => by kernel_rfl
  have hm : ∀ (W : World), (method 213 76 (.agg #[.string a, .string b, .bool c, .bool d]) "Master").run Try.prog W = .ok (88, .agg #[.string a, .string b, .bool c, .bool d]) W := fun W => by kernel_rfl
  go_enter Try.func62, Try.ntmps62
  go_wp2_with (go_at_call 88; refine (master_calls a b c d _).mono ?_; rintro e w' ⟨rfl, hb⟩; have HB := Aside0.mk hb; clear hb)
  go_ret
  exact ⟨by simp, HB.out⟩
def findM : List S45 → List S45 → Value
  | h, [] => match h with | [] => .nilIface | y :: _ => encI y
  | h, x :: t => if x.f2 = true then encI x else findM h t
set_option maxHeartbeats 8000000 in
set_option maxRecDepth 100000 in
theorem getMaster_calls (A : Option Addr) (c : Nat) (l : List S45) (w : World) (hr : Kd.C KI w A l.length l) (hc : l.length ≤ c) (hl : l.length ≤ 2147483647) :
    Calls Try.prog 50 #[.slice A l.length c] w fun e w' => e = .returned (findM l l) ∧ Below w.heap.size w w' := by
  have HR := Aside0.mk hr
  have HC := Aside0.mk hc
  have HL := Aside0.mk hl
  clear hr hc hl
  go_enter Try.func50, Try.ntmps50
  go_wp2
  go_loopw [7] (fun s7 wr => ∃ (k : Nat), s7 = .int .i64 (k : Int) ∧ k ≤ l.length ∧ findM l (l.drop k) = findM l l ∧ Below w.heap.size w wr) (fun s7 _ => (l.length - (intOf s7)).toNat)
  case atStart => exact ⟨0, rfl, by omega, rfl, Below.refl _ _⟩
  case round =>
    obtain ⟨k, rfl, hk, hf, hb⟩ := hrel
    have HF := Aside0.mk hf
    have HB := Aside0.mk hb
    clear hf hb
    by_cases hlt : k < l.length
    · obtain ⟨ad, rfl, hcell⟩ := KI_at (Kd.C_below HR.out HB.out) k hlt
      obtain ⟨⟨xa, xb, xc, xd⟩, hx⟩ : ∃ x, l[k] = x := ⟨_, rfl⟩
      rw [hx] at hcell
      have hcell' : wr.cell? (ad.add k) = some (.iface 76 (.agg #[.string xa, .string xb, .bool xc, .bool xd])) := hcell
      have HX := Aside0.mk hx
      clear hcell hx
      cases xc with
      | true =>
        go_wp2_with ((go_at_call 62; refine (isMaster_calls xa xb true xd _).mono ?_; rintro e w' ⟨rfl, hb⟩; have HB1 := Aside0.mk hb; clear hb))
        go_ret
        have hd : findM l (l.drop k) = encI ⟨xa, xb, true, xd⟩ := by
          rw [List.drop_eq_getElem_cons hlt, HX.out, findM, if_pos rfl]
        refine ⟨?_, HB.out.trans (HB1.out.mono HB.out.size)⟩
        rw [← HF.out, hd]
        rfl
      | false =>
        have hd : findM l (l.drop k) = findM l (l.drop (k + 1)) := by
          rw [List.drop_eq_getElem_cons hlt, HX.out, findM, if_neg (by simp)]
        have HD := Aside0.mk hd
        clear hd
        have hkl : (k : Int) + 1 ≤ 2147483647 := by have := HL.out; omega
        go_wp2_with ((go_at_call 62; refine (isMaster_calls xa xb false xd _).mono ?_; rintro e w' ⟨rfl, hb⟩; have HB1 := Aside0.mk hb; clear hb))
        have hw := Aside0.mk (HB.out.trans (HB1.out.mono HB.out.size))
        go_roundw
        case measure => simp [intOf]; omega
        case rel => exact ⟨k + 1, by go_num, by omega, by rw [← HF.out]; exact HD.out.symm, hw.out⟩
    · have hke : k = l.length := by omega
      have hd : findM l l = findM l [] := by rw [← HF.out, hke, List.drop_length]
      have HD := Aside0.mk hd
      have HKE := Aside0.mk hke
      clear hd hke hlt
      have HK := Aside0.mk hk
      clear hk
      by_cases h0 : 0 < l.length
      · obtain ⟨ad, rfl, hcell⟩ := KI_at (Kd.C_below HR.out HB.out) 0 h0
        obtain ⟨⟨xa, xb, xc, xd⟩, hx⟩ : ∃ x, l[0] = x := ⟨_, rfl⟩
        rw [hx] at hcell
        have hcell' : wr.cell? ad = some (.iface 76 (.agg #[.string xa, .string xb, .bool xc, .bool xd])) := hcell
        have hfm : findM l [] = .iface 76 (.agg #[.string xa, .string xb, .bool xc, .bool xd]) := by
          cases l with
          | nil => simp at h0
          | cons y t => simp at hx; subst hx; rfl
        have HFM := Aside0.mk hfm
        have cz : ((0 : Int) < (l.length : Int)) = True := eq_true (by omega)
        have cz2 : decide ((0 : Int) < (l.length : Int)) = true := decide_eq_true (by omega)
        have ck : decide ((k : Int) < (l.length : Int)) = false := decide_eq_false (by have := HKE.out; omega)
        have hkn : ¬ k < l.length := by have := HKE.out; omega
        clear hcell hx hfm cz ck
        go_wp2
        go_ret
        exact ⟨by rw [HD.out, HFM.out]; rfl, HB.out⟩
      · have hfm : findM l [] = .nilIface := by
          cases l with
          | nil => rfl
          | cons y t => simp at h0
        have HFM := Aside0.mk hfm
        have cz : ((0 : Int) < (l.length : Int)) = False := eq_false (by omega)
        have cz2 : decide ((0 : Int) < (l.length : Int)) = false := decide_eq_false (by omega)
        have ck : decide ((k : Int) < (l.length : Int)) = false := decide_eq_false (by have := HKE.out; omega)
        have hkn : ¬ k < l.length := by have := HKE.out; omega
        clear hfm cz ck
        go_wp2
        go_ret
        exact ⟨by rw [HD.out, HFM.out]; rfl, HB.out⟩
end Go.Proofs.Ytjmcndbkmknemaa.Q
