/- FnCookieHead: the law's function, called with any arguments, returns true and leaves its arguments as they were: every input, no condition. Part 6 of 8. -/
import Derived.Test.YtfbllodbcmcndaaZFnCookieHead4
import Derived.Test.YtfbllodbcmcndaaZFnCookieHead0
import Derived.Test.YtfbllodbcmcndaaZFnCookieHead1
section
namespace Go.Proofs.Ytfbllodbcmcndaa.Q
open Go.RowKit Go.Proofs.YtfbllodbcmcndaaW.PrintWords Go.Proofs.YtfbllodbcmcndaaW.PrintLast Go.Proofs.YtfbllodbcmcndaaW.PrintMore
attribute [local go_sem] max2_int min2_int max_two min_two max_three min_three max_four min_four
set_option linter.unusedVariables false
set_option linter.unusedSimpArgs false
def laws_holds.l0 : Nat → ByteArray → Int → Int → Int → Option (Bool)
  | 0, _, _, _, _ => none
  | k + 1, x0, x1, x7, x8 => if x8 < x7 then (if 0 ≤ x8 then (if x8 < (x0.size : Int) then (if (bt x0 x8) = x1 then (some true) else (laws_holds.l0 k x0 x1 x7 (wrap64 (x8 + 1)))) else (none)) else (none)) else (some false)
def laws_holds.f (k : Nat) (a0 : ByteArray) (a1 : Int) : Option (Bool) := laws_holds.l0 k a0 a1 (a0.size : Int) 0
set_option maxHeartbeats 8000000 in
set_option maxRecDepth 100000 in
theorem laws_holds.calls (k : Nat) (a0 : ByteArray) (a1 : Int) (r : Bool) (w : World) (h : laws_holds.f k a0 a1 = some r) :
    Calls Try.prog 60 #[.string a0, .int .u8 a1] w fun e w' => e = .returned (.bool r) ∧ Drawn0 w w' := by
  have H : (laws_holds.l0 k a0 a1 (a0.size : Int) 0) = some r := h
  clear h
  have H' := Aside0.mk H
  clear H
  go_enter Try.func60, Try.ntmps60
  go_wp2
  go_loopg [8] k (fun kq v8 w' => ∃ (x8_1 : Int), v8 = .int .i64 x8_1 ∧ Aside0 (laws_holds.l0 kq a0 a1 (a0.size : Int) x8_1 = some r) ∧ Aside0 (kq ≤ k) ∧ Drawn0 w w')
  case atStart => exact ⟨(0), (by first | rfl | (simp; done) | (simp [*]; done) | (simp [Go.Proofs.YtfbllodbcmcndaaX.isEmpty_ne]; done)), H', ⟨Nat.le_refl _⟩, by repeat (first | exact Drawn0.refl _ | apply Drawn0.step)⟩
  case round =>
    clear H'
    try clear p2
    obtain ⟨x8_1, rfl, HA, HK1, ⟨m1, rfl⟩⟩ := hrel
    cases gk with
    | zero => exact absurd HA.out (by simp [laws_holds.l0])
    | succ k1 =>
      have H := HA.out
      clear HA
      simp only [laws_holds.l0] at H
      by_cases c3 : x8_1 < (a0.size : Int)
      · rw [if_pos c3] at H
        have c3b0 : decide (x8_1 < (a0.size : Int)) = true := decide_eq_true c3
        clear c3
        by_cases c4 : 0 ≤ x8_1
        · rw [if_pos c4] at H
          have c4b0 : decide (0 ≤ x8_1) = true := decide_eq_true c4
          clear c4
          by_cases c5 : x8_1 < (a0.size : Int)
          · rw [if_pos c5] at H
            have c5b0 : decide (x8_1 < (a0.size : Int)) = true := decide_eq_true c5
            clear c5
            by_cases c7 : (bt a0 x8_1) = a1
            · rw [if_pos c7] at H
              have c7b0 : ((bt a0 x8_1) == a1) = true := beq_iff_eq.mpr c7
              have c7b1 : ((bt a0 x8_1) != a1) = false := bne_eq_false_iff_eq.mpr c7
              clear c7
              obtain rfl := Option.some.inj H
              have p6 : 0 ≤ (x8_1 : Int) := of_decide_eq_true (by first | (with_reducible assumption) | assumption)
              have q6 : x8_1 < (a0.size : Int) := of_decide_eq_true (by first | (with_reducible assumption) | assumption)
              have hx6 := bt_at a0 x8_1
              replace p6 := eq_true p6
              replace q6 := eq_true q6
              go_wp2
              go_ret
              exact ⟨by first | rfl | (simp; done) | (simp [*]; done) | (simp [Go.Proofs.YtfbllodbcmcndaaX.isEmpty_ne]; done), by repeat (first | exact Drawn0.refl _ | apply Drawn0.step)⟩
            · rw [if_neg c7] at H
              have c7b0 : ((bt a0 x8_1) == a1) = false := beq_eq_false_iff_ne.mpr c7
              have c7b1 : ((bt a0 x8_1) != a1) = true := bne_iff_ne.mpr c7
              have H' := Aside0.mk H
              clear H
              have p6 : 0 ≤ (x8_1 : Int) := of_decide_eq_true (by first | (with_reducible assumption) | assumption)
              have q6 : x8_1 < (a0.size : Int) := of_decide_eq_true (by first | (with_reducible assumption) | assumption)
              have hx6 := bt_at a0 x8_1
              replace p6 := eq_true p6
              replace q6 := eq_true q6
              go_wp2
              go_roundg k1
              case measure => have := HK1.out; omega
              case rel => exact ⟨(wrap64 (x8_1 + 1)), (by first | rfl | (simp; done) | (simp [*]; done) | (simp [Go.Proofs.YtfbllodbcmcndaaX.isEmpty_ne]; done)), H', ⟨by have := HK1.out; omega⟩, by repeat (first | exact Drawn0.refl _ | apply Drawn0.step)⟩
          · rw [if_neg c5] at H
            exact absurd H (by simp)
        · rw [if_neg c4] at H
          exact absurd H (by simp)
      · rw [if_neg c3] at H
        have c3b0 : decide (x8_1 < (a0.size : Int)) = false := decide_eq_false c3
        clear c3
        obtain rfl := Option.some.inj H
        go_wp2
        go_ret
        exact ⟨by first | rfl | (simp; done) | (simp [*]; done) | (simp [Go.Proofs.YtfbllodbcmcndaaX.isEmpty_ne]; done), by repeat (first | exact Drawn0.refl _ | apply Drawn0.step)⟩
def laws_token.l0 : Nat → ByteArray → Int → Int → Option (Bool)
  | 0, _, _, _ => none
  | k + 1, x0, x5, x6 => if x6 < x5 then (if 0 ≤ x6 then (if x6 < (x0.size : Int) then (if (bt x0 x6) ≤ 32 then (some false) else (if (bt x0 x6) > 126 then (some false) else ((laws_holds.f k (⟨#[61, 59, 44, 34, 92]⟩ : ByteArray) (bt x0 x6)).bind fun t198 => (if t198 = true then (some false) else (laws_token.l0 k x0 x5 (wrap64 (x6 + 1))))))) else (none)) else (none)) else (some (x0.toList != ([] : List UInt8)))
def laws_token.f (k : Nat) (a0 : ByteArray) : Option (Bool) := laws_token.l0 k a0 (a0.size : Int) 0
set_option maxHeartbeats 8000000 in
set_option maxRecDepth 100000 in
theorem laws_token.calls (k : Nat) (a0 : ByteArray) (r : Bool) (w : World) (h : laws_token.f k a0 = some r) :
    Calls Try.prog 22 #[.string a0] w fun e w' => e = .returned (.bool r) ∧ Drawn0 w w' := by
  have H : (laws_token.l0 k a0 (a0.size : Int) 0) = some r := h
  clear h
  have H' := Aside0.mk H
  clear H
  go_enter Try.func22, Try.ntmps22
  go_wp2
  go_loopg [6] k (fun kq v6 w' => ∃ (x6_1 : Int), v6 = .int .i64 x6_1 ∧ Aside0 (laws_token.l0 kq a0 (a0.size : Int) x6_1 = some r) ∧ Aside0 (kq ≤ k) ∧ Drawn0 w w')
  case atStart => exact ⟨(0), (by first | rfl | (simp; done) | (simp [*]; done) | (simp [Go.Proofs.YtfbllodbcmcndaaX.isEmpty_ne]; done)), H', ⟨Nat.le_refl _⟩, by repeat (first | exact Drawn0.refl _ | apply Drawn0.step)⟩
  case round =>
    clear H'
    obtain ⟨x6_1, rfl, HA, HK1, ⟨m1, rfl⟩⟩ := hrel
    cases gk with
    | zero => exact absurd HA.out (by simp [laws_token.l0])
    | succ k1 =>
      have H := HA.out
      clear HA
      simp only [laws_token.l0] at H
      by_cases c2 : x6_1 < (a0.size : Int)
      · rw [if_pos c2] at H
        have c2b0 : decide (x6_1 < (a0.size : Int)) = true := decide_eq_true c2
        clear c2
        by_cases c3 : 0 ≤ x6_1
        · rw [if_pos c3] at H
          have c3b0 : decide (0 ≤ x6_1) = true := decide_eq_true c3
          clear c3
          by_cases c4 : x6_1 < (a0.size : Int)
          · rw [if_pos c4] at H
            have c4b0 : decide (x6_1 < (a0.size : Int)) = true := decide_eq_true c4
            clear c4
            by_cases c6 : (bt a0 x6_1) ≤ 32
            · rw [if_pos c6] at H
              have c6b0 : decide ((bt a0 x6_1) ≤ 32) = true := decide_eq_true c6
              clear c6
              obtain rfl := Option.some.inj H
              have p5 : 0 ≤ (x6_1 : Int) := of_decide_eq_true (by first | (with_reducible assumption) | assumption)
              have q5 : x6_1 < (a0.size : Int) := of_decide_eq_true (by first | (with_reducible assumption) | assumption)
              have hx5 := bt_at a0 x6_1
              replace p5 := eq_true p5
              replace q5 := eq_true q5
              go_wp2
              go_ret
              exact ⟨by first | rfl | (simp; done) | (simp [*]; done) | (simp [Go.Proofs.YtfbllodbcmcndaaX.isEmpty_ne]; done), by repeat (first | exact Drawn0.refl _ | apply Drawn0.step)⟩
            · rw [if_neg c6] at H
              have c6b0 : decide ((bt a0 x6_1) ≤ 32) = false := decide_eq_false c6
              clear c6
              by_cases c8 : (bt a0 x6_1) > 126
              · rw [if_pos c8] at H
                have c8b0 : decide (126 < (bt a0 x6_1)) = true := decide_eq_true c8
                clear c8
                obtain rfl := Option.some.inj H
                have p5 : 0 ≤ (x6_1 : Int) := of_decide_eq_true (by first | (with_reducible assumption) | assumption)
                have q5 : x6_1 < (a0.size : Int) := of_decide_eq_true (by first | (with_reducible assumption) | assumption)
                have hx5 := bt_at a0 x6_1
                replace p5 := eq_true p5
                replace q5 := eq_true q5
                have p7 : 0 ≤ (x6_1 : Int) := of_decide_eq_true (by first | (with_reducible assumption) | assumption)
                have q7 : x6_1 < (a0.size : Int) := of_decide_eq_true (by first | (with_reducible assumption) | assumption)
                have hx7 := bt_at a0 x6_1
                replace p7 := eq_true p7
                replace q7 := eq_true q7
                go_wp2
                go_ret
                exact ⟨by first | rfl | (simp; done) | (simp [*]; done) | (simp [Go.Proofs.YtfbllodbcmcndaaX.isEmpty_ne]; done), by repeat (first | exact Drawn0.refl _ | apply Drawn0.step)⟩
              · rw [if_neg c8] at H
                have c8b0 : decide (126 < (bt a0 x6_1)) = false := decide_eq_false c8
                clear c8
                replace H := Option.bind_eq_some_iff.mp H
                obtain ⟨t198, A100, H⟩ := H
                replace H : (if t198 = true then (some false) else (laws_token.l0 k1 a0 (a0.size : Int) (wrap64 (x6_1 + 1)))) = some r := H
                have A10 := Aside0.mk A100
                clear A100
                by_cases c11 : t198 = true
                · subst c11
                  have H1 : (some false) = some r := by rw [if_pos rfl] at H; exact H
                  clear H
                  have H := H1
                  clear H1
                  obtain rfl := Option.some.inj H
                  have p5 : 0 ≤ (x6_1 : Int) := of_decide_eq_true (by first | (with_reducible assumption) | assumption)
                  have q5 : x6_1 < (a0.size : Int) := of_decide_eq_true (by first | (with_reducible assumption) | assumption)
                  have hx5 := bt_at a0 x6_1
                  replace p5 := eq_true p5
                  replace q5 := eq_true q5
                  have p7 : 0 ≤ (x6_1 : Int) := of_decide_eq_true (by first | (with_reducible assumption) | assumption)
                  have q7 : x6_1 < (a0.size : Int) := of_decide_eq_true (by first | (with_reducible assumption) | assumption)
                  have hx7 := bt_at a0 x6_1
                  replace p7 := eq_true p7
                  replace q7 := eq_true q7
                  have p9 : 0 ≤ (x6_1 : Int) := of_decide_eq_true (by first | (with_reducible assumption) | assumption)
                  have q9 : x6_1 < (a0.size : Int) := of_decide_eq_true (by first | (with_reducible assumption) | assumption)
                  have hx9 := bt_at a0 x6_1
                  replace p9 := eq_true p9
                  replace q9 := eq_true q9
                  go_wp2_with (first | (go_at_call 60; (with_reducible refine (laws_holds.calls k1 (⟨#[61, 59, 44, 34, 92]⟩ : ByteArray) (bt a0 x6_1) true _ A10.out).mono ?_); rintro e w' ⟨rfl, ⟨nd, rfl⟩⟩))
                  go_ret
                  exact ⟨by first | rfl | (simp; done) | (simp [*]; done) | (simp [Go.Proofs.YtfbllodbcmcndaaX.isEmpty_ne]; done), by repeat (first | exact Drawn0.refl _ | apply Drawn0.step)⟩
                · replace c11 := Bool.eq_false_iff.mpr c11
                  subst c11
                  have H1 : (laws_token.l0 k1 a0 (a0.size : Int) (wrap64 (x6_1 + 1))) = some r := by rw [if_neg (show ¬ (false = true) by decide)] at H; exact H
                  clear H
                  have H := H1
                  clear H1
                  have H' := Aside0.mk H
                  clear H
                  have p5 : 0 ≤ (x6_1 : Int) := of_decide_eq_true (by first | (with_reducible assumption) | assumption)
                  have q5 : x6_1 < (a0.size : Int) := of_decide_eq_true (by first | (with_reducible assumption) | assumption)
                  have hx5 := bt_at a0 x6_1
                  replace p5 := eq_true p5
                  replace q5 := eq_true q5
                  have p7 : 0 ≤ (x6_1 : Int) := of_decide_eq_true (by first | (with_reducible assumption) | assumption)
                  have q7 : x6_1 < (a0.size : Int) := of_decide_eq_true (by first | (with_reducible assumption) | assumption)
                  have hx7 := bt_at a0 x6_1
                  replace p7 := eq_true p7
                  replace q7 := eq_true q7
                  have p9 : 0 ≤ (x6_1 : Int) := of_decide_eq_true (by first | (with_reducible assumption) | assumption)
                  have q9 : x6_1 < (a0.size : Int) := of_decide_eq_true (by first | (with_reducible assumption) | assumption)
                  have hx9 := bt_at a0 x6_1
                  replace p9 := eq_true p9
                  replace q9 := eq_true q9
                  go_wp2_with (first | (go_at_call 60; (with_reducible refine (laws_holds.calls k1 (⟨#[61, 59, 44, 34, 92]⟩ : ByteArray) (bt a0 x6_1) false _ A10.out).mono ?_); rintro e w' ⟨rfl, ⟨nd, rfl⟩⟩))
                  go_roundg k1
                  case measure => have := HK1.out; omega
                  case rel => exact ⟨(wrap64 (x6_1 + 1)), (by first | rfl | (simp; done) | (simp [*]; done) | (simp [Go.Proofs.YtfbllodbcmcndaaX.isEmpty_ne]; done)), H', ⟨by have := HK1.out; omega⟩, by repeat (first | exact Drawn0.refl _ | apply Drawn0.step)⟩
          · rw [if_neg c4] at H
            exact absurd H (by simp)
        · rw [if_neg c3] at H
          exact absurd H (by simp)
      · rw [if_neg c2] at H
        have c2b0 : decide (x6_1 < (a0.size : Int)) = false := decide_eq_false c2
        clear c2
        obtain rfl := Option.some.inj H
        go_wp2
        go_ret
        exact ⟨by first | rfl | (simp; done) | (simp [*]; done) | (simp [Go.Proofs.YtfbllodbcmcndaaX.isEmpty_ne]; done), by repeat (first | exact Drawn0.refl _ | apply Drawn0.step)⟩
end Go.Proofs.Ytfbllodbcmcndaa.Q
end
section
namespace Go.Proofs.Ytfbllodbcmcndaa.Q
open Go.RowKit Go.Proofs.YtfbllodbcmcndaaW.PrintWords Go.Proofs.YtfbllodbcmcndaaW.PrintLast Go.Proofs.YtfbllodbcmcndaaW.PrintMore
def lowB (c : UInt8) : UInt8 := if 65 ≤ c.toNat ∧ c.toNat ≤ 90 then c + 32 else c
def lowBL (l : List UInt8) (k : Nat) : List UInt8 := (l.take k).map lowB ++ l.drop k
theorem lowBL_len (l : List UInt8) (k : Nat) (h : k ≤ l.length) : (lowBL l k).length = l.length := by simp [lowBL]; omega
theorem lowBL_at (l : List UInt8) (k : Nat) (h : k < l.length) : (lowBL l k)[k]? = some l[k] := by
  unfold lowBL
  rw [List.getElem?_append_right (by simp; omega)]
  simp [Nat.min_eq_left (Nat.le_of_lt h)]
theorem lowBL_set (l : List UInt8) (k : Nat) (h : k < l.length) : (lowBL l k).set k (lowB l[k]) = lowBL l (k + 1) := by
  unfold lowBL
  rw [List.set_append_right _ _ (by simp; omega), List.take_succ_eq_append_getElem h, List.map_append, List.append_assoc]
  simp [Nat.min_eq_left (Nat.le_of_lt h)]
  rw [List.drop_eq_getElem_cons h]
  rfl
theorem lowBL_same (l : List UInt8) (k : Nat) (h : k < l.length) (hc : lowB l[k] = l[k]) : lowBL l (k + 1) = lowBL l k := by
  unfold lowBL
  rw [List.take_succ_eq_append_getElem h, List.map_append, List.append_assoc]
  conv => rhs; rw [List.drop_eq_getElem_cons h]
  simp [hc]
set_option maxHeartbeats 8000000 in
set_option maxRecDepth 100000 in
theorem low_calls (s : ByteArray) (w : World) (hl : s.size ≤ 140737488355328) : Calls Try.prog 25 #[.string s] w fun e w' => e = .returned (.string ⟨(s.data.toList.map lowB).toArray⟩) ∧ Below w.heap.size w w' := by
  have HL := Aside0.mk hl
  clear hl
  have HB := Aside0.mk (Below.refl w.heap.size w)
  obtain ⟨l, hl⟩ : ∃ l, l = s.data.toList := ⟨_, rfl⟩
  have HLL := Aside0.mk hl
  have hs : s.size = l.length := by rw [hl]; simp
  have HS := Aside0.mk hs
  clear hl hs
  go_enter Try.func25, Try.ntmps25
  go_wp2_with (refine Go.Proofs.YtfbllodbcmcndaaX.convL_ (some 6) rfl rfl 9 63 _ rfl s rfl ?_; refine (conv_BR 9 63 5 Try.underlying9 Try.underlying63 Try.underlying5 s _).mono ?_; rintro en w6 ⟨c6, rfl, hbr, hb⟩; rw [← HLL.out] at hbr; refine ⟨_, rfl, ?_⟩; have n0_ := Aside0.mk (below_step HB.out hb); have BK := hbr; clear HB hbr hb; have HB := n0_; clear n0_; obtain ⟨gb, hgb⟩ : ∃ g, g = w.heap.size := ⟨_, rfl⟩; have GE : Aside0 (w.heap.size ≤ gb) := ⟨by omega⟩; rw [← hgb] at BK ⊢; clear hgb)
  have BK0 : Aside0 (BR w6 gb 5 (lowBL l 0)) := ⟨by rw [show lowBL l 0 = l by simp [lowBL]]; exact BK⟩
  clear BK
  go_loopw [9] (fun s9 wr => ∃ k : Nat, s9 = .int .i64 (k : Int) ∧ Aside0 (k ≤ l.length) ∧ Aside0 (BR wr gb 5 (lowBL l k)) ∧ Aside0 (Below w.heap.size w wr)) (fun s9 _ => (l.length - (intOf s9)).toNat)
  case atStart => exact ⟨0, rfl, ⟨Nat.zero_le _⟩, BK0, HB⟩
  case round =>
    clear HB BK0
    obtain ⟨k, rfl, HK, BK, HB⟩ := hrel
    obtain ⟨x9, hx9⟩ : ∃ x : Int, x = (k : Int) := ⟨_, rfl⟩
    rw [← hx9]
    have HX := Aside0.mk hx9
    have hsl : (s.size : Int) = (l.length : Int) := by rw [HS.out]
    by_cases hlt : k < l.length
    · have c1 : decide (x9 < (s.size : Int)) = true := decide_eq_true (by omega)
      have c2 : decide (0 ≤ x9) = true := decide_eq_true (by omega)
      have p1 : (0 ≤ x9) = True := eq_true (by omega)
      have q1 : (x9 < (s.size : Int)) = True := eq_true (by omega)
      have hxt : x9.toNat = k := by omega
      obtain ⟨b, hb⟩ : ∃ b : UInt8, b = l[k] := ⟨_, rfl⟩
      obtain ⟨y, hy⟩ : ∃ y : Int, y = (b.toNat : Int) := ⟨_, rfl⟩
      have hlen := lowBL_len l k HK.out
      have hat : (lowBL l k)[k]'(by omega) = l[k] := by have := lowBL_at l k hlt; rw [List.getElem?_eq_getElem (by omega)] at this; exact Option.some.inj this
      have hcell : wr.cell? ⟨gb, x9.toNat, none⟩ = some (.int .u8 y) := by rw [hxt, hy, hb, ← hat]; exact BK.out.cell k (by omega)
      have hfz : wr.frozen? ⟨gb, x9.toNat, none⟩ = false := by rw [hxt]; exact BK.out.frozen k (by omega)
      have HY := Aside0.mk hy
      have HXT := Aside0.mk hxt
      have HLT := Aside0.mk hlt
      have HLEN := Aside0.mk hlen
      have HW : Aside0 (wrap64 (x9 + 1) = ((k + 1 : Nat) : Int)) := ⟨by have h1 := HL.out; have h2 := HS.out; rw [hx9]; unfold wrap64; omega⟩
      by_cases d1 : 65 ≤ y
      · have e1 : decide (65 ≤ y) = true := decide_eq_true d1
        by_cases d2 : y ≤ 90
        · have e2 : decide (y ≤ 90) = true := decide_eq_true d2
          have HD := Aside0.mk (And.intro d1 d2)
          have hset : (lowBL l k).set k (lowB b) = lowBL l (k + 1) := by rw [hb]; exact lowBL_set l k hlt
          have HSET := Aside0.mk hset
          clear hx9 hsl hxt hy hlen hat d1 d2 hset hb hlt
          go_wp2
          go_roundw
          case measure => show ((l.length : Int) - wrap64 (x9 + 1)).toNat < ((l.length : Int) - x9).toNat; rw [HW.out]; have := HX.out; have := HLT.out; omega
          case rel =>
            refine ⟨k + 1, congrArg (Value.int .i64) HW.out, ⟨by have := HLT.out; omega⟩, ⟨?_⟩, ⟨?_⟩⟩
            · have hd := HD.out
              have hy := HY.out
              have hb2 : ((y + 32) % 256 : Int) = ((lowB b).toNat : Int) := by
                have hc : lowB b = b + 32 := if_pos (by omega)
                rw [hc]
                have : (b + 32).toNat = (b.toNat + 32) % 256 := UInt8.toNat_add ..
                rw [this]
                omega
              have hp := BK.out.put k (by have := HLEN.out; have := HLT.out; omega) (lowB b)
              rw [HSET.out] at hp
              rw [HXT.out, hb2]
              exact hp
            · repeat (first | (with_reducible first | exact HB.out | apply below_alloc | apply pw_below_drewN | apply below_drew1 | refine below_set ?_ GE.out) | exact HB.out)
        · have e2 : decide (y ≤ 90) = false := decide_eq_false d2
          have hsame : lowBL l (k + 1) = lowBL l k := lowBL_same l k hlt (by rw [← hb]; exact if_neg (by omega))
          have HSM := Aside0.mk hsame
          clear hx9 hsl hxt hy hlen hat d1 d2 hsame hb hlt
          go_wp2
          go_roundw
          case measure => show ((l.length : Int) - wrap64 (x9 + 1)).toNat < ((l.length : Int) - x9).toNat; rw [HW.out]; have := HX.out; have := HLT.out; omega
          case rel => exact ⟨k + 1, congrArg (Value.int .i64) HW.out, ⟨by have := HLT.out; omega⟩, ⟨by rw [HSM.out]; exact BK.out.heap rfl⟩, ⟨by repeat (first | (with_reducible first | exact HB.out | apply below_alloc | apply pw_below_drewN | apply below_drew1) | exact HB.out)⟩⟩
      · have e1 : decide (65 ≤ y) = false := decide_eq_false d1
        have hsame : lowBL l (k + 1) = lowBL l k := lowBL_same l k hlt (by rw [← hb]; exact if_neg (by omega))
        have HSM := Aside0.mk hsame
        clear hx9 hsl hxt hy hlen hat d1 hsame hb hlt
        go_wp2
        go_roundw
        case measure => show ((l.length : Int) - wrap64 (x9 + 1)).toNat < ((l.length : Int) - x9).toNat; rw [HW.out]; have := HX.out; have := HLT.out; omega
        case rel => exact ⟨k + 1, congrArg (Value.int .i64) HW.out, ⟨by have := HLT.out; omega⟩, ⟨by rw [HSM.out]; exact BK.out.heap rfl⟩, ⟨by repeat (first | (with_reducible first | exact HB.out | apply below_alloc | apply pw_below_drewN | apply below_drew1) | exact HB.out)⟩⟩
    · have c1 : decide (x9 < (s.size : Int)) = false := decide_eq_false (by omega)
      have hke : k = l.length := by have := HK.out; omega
      have hcv := And.intro (BR.back BK.out 63 9 c6 Try.underlying63 Try.underlying5 Try.underlying9) (fun m => BR.back (BK.out.drewN m) 63 9 c6 Try.underlying63 Try.underlying5 Try.underlying9)
      rw [lowBL_len l k HK.out, ← HS.out] at hcv
      have HKE := Aside0.mk hke
      clear hx9 hsl hke hlt
      go_wp2
      go_ret
      refine ⟨?_, by repeat (first | (with_reducible first | exact HB.out | apply below_alloc | apply pw_below_drewN | apply below_drew1) | exact HB.out)⟩
      rw [HKE.out, ← HLL.out]
      simp [lowBL]
end Go.Proofs.Ytfbllodbcmcndaa.Q
end
section
namespace Go.Proofs.Ytfbllodbcmcndaa.Q
open Go.RowKit Go.Proofs.YtfbllodbcmcndaaW.PrintWords Go.Proofs.YtfbllodbcmcndaaW.PrintLast Go.Proofs.YtfbllodbcmcndaaW.PrintMore
attribute [local go_sem] max2_int min2_int max_two min_two max_three min_three max_four min_four
set_option linter.unusedVariables false
set_option linter.unusedSimpArgs false
def laws_word.l0 : Nat → ByteArray → Int → Int → Option (Bool)
  | 0, _, _, _ => none
  | k + 1, x0, x6, x7 => if x7 < x6 then (if 0 ≤ x7 then (if x7 < (x0.size : Int) then (if (Go.bits .or .u8 (bt x0 x7) 32) < 97 then (if (bt x0 x7) < 48 then (some false) else (if (bt x0 x7) > 57 then (some false) else (laws_word.l0 k x0 x6 (wrap64 (x7 + 1))))) else (if (Go.bits .or .u8 (bt x0 x7) 32) > 122 then (if (bt x0 x7) < 48 then (some false) else (if (bt x0 x7) > 57 then (some false) else (laws_word.l0 k x0 x6 (wrap64 (x7 + 1))))) else (laws_word.l0 k x0 x6 (wrap64 (x7 + 1))))) else (none)) else (none)) else (some (x0.toList != ([] : List UInt8)))
def laws_word.f (k : Nat) (a0 : ByteArray) : Option (Bool) := laws_word.l0 k a0 (a0.size : Int) 0
set_option maxHeartbeats 8000000 in
set_option maxRecDepth 100000 in
theorem laws_word.calls (k : Nat) (a0 : ByteArray) (r : Bool) (w : World) (h : laws_word.f k a0 = some r) :
    Calls Try.prog 23 #[.string a0] w fun e w' => e = .returned (.bool r) ∧ Drawn0 w w' := by
  have H : (laws_word.l0 k a0 (a0.size : Int) 0) = some r := h
  clear h
  have H' := Aside0.mk H
  clear H
  go_enter Try.func23, Try.ntmps23
  go_wp2
  go_loopg [7] k (fun kq v7 w' => ∃ (x7_1 : Int), v7 = .int .i64 x7_1 ∧ Aside0 (laws_word.l0 kq a0 (a0.size : Int) x7_1 = some r) ∧ Aside0 (kq ≤ k) ∧ Drawn0 w w')
  case atStart => exact ⟨(0), (by first | rfl | (simp; done) | (simp [*]; done) | (simp [Go.Proofs.YtfbllodbcmcndaaX.isEmpty_ne]; done)), H', ⟨Nat.le_refl _⟩, by repeat (first | exact Drawn0.refl _ | apply Drawn0.step)⟩
  case round =>
    clear H'
    obtain ⟨x7_1, rfl, HA, HK1, ⟨m1, rfl⟩⟩ := hrel
    cases gk with
    | zero => exact absurd HA.out (by simp [laws_word.l0])
    | succ k1 =>
      have H := HA.out
      clear HA
      simp only [laws_word.l0] at H
      by_cases c2 : x7_1 < (a0.size : Int)
      · rw [if_pos c2] at H
        have c2b0 : decide (x7_1 < (a0.size : Int)) = true := decide_eq_true c2
        clear c2
        by_cases c3 : 0 ≤ x7_1
        · rw [if_pos c3] at H
          have c3b0 : decide (0 ≤ x7_1) = true := decide_eq_true c3
          clear c3
          by_cases c4 : x7_1 < (a0.size : Int)
          · rw [if_pos c4] at H
            have c4b0 : decide (x7_1 < (a0.size : Int)) = true := decide_eq_true c4
            clear c4
            by_cases c6 : (Go.bits .or .u8 (bt a0 x7_1) 32) < 97
            · rw [if_pos c6] at H
              have c6b0 : decide ((Go.bits .or .u8 (bt a0 x7_1) 32) < 97) = true := decide_eq_true c6
              clear c6
              by_cases c8 : (bt a0 x7_1) < 48
              · rw [if_pos c8] at H
                have c8b0 : decide ((bt a0 x7_1) < 48) = true := decide_eq_true c8
                clear c8
                obtain rfl := Option.some.inj H
                have p5 : 0 ≤ (x7_1 : Int) := of_decide_eq_true (by first | (with_reducible assumption) | assumption)
                have q5 : x7_1 < (a0.size : Int) := of_decide_eq_true (by first | (with_reducible assumption) | assumption)
                have hx5 := bt_at a0 x7_1
                replace p5 := eq_true p5
                replace q5 := eq_true q5
                have p7 : 0 ≤ (x7_1 : Int) := of_decide_eq_true (by first | (with_reducible assumption) | assumption)
                have q7 : x7_1 < (a0.size : Int) := of_decide_eq_true (by first | (with_reducible assumption) | assumption)
                have hx7 := bt_at a0 x7_1
                replace p7 := eq_true p7
                replace q7 := eq_true q7
                go_wp2
                go_ret
                exact ⟨by first | rfl | (simp; done) | (simp [*]; done) | (simp [Go.Proofs.YtfbllodbcmcndaaX.isEmpty_ne]; done), by repeat (first | exact Drawn0.refl _ | apply Drawn0.step)⟩
              · rw [if_neg c8] at H
                have c8b0 : decide ((bt a0 x7_1) < 48) = false := decide_eq_false c8
                clear c8
                by_cases c10 : (bt a0 x7_1) > 57
                · rw [if_pos c10] at H
                  have c10b0 : decide (57 < (bt a0 x7_1)) = true := decide_eq_true c10
                  clear c10
                  obtain rfl := Option.some.inj H
                  have p5 : 0 ≤ (x7_1 : Int) := of_decide_eq_true (by first | (with_reducible assumption) | assumption)
                  have q5 : x7_1 < (a0.size : Int) := of_decide_eq_true (by first | (with_reducible assumption) | assumption)
                  have hx5 := bt_at a0 x7_1
                  replace p5 := eq_true p5
                  replace q5 := eq_true q5
                  have p7 : 0 ≤ (x7_1 : Int) := of_decide_eq_true (by first | (with_reducible assumption) | assumption)
                  have q7 : x7_1 < (a0.size : Int) := of_decide_eq_true (by first | (with_reducible assumption) | assumption)
                  have hx7 := bt_at a0 x7_1
                  replace p7 := eq_true p7
                  replace q7 := eq_true q7
                  have p9 : 0 ≤ (x7_1 : Int) := of_decide_eq_true (by first | (with_reducible assumption) | assumption)
                  have q9 : x7_1 < (a0.size : Int) := of_decide_eq_true (by first | (with_reducible assumption) | assumption)
                  have hx9 := bt_at a0 x7_1
                  replace p9 := eq_true p9
                  replace q9 := eq_true q9
                  go_wp2
                  go_ret
                  exact ⟨by first | rfl | (simp; done) | (simp [*]; done) | (simp [Go.Proofs.YtfbllodbcmcndaaX.isEmpty_ne]; done), by repeat (first | exact Drawn0.refl _ | apply Drawn0.step)⟩
                · rw [if_neg c10] at H
                  have c10b0 : decide (57 < (bt a0 x7_1)) = false := decide_eq_false c10
                  clear c10
                  have H' := Aside0.mk H
                  clear H
                  have p5 : 0 ≤ (x7_1 : Int) := of_decide_eq_true (by first | (with_reducible assumption) | assumption)
                  have q5 : x7_1 < (a0.size : Int) := of_decide_eq_true (by first | (with_reducible assumption) | assumption)
                  have hx5 := bt_at a0 x7_1
                  replace p5 := eq_true p5
                  replace q5 := eq_true q5
                  have p7 : 0 ≤ (x7_1 : Int) := of_decide_eq_true (by first | (with_reducible assumption) | assumption)
                  have q7 : x7_1 < (a0.size : Int) := of_decide_eq_true (by first | (with_reducible assumption) | assumption)
                  have hx7 := bt_at a0 x7_1
                  replace p7 := eq_true p7
                  replace q7 := eq_true q7
                  have p9 : 0 ≤ (x7_1 : Int) := of_decide_eq_true (by first | (with_reducible assumption) | assumption)
                  have q9 : x7_1 < (a0.size : Int) := of_decide_eq_true (by first | (with_reducible assumption) | assumption)
                  have hx9 := bt_at a0 x7_1
                  replace p9 := eq_true p9
                  replace q9 := eq_true q9
                  go_wp2
                  go_roundg k1
                  case measure => have := HK1.out; omega
                  case rel => exact ⟨(wrap64 (x7_1 + 1)), (by first | rfl | (simp; done) | (simp [*]; done) | (simp [Go.Proofs.YtfbllodbcmcndaaX.isEmpty_ne]; done)), H', ⟨by have := HK1.out; omega⟩, by repeat (first | exact Drawn0.refl _ | apply Drawn0.step)⟩
            · rw [if_neg c6] at H
              have c6b0 : decide ((Go.bits .or .u8 (bt a0 x7_1) 32) < 97) = false := decide_eq_false c6
              clear c6
              by_cases c11 : (Go.bits .or .u8 (bt a0 x7_1) 32) > 122
              · rw [if_pos c11] at H
                have c11b0 : decide (122 < (Go.bits .or .u8 (bt a0 x7_1) 32)) = true := decide_eq_true c11
                clear c11
                by_cases c13 : (bt a0 x7_1) < 48
                · rw [if_pos c13] at H
                  have c13b0 : decide ((bt a0 x7_1) < 48) = true := decide_eq_true c13
                  clear c13
                  obtain rfl := Option.some.inj H
                  have p5 : 0 ≤ (x7_1 : Int) := of_decide_eq_true (by first | (with_reducible assumption) | assumption)
                  have q5 : x7_1 < (a0.size : Int) := of_decide_eq_true (by first | (with_reducible assumption) | assumption)
                  have hx5 := bt_at a0 x7_1
                  replace p5 := eq_true p5
                  replace q5 := eq_true q5
                  have p12 : 0 ≤ (x7_1 : Int) := of_decide_eq_true (by first | (with_reducible assumption) | assumption)
                  have q12 : x7_1 < (a0.size : Int) := of_decide_eq_true (by first | (with_reducible assumption) | assumption)
                  have hx12 := bt_at a0 x7_1
                  replace p12 := eq_true p12
                  replace q12 := eq_true q12
                  go_wp2
                  go_ret
                  exact ⟨by first | rfl | (simp; done) | (simp [*]; done) | (simp [Go.Proofs.YtfbllodbcmcndaaX.isEmpty_ne]; done), by repeat (first | exact Drawn0.refl _ | apply Drawn0.step)⟩
                · rw [if_neg c13] at H
                  have c13b0 : decide ((bt a0 x7_1) < 48) = false := decide_eq_false c13
                  clear c13
                  by_cases c15 : (bt a0 x7_1) > 57
                  · rw [if_pos c15] at H
                    have c15b0 : decide (57 < (bt a0 x7_1)) = true := decide_eq_true c15
                    clear c15
                    obtain rfl := Option.some.inj H
                    have p5 : 0 ≤ (x7_1 : Int) := of_decide_eq_true (by first | (with_reducible assumption) | assumption)
                    have q5 : x7_1 < (a0.size : Int) := of_decide_eq_true (by first | (with_reducible assumption) | assumption)
                    have hx5 := bt_at a0 x7_1
                    replace p5 := eq_true p5
                    replace q5 := eq_true q5
                    have p12 : 0 ≤ (x7_1 : Int) := of_decide_eq_true (by first | (with_reducible assumption) | assumption)
                    have q12 : x7_1 < (a0.size : Int) := of_decide_eq_true (by first | (with_reducible assumption) | assumption)
                    have hx12 := bt_at a0 x7_1
                    replace p12 := eq_true p12
                    replace q12 := eq_true q12
                    have p14 : 0 ≤ (x7_1 : Int) := of_decide_eq_true (by first | (with_reducible assumption) | assumption)
                    have q14 : x7_1 < (a0.size : Int) := of_decide_eq_true (by first | (with_reducible assumption) | assumption)
                    have hx14 := bt_at a0 x7_1
                    replace p14 := eq_true p14
                    replace q14 := eq_true q14
                    go_wp2
                    go_ret
                    exact ⟨by first | rfl | (simp; done) | (simp [*]; done) | (simp [Go.Proofs.YtfbllodbcmcndaaX.isEmpty_ne]; done), by repeat (first | exact Drawn0.refl _ | apply Drawn0.step)⟩
                  · rw [if_neg c15] at H
                    have c15b0 : decide (57 < (bt a0 x7_1)) = false := decide_eq_false c15
                    clear c15
                    have H' := Aside0.mk H
                    clear H
                    have p5 : 0 ≤ (x7_1 : Int) := of_decide_eq_true (by first | (with_reducible assumption) | assumption)
                    have q5 : x7_1 < (a0.size : Int) := of_decide_eq_true (by first | (with_reducible assumption) | assumption)
                    have hx5 := bt_at a0 x7_1
                    replace p5 := eq_true p5
                    replace q5 := eq_true q5
                    have p12 : 0 ≤ (x7_1 : Int) := of_decide_eq_true (by first | (with_reducible assumption) | assumption)
                    have q12 : x7_1 < (a0.size : Int) := of_decide_eq_true (by first | (with_reducible assumption) | assumption)
                    have hx12 := bt_at a0 x7_1
                    replace p12 := eq_true p12
                    replace q12 := eq_true q12
                    have p14 : 0 ≤ (x7_1 : Int) := of_decide_eq_true (by first | (with_reducible assumption) | assumption)
                    have q14 : x7_1 < (a0.size : Int) := of_decide_eq_true (by first | (with_reducible assumption) | assumption)
                    have hx14 := bt_at a0 x7_1
                    replace p14 := eq_true p14
                    replace q14 := eq_true q14
                    go_wp2
                    go_roundg k1
                    case measure => have := HK1.out; omega
                    case rel => exact ⟨(wrap64 (x7_1 + 1)), (by first | rfl | (simp; done) | (simp [*]; done) | (simp [Go.Proofs.YtfbllodbcmcndaaX.isEmpty_ne]; done)), H', ⟨by have := HK1.out; omega⟩, by repeat (first | exact Drawn0.refl _ | apply Drawn0.step)⟩
              · rw [if_neg c11] at H
                have c11b0 : decide (122 < (Go.bits .or .u8 (bt a0 x7_1) 32)) = false := decide_eq_false c11
                clear c11
                have H' := Aside0.mk H
                clear H
                have p5 : 0 ≤ (x7_1 : Int) := of_decide_eq_true (by first | (with_reducible assumption) | assumption)
                have q5 : x7_1 < (a0.size : Int) := of_decide_eq_true (by first | (with_reducible assumption) | assumption)
                have hx5 := bt_at a0 x7_1
                replace p5 := eq_true p5
                replace q5 := eq_true q5
                go_wp2
                go_roundg k1
                case measure => have := HK1.out; omega
                case rel => exact ⟨(wrap64 (x7_1 + 1)), (by first | rfl | (simp; done) | (simp [*]; done) | (simp [Go.Proofs.YtfbllodbcmcndaaX.isEmpty_ne]; done)), H', ⟨by have := HK1.out; omega⟩, by repeat (first | exact Drawn0.refl _ | apply Drawn0.step)⟩
          · rw [if_neg c4] at H
            exact absurd H (by simp)
        · rw [if_neg c3] at H
          exact absurd H (by simp)
      · rw [if_neg c2] at H
        have c2b0 : decide (x7_1 < (a0.size : Int)) = false := decide_eq_false c2
        clear c2
        obtain rfl := Option.some.inj H
        go_wp2
        go_ret
        exact ⟨by first | rfl | (simp; done) | (simp [*]; done) | (simp [Go.Proofs.YtfbllodbcmcndaaX.isEmpty_ne]; done), by repeat (first | exact Drawn0.refl _ | apply Drawn0.step)⟩
def laws_begins.f (a0 : ByteArray) (a1 : ByteArray) : Option (Bool) := if (a1.size : Int) ≤ (a0.size : Int) then (if 0 ≤ (a1.size : Int) then (some ((a0.extract 0 ((a1.size : Int) : Int).toNat).toList == a1.toList)) else (none)) else (some false)
set_option maxHeartbeats 8000000 in
set_option maxRecDepth 100000 in
theorem laws_begins.calls (a0 : ByteArray) (a1 : ByteArray) (r : Bool) (w : World) (h : laws_begins.f a0 a1 = some r) :
    Calls Try.prog 24 #[.string a0, .string a1] w fun e w' => e = .returned (.bool r) ∧ Drawn0 w w' := by
  have H : (if (a1.size : Int) ≤ (a0.size : Int) then (if 0 ≤ (a1.size : Int) then (some ((a0.extract 0 ((a1.size : Int) : Int).toNat).toList == a1.toList)) else (none)) else (some false)) = some r := h
  clear h
  by_cases c3 : (a1.size : Int) ≤ (a0.size : Int)
  · rw [if_pos c3] at H
    have c3b0 : decide ((a1.size : Int) ≤ (a0.size : Int)) = true := decide_eq_true c3
    have c3b1 : decide (a1.size ≤ a0.size) = true := decide_eq_true (Int.ofNat_le.mp c3)
    clear c3
    by_cases c4 : 0 ≤ (a1.size : Int)
    · rw [if_pos c4] at H
      have c4b0 := eq_true c4
      have c4b1 : decide (0 ≤ (a1.size : Int)) = true := decide_eq_true c4
      clear c4
      have c5b0 := eq_true (of_decide_eq_true (by first | (with_reducible assumption) | assumption) : (a1.size : Int) ≤ (a0.size : Int))
      obtain rfl := Option.some.inj H
      go_enter Try.func24, Try.ntmps24
      go_wp2
      go_ret
      exact ⟨by first | rfl | (simp; done) | (simp [*]; done) | (simp [Go.Proofs.YtfbllodbcmcndaaX.isEmpty_ne]; done), by repeat (first | exact Drawn0.refl _ | apply Drawn0.step)⟩
    · rw [if_neg c4] at H
      exact absurd H (by simp)
  · rw [if_neg c3] at H
    have c3b0 : decide ((a1.size : Int) ≤ (a0.size : Int)) = false := decide_eq_false c3
    have c3b1 : decide (a1.size ≤ a0.size) = false := decide_eq_false (fun h => c3 (Int.ofNat_le.mpr h))
    clear c3
    obtain rfl := Option.some.inj H
    go_enter Try.func24, Try.ntmps24
    go_wp2
    go_ret
    exact ⟨by first | rfl | (simp; done) | (simp [*]; done) | (simp [Go.Proofs.YtfbllodbcmcndaaX.isEmpty_ne]; done), by repeat (first | exact Drawn0.refl _ | apply Drawn0.step)⟩
def laws_low.f (a0 : ByteArray) : Option (ByteArray) := if a0.size ≤ 140737488355328 then some ⟨(a0.data.toList.map lowB).toArray⟩ else none
theorem laws_low.calls (a0 : ByteArray) (r : ByteArray) (w : World) (h : laws_low.f a0 = some r) :
    Calls Try.prog 25 #[.string a0] w fun e w' => e = .returned (.string r) ∧ Below w.heap.size w w' := by
  unfold laws_low.f at h
  split at h
  · obtain rfl := Option.some.inj h
    exact low_calls a0 w (by assumption)
  · cases h
end Go.Proofs.Ytfbllodbcmcndaa.Q
namespace Go.Proofs.Ytfbllodbcmcndaa.Q
open Go.RowKit Go.Proofs.YtfbllodbcmcndaaW.PrintWords Go.Proofs.YtfbllodbcmcndaaW.PrintLast Go.Proofs.YtfbllodbcmcndaaW.PrintMore
attribute [local go_sem] max2_int min2_int max_two min_two max_three min_three max_four min_four
set_option linter.unusedVariables false
set_option linter.unusedSimpArgs false
def laws_stands.l0 : Nat → ByteArray → ByteArray → Int → Int → Option (Bool)
  | 0, _, _, _, _ => none
  | k + 1, x0, x1, x8, x9 => if x9 < x8 then (if 0 ≤ x9 then (if x9 ≤ (x0.size : Int) then ((laws_begins.f (x0.extract (x9 : Int).toNat x0.size) x1).bind fun t199 => (if t199 = true then (some true) else (laws_stands.l0 k x0 x1 x8 (wrap64 (x9 + 1))))) else (none)) else (none)) else (some false)
def laws_stands.f (k : Nat) (a0 : ByteArray) (a1 : ByteArray) : Option (Bool) := laws_stands.l0 k a0 a1 (wrap64 ((a0.size : Int) + 1)) 0
set_option maxHeartbeats 8000000 in
set_option maxRecDepth 100000 in
theorem laws_stands.calls (k : Nat) (a0 : ByteArray) (a1 : ByteArray) (r : Bool) (w : World) (h : laws_stands.f k a0 a1 = some r) :
    Calls Try.prog 26 #[.string a0, .string a1] w fun e w' => e = .returned (.bool r) ∧ Drawn0 w w' := by
  have H : (laws_stands.l0 k a0 a1 (wrap64 ((a0.size : Int) + 1)) 0) = some r := h
  clear h
  have H' := Aside0.mk H
  clear H
  go_enter Try.func26, Try.ntmps26
  go_wp2
  go_loopg [9] k (fun kq v9 w' => ∃ (x9_1 : Int), v9 = .int .i64 x9_1 ∧ Aside0 (laws_stands.l0 kq a0 a1 (wrap64 ((a0.size : Int) + 1)) x9_1 = some r) ∧ Aside0 (kq ≤ k) ∧ Drawn0 w w')
  case atStart => exact ⟨(0), (by first | rfl | (simp; done) | (simp [*]; done) | (simp [Go.Proofs.YtfbllodbcmcndaaX.isEmpty_ne]; done)), H', ⟨Nat.le_refl _⟩, by repeat (first | exact Drawn0.refl _ | apply Drawn0.step)⟩
  case round =>
    clear H'
    try clear c2
    try clear p2
    obtain ⟨x9_1, rfl, HA, HK1, ⟨m1, rfl⟩⟩ := hrel
    cases gk with
    | zero => exact absurd HA.out (by simp [laws_stands.l0])
    | succ k1 =>
      have H := HA.out
      clear HA
      simp only [laws_stands.l0] at H
      by_cases c3 : x9_1 < (wrap64 ((a0.size : Int) + 1))
      · rw [if_pos c3] at H
        have c3b0 : decide (x9_1 < (wrap64 ((a0.size : Int) + 1))) = true := decide_eq_true c3
        clear c3
        by_cases c4 : 0 ≤ x9_1
        · rw [if_pos c4] at H
          have c4b0 := eq_true c4
          have c4b1 : decide (0 ≤ x9_1) = true := decide_eq_true c4
          clear c4
          by_cases c5 : x9_1 ≤ (a0.size : Int)
          · rw [if_pos c5] at H
            have c5b0 := eq_true c5
            have c5b1 : decide (x9_1 ≤ (a0.size : Int)) = true := decide_eq_true c5
            clear c5
            replace H := Option.bind_eq_some_iff.mp H
            obtain ⟨t199, A60, H⟩ := H
            replace H : (if t199 = true then (some true) else (laws_stands.l0 k1 a0 a1 (wrap64 ((a0.size : Int) + 1)) (wrap64 (x9_1 + 1)))) = some r := H
            have A6 := Aside0.mk A60
            clear A60
            by_cases c7 : t199 = true
            · subst c7
              have H1 : (some true) = some r := by rw [if_pos rfl] at H; exact H
              clear H
              have H := H1
              clear H1
              obtain rfl := Option.some.inj H
              go_wp2_with (first | ((with_reducible refine gate_callee (f := 24) rfl ?_); refine goesL_ (some 16) rfl rfl Try.func24 (by kernel_rfl) rfl #[.string (a0.extract (x9_1 : Int).toNat a0.size), .string a1] rfl (by (try simp only [List.map_toArray, List.map_cons, List.map_nil]); first | done | rfl | (simp only [List.length_drop, List.length_take]; rfl)) ?_; (with_reducible refine (laws_begins.calls (a0.extract (x9_1 : Int).toNat a0.size) a1 true _ A6.out).mono ?_); rintro e w' ⟨rfl, ⟨nd, rfl⟩⟩; refine ⟨_, rfl, ?_⟩))
              go_ret
              exact ⟨by first | rfl | (simp; done) | (simp [*]; done) | (simp [Go.Proofs.YtfbllodbcmcndaaX.isEmpty_ne]; done), by repeat (first | exact Drawn0.refl _ | apply Drawn0.step)⟩
            · replace c7 := Bool.eq_false_iff.mpr c7
              subst c7
              have H1 : (laws_stands.l0 k1 a0 a1 (wrap64 ((a0.size : Int) + 1)) (wrap64 (x9_1 + 1))) = some r := by rw [if_neg (show ¬ (false = true) by decide)] at H; exact H
              clear H
              have H := H1
              clear H1
              have H' := Aside0.mk H
              clear H
              go_wp2_with (first | ((with_reducible refine gate_callee (f := 24) rfl ?_); refine goesL_ (some 16) rfl rfl Try.func24 (by kernel_rfl) rfl #[.string (a0.extract (x9_1 : Int).toNat a0.size), .string a1] rfl (by (try simp only [List.map_toArray, List.map_cons, List.map_nil]); first | done | rfl | (simp only [List.length_drop, List.length_take]; rfl)) ?_; (with_reducible refine (laws_begins.calls (a0.extract (x9_1 : Int).toNat a0.size) a1 false _ A6.out).mono ?_); rintro e w' ⟨rfl, ⟨nd, rfl⟩⟩; refine ⟨_, rfl, ?_⟩))
              go_roundg k1
              case measure => have := HK1.out; omega
              case rel => exact ⟨(wrap64 (x9_1 + 1)), (by first | rfl | (simp; done) | (simp [*]; done) | (simp [Go.Proofs.YtfbllodbcmcndaaX.isEmpty_ne]; done)), H', ⟨by have := HK1.out; omega⟩, by repeat (first | exact Drawn0.refl _ | apply Drawn0.step)⟩
          · rw [if_neg c5] at H
            exact absurd H (by simp)
        · rw [if_neg c4] at H
          exact absurd H (by simp)
      · rw [if_neg c3] at H
        have c3b0 : decide (x9_1 < (wrap64 ((a0.size : Int) + 1))) = false := decide_eq_false c3
        clear c3
        obtain rfl := Option.some.inj H
        go_wp2
        go_ret
        exact ⟨by first | rfl | (simp; done) | (simp [*]; done) | (simp [Go.Proofs.YtfbllodbcmcndaaX.isEmpty_ne]; done), by repeat (first | exact Drawn0.refl _ | apply Drawn0.step)⟩
end Go.Proofs.Ytfbllodbcmcndaa.Q
end
