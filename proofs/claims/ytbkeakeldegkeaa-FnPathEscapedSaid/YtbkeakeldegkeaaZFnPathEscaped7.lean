/- FnPathEscaped: the law's function, called with any arguments, returns true and leaves its arguments as they were: every input, no condition. Part 8 of 8. -/
import Derived.Test.YtbkeakeldegkeaaZFnPathEscaped1
import Derived.Test.YtbkeakeldegkeaaZFnPathEscaped2
import Derived.Test.YtbkeakeldegkeaaZFnPathEscaped6
import Derived.Test.YtbkeakeldegkeaaZFnPathEscaped3
import Derived.Test.YtbkeakeldegkeaaZFnPathEscaped4
import Derived.Test.YtbkeakeldegkeaaRows
import Derived.WalkKit
import Derived.ProofKit
import Derived.OpenShut
import Derived.ShutString
import Derived.ChangeOld
import Derived.Below
import Derived.SizedLaws
section
namespace Go.Proofs.Ytbkeakeldegkeaa.Q
open Go.RowKit Go.Proofs.YtbkeakeldegkeaaW.PrintWords Go.Proofs.YtbkeakeldegkeaaW.PrintLast Go.Proofs.YtbkeakeldegkeaaW.PrintMore
attribute [local go_sem] max2_int min2_int max_two min_two max_three min_three max_four min_four
set_option linter.unusedVariables false
set_option linter.unusedSimpArgs false
attribute [local go_sem high] eqA27
def laws_parses.f  : Option (Bool) := (impl_UriOf.f (⟨#[]⟩ : ByteArray) (⟨#[104, 116, 116, 112, 58, 47, 47, 104, 47, 97, 63, 98, 61, 99, 35, 100]⟩ : ByteArray)).bind fun bt183 => (if bt183.2.2.2.2.2.2.2.2 = true then (some (bt183.1.toList == ([104, 116, 116, 112] : List UInt8) && (bt183.2.1.toList == ([104] : List UInt8) && (bt183.2.2.1.toList == ([47, 97] : List UInt8) && (bt183.2.2.2.1.toList == ([47, 97] : List UInt8) && (bt183.2.2.2.2.1.toList == ([98, 61, 99] : List UInt8) && (bt183.2.2.2.2.2.1.toList == ([100] : List UInt8) && (bt183.2.2.2.2.2.2.1.toList == ([] : List UInt8) && (bt183.2.2.2.2.2.2.2.1.toList == ([] : List UInt8)))))))))) else (some false))
set_option maxHeartbeats 8000000 in
set_option maxRecDepth 100000 in
theorem laws_parses.calls  (r : Bool) (w : World) (h : laws_parses.f  = some r) :
    Calls Try.prog 12 #[] w fun e w' => e = .returned (.bool r) ∧ Below w.heap.size w w' := by
  have hu27 := Try.underlying27
  have HB := Aside0.mk (Below.refl w.heap.size w)
  have H : ((impl_UriOf.f (⟨#[]⟩ : ByteArray) (⟨#[104, 116, 116, 112, 58, 47, 47, 104, 47, 97, 63, 98, 61, 99, 35, 100]⟩ : ByteArray)).bind fun bt183 => (if bt183.2.2.2.2.2.2.2.2 = true then (some (bt183.1.toList == ([104, 116, 116, 112] : List UInt8) && (bt183.2.1.toList == ([104] : List UInt8) && (bt183.2.2.1.toList == ([47, 97] : List UInt8) && (bt183.2.2.2.1.toList == ([47, 97] : List UInt8) && (bt183.2.2.2.2.1.toList == ([98, 61, 99] : List UInt8) && (bt183.2.2.2.2.2.1.toList == ([100] : List UInt8) && (bt183.2.2.2.2.2.2.1.toList == ([] : List UInt8) && (bt183.2.2.2.2.2.2.2.1.toList == ([] : List UInt8)))))))))) else (some false))) = some r := h
  clear h
  replace H := Option.bind_eq_some_iff.mp H
  obtain ⟨⟨t183, t184, t185, t186, t187, t188, t189, t190, t191⟩, A10, H⟩ := H
  replace H : (if t191 = true then (some (t183.toList == ([104, 116, 116, 112] : List UInt8) && (t184.toList == ([104] : List UInt8) && (t185.toList == ([47, 97] : List UInt8) && (t186.toList == ([47, 97] : List UInt8) && (t187.toList == ([98, 61, 99] : List UInt8) && (t188.toList == ([100] : List UInt8) && (t189.toList == ([] : List UInt8) && (t190.toList == ([] : List UInt8)))))))))) else (some false)) = some r := H
  have A1 := Aside0.mk A10
  clear A10
  by_cases c2 : t191 = true
  · subst c2
    have H1 : (some (t183.toList == ([104, 116, 116, 112] : List UInt8) && (t184.toList == ([104] : List UInt8) && (t185.toList == ([47, 97] : List UInt8) && (t186.toList == ([47, 97] : List UInt8) && (t187.toList == ([98, 61, 99] : List UInt8) && (t188.toList == ([100] : List UInt8) && (t189.toList == ([] : List UInt8) && (t190.toList == ([] : List UInt8)))))))))) = some r := by rw [if_pos rfl] at H; exact H
    clear H
    have H := H1
    clear H1
    obtain rfl := Option.some.inj H
    go_enter Try.func12, Try.ntmps12
    go_wp2_with (first | ((with_reducible refine gate_callee (f := 18) rfl ?_); refine goesL_ (some 4) rfl rfl Try.func18 (by kernel_rfl) rfl #[.string (⟨#[]⟩ : ByteArray), .string (⟨#[104, 116, 116, 112, 58, 47, 47, 104, 47, 97, 63, 98, 61, 99, 35, 100]⟩ : ByteArray)] rfl (by (try simp only [List.map_toArray, List.map_cons, List.map_nil]); first | done | rfl | (simp only [List.length_drop, List.length_take]; rfl)) ?_; (with_reducible refine (impl_UriOf.calls (⟨#[]⟩ : ByteArray) (⟨#[104, 116, 116, 112, 58, 47, 47, 104, 47, 97, 63, 98, 61, 99, 35, 100]⟩ : ByteArray) t183 t184 t185 t186 t187 t188 t189 t190 true _ A1.out).mono ?_); rintro e w3 ⟨rfl, hb⟩; refine ⟨_, rfl, ?_⟩; have n0_ := Aside0.mk (below_step (by repeat (first | (with_reducible first | exact HB.out | apply below_alloc | apply pw_below_drewN | apply below_drew1) | exact HB.out)) hb); clear HB; have HB := n0_; clear n0_; (try clear hb); (try clear hb2); (try clear hk); (try clear hi)) | ((with_reducible refine gate_dst (N := 1) rfl ?_); refine box_event ?hg (N := 1) ?hd (cs := #[.string (⟨#[]⟩ : ByteArray), .string (⟨#[]⟩ : ByteArray), .string (⟨#[]⟩ : ByteArray), .string (⟨#[]⟩ : ByteArray), .string (⟨#[]⟩ : ByteArray), .string (⟨#[]⟩ : ByteArray), .string (⟨#[]⟩ : ByteArray), .string (⟨#[]⟩ : ByteArray)]) (t := 27) ?hr ?_; (case hd => rfl); (case hg => rfl); (case hr => first | (go_simp; done) | (go_simp; rfl)); intro gb192 hg w4 hbox hb; have n0_ := Aside0.mk (below_step (by repeat (first | (with_reducible first | exact HB.out | apply below_alloc | apply pw_below_drewN | apply below_drew1) | exact HB.out)) hb); have n1_ := Aside0.mk (hbox); have n2_ := Aside0.mk ((by rw [hg]; exact (below_size (by repeat (first | (with_reducible first | exact HB.out | apply below_alloc | apply pw_below_drewN | apply below_drew1) | exact HB.out))) : w.heap.size ≤ gb192)); have n3_ := Aside0.mk ((by rw [hg]; exact (below_size (by repeat (first | (with_reducible first | exact HB.out | apply below_alloc | apply pw_below_drewN | apply below_drew1) | exact HB.out))) : w.heap.size ≤ gb192)); clear HB; have HB := n0_; have BK192 := n1_; have GW192 := n2_; have GE192 := n3_; clear n0_ n1_ n2_ n3_; clear hb hbox hg; have hcz5_0 : w4.cell? ⟨gb192, 0, none⟩ = some (.string (⟨#[]⟩ : ByteArray)) := (blk_cell BK192.out 0).trans rfl; have hcz5_1 : w4.cell? ⟨gb192, 1, none⟩ = some (.string (⟨#[]⟩ : ByteArray)) := (blk_cell BK192.out 1).trans rfl; have hcz5_2 : w4.cell? ⟨gb192, 2, none⟩ = some (.string (⟨#[]⟩ : ByteArray)) := (blk_cell BK192.out 2).trans rfl; have hcz5_3 : w4.cell? ⟨gb192, 3, none⟩ = some (.string (⟨#[]⟩ : ByteArray)) := (blk_cell BK192.out 3).trans rfl; have hcz5_4 : w4.cell? ⟨gb192, 4, none⟩ = some (.string (⟨#[]⟩ : ByteArray)) := (blk_cell BK192.out 4).trans rfl; have hcz5_5 : w4.cell? ⟨gb192, 5, none⟩ = some (.string (⟨#[]⟩ : ByteArray)) := (blk_cell BK192.out 5).trans rfl; have hcz5_6 : w4.cell? ⟨gb192, 6, none⟩ = some (.string (⟨#[]⟩ : ByteArray)) := (blk_cell BK192.out 6).trans rfl; have hcz5_7 : w4.cell? ⟨gb192, 7, none⟩ = some (.string (⟨#[]⟩ : ByteArray)) := (blk_cell BK192.out 7).trans rfl; have hfz5_0 := blk_frozen BK192.out 0; have hfz5_1 := blk_frozen BK192.out 1; have hfz5_2 := blk_frozen BK192.out 2; have hfz5_3 := blk_frozen BK192.out 3; have hfz5_4 := blk_frozen BK192.out 4; have hfz5_5 := blk_frozen BK192.out 5; have hfz5_6 := blk_frozen BK192.out 6; have hfz5_7 := blk_frozen BK192.out 7))
    go_ret
    exact ⟨by first | rfl | (simp [errW_none, errW_some] <;> rfl) | (simp [*, errW_none, errW_some] <;> rfl), by repeat (first | (with_reducible first | exact HB.out | apply below_alloc | apply pw_below_drewN | apply below_drew1 | refine below_set ?_ GE192.out) | exact HB.out)⟩
  · replace c2 := Bool.eq_false_iff.mpr c2
    subst c2
    have H1 : (some false) = some r := by rw [if_neg (show ¬ (false = true) by decide)] at H; exact H
    clear H
    have H := H1
    clear H1
    obtain rfl := Option.some.inj H
    go_enter Try.func12, Try.ntmps12
    go_wp2_with (first | ((with_reducible refine gate_callee (f := 18) rfl ?_); refine goesL_ (some 4) rfl rfl Try.func18 (by kernel_rfl) rfl #[.string (⟨#[]⟩ : ByteArray), .string (⟨#[104, 116, 116, 112, 58, 47, 47, 104, 47, 97, 63, 98, 61, 99, 35, 100]⟩ : ByteArray)] rfl (by (try simp only [List.map_toArray, List.map_cons, List.map_nil]); first | done | rfl | (simp only [List.length_drop, List.length_take]; rfl)) ?_; (with_reducible refine (impl_UriOf.calls (⟨#[]⟩ : ByteArray) (⟨#[104, 116, 116, 112, 58, 47, 47, 104, 47, 97, 63, 98, 61, 99, 35, 100]⟩ : ByteArray) t183 t184 t185 t186 t187 t188 t189 t190 false _ A1.out).mono ?_); rintro e w6 ⟨rfl, hb⟩; refine ⟨_, rfl, ?_⟩; have n0_ := Aside0.mk (below_step (by repeat (first | (with_reducible first | exact HB.out | apply below_alloc | apply pw_below_drewN | apply below_drew1) | exact HB.out)) hb); clear HB; have HB := n0_; clear n0_; (try clear hb); (try clear hb2); (try clear hk); (try clear hi)) | ((with_reducible refine gate_dst (N := 1) rfl ?_); refine box_event ?hg (N := 1) ?hd (cs := #[.string (⟨#[]⟩ : ByteArray), .string (⟨#[]⟩ : ByteArray), .string (⟨#[]⟩ : ByteArray), .string (⟨#[]⟩ : ByteArray), .string (⟨#[]⟩ : ByteArray), .string (⟨#[]⟩ : ByteArray), .string (⟨#[]⟩ : ByteArray), .string (⟨#[]⟩ : ByteArray)]) (t := 27) ?hr ?_; (case hd => rfl); (case hg => rfl); (case hr => first | (go_simp; done) | (go_simp; rfl)); intro gb192 hg w7 hbox hb; have n0_ := Aside0.mk (below_step (by repeat (first | (with_reducible first | exact HB.out | apply below_alloc | apply pw_below_drewN | apply below_drew1) | exact HB.out)) hb); have n1_ := Aside0.mk (hbox); have n2_ := Aside0.mk ((by rw [hg]; exact (below_size (by repeat (first | (with_reducible first | exact HB.out | apply below_alloc | apply pw_below_drewN | apply below_drew1) | exact HB.out))) : w.heap.size ≤ gb192)); have n3_ := Aside0.mk ((by rw [hg]; exact (below_size (by repeat (first | (with_reducible first | exact HB.out | apply below_alloc | apply pw_below_drewN | apply below_drew1) | exact HB.out))) : w.heap.size ≤ gb192)); clear HB; have HB := n0_; have BK192 := n1_; have GW192 := n2_; have GE192 := n3_; clear n0_ n1_ n2_ n3_; clear hb hbox hg; have hcz8_0 : w7.cell? ⟨gb192, 0, none⟩ = some (.string (⟨#[]⟩ : ByteArray)) := (blk_cell BK192.out 0).trans rfl; have hcz8_1 : w7.cell? ⟨gb192, 1, none⟩ = some (.string (⟨#[]⟩ : ByteArray)) := (blk_cell BK192.out 1).trans rfl; have hcz8_2 : w7.cell? ⟨gb192, 2, none⟩ = some (.string (⟨#[]⟩ : ByteArray)) := (blk_cell BK192.out 2).trans rfl; have hcz8_3 : w7.cell? ⟨gb192, 3, none⟩ = some (.string (⟨#[]⟩ : ByteArray)) := (blk_cell BK192.out 3).trans rfl; have hcz8_4 : w7.cell? ⟨gb192, 4, none⟩ = some (.string (⟨#[]⟩ : ByteArray)) := (blk_cell BK192.out 4).trans rfl; have hcz8_5 : w7.cell? ⟨gb192, 5, none⟩ = some (.string (⟨#[]⟩ : ByteArray)) := (blk_cell BK192.out 5).trans rfl; have hcz8_6 : w7.cell? ⟨gb192, 6, none⟩ = some (.string (⟨#[]⟩ : ByteArray)) := (blk_cell BK192.out 6).trans rfl; have hcz8_7 : w7.cell? ⟨gb192, 7, none⟩ = some (.string (⟨#[]⟩ : ByteArray)) := (blk_cell BK192.out 7).trans rfl; have hfz8_0 := blk_frozen BK192.out 0; have hfz8_1 := blk_frozen BK192.out 1; have hfz8_2 := blk_frozen BK192.out 2; have hfz8_3 := blk_frozen BK192.out 3; have hfz8_4 := blk_frozen BK192.out 4; have hfz8_5 := blk_frozen BK192.out 5; have hfz8_6 := blk_frozen BK192.out 6; have hfz8_7 := blk_frozen BK192.out 7))
    go_ret
    exact ⟨by first | rfl | (simp [errW_none, errW_some] <;> rfl) | (simp [*, errW_none, errW_some] <;> rfl), by repeat (first | (with_reducible first | exact HB.out | apply below_alloc | apply pw_below_drewN | apply below_drew1 | refine below_set ?_ GE192.out) | exact HB.out)⟩
end Go.Proofs.Ytbkeakeldegkeaa.Q
namespace Go.Proofs.Ytbkeakeldegkeaa.Q
open Go.RowKit Go.Proofs.YtbkeakeldegkeaaW.PrintWords Go.Proofs.YtbkeakeldegkeaaW.PrintLast Go.Proofs.YtbkeakeldegkeaaW.PrintMore
attribute [local go_sem] max2_int min2_int max_two min_two max_three min_three max_four min_four
set_option linter.unusedVariables false
set_option linter.unusedSimpArgs false
def laws_short.l0 : Nat → List ByteArray → List ByteArray → Int → Int → Option (Bool)
  | 0, _, _, _, _ => none
  | k + 1, x0, x5, x6, x7 => if x7 < x6 then (if 0 ≤ x7 then (if x7 < (x5.length : Int) then (if ((rdOf ByteArray.empty x5 x7).size : Int) > 2000 then (some false) else (laws_short.l0 k x0 x5 x6 (wrap64 (x7 + 1)))) else (none)) else (none)) else (some (decide ((x0.length : Int) ≤ 60)))
def laws_short.f (k : Nat) (l0 : List ByteArray) : Option (Bool) := laws_short.l0 k l0 l0 (l0.length : Int) 0
set_option maxHeartbeats 8000000 in
set_option maxRecDepth 100000 in
theorem laws_short.calls (k : Nat) (A0 : Option Addr) (c0 : Nat) (l0 : List ByteArray) (r : Bool) (w : World) (hr0 : Kd.C Kd.string w A0 l0.length l0) (hc0 : l0.length ≤ c0) (h : laws_short.f k l0 = some r) :
    Calls Try.prog 14 #[.slice A0 l0.length c0] w fun e w' => e = .returned (.bool r) ∧ Drawn0 w w' := by
  have HR0 := Aside0.mk hr0
  have HC0 := Aside0.mk hc0
  clear hr0 hc0
  have H : (laws_short.l0 k l0 l0 (l0.length : Int) 0) = some r := h
  clear h
  have H' := Aside0.mk H
  clear H
  go_enter Try.func14, Try.ntmps14
  go_wp2
  go_loopg [7] k (fun kq v7 w' => ∃ (x7_1 : Int), v7 = .int .i64 x7_1 ∧ Aside0 (laws_short.l0 kq l0 l0 (l0.length : Int) x7_1 = some r) ∧ Aside0 (kq ≤ k) ∧ Drawn0 w w')
  case atStart => exact ⟨(0), (by first | rfl | (simp; done) | (simp [*]; done) | (simp [Go.Proofs.YtbkeakeldegkeaaX.isEmpty_ne]; done)), H', ⟨Nat.le_refl _⟩, by repeat (first | exact Drawn0.refl _ | apply Drawn0.step)⟩
  case round =>
    clear H'
    try clear c1
    obtain ⟨x7_1, rfl, HA, HK1, ⟨m1, rfl⟩⟩ := hrel
    cases gk with
    | zero => exact absurd HA.out (by simp [laws_short.l0])
    | succ k1 =>
      have H := HA.out
      clear HA
      simp only [laws_short.l0] at H
      by_cases c2 : x7_1 < (l0.length : Int)
      · rw [if_pos c2] at H
        have c2b0 : decide (x7_1 < (l0.length : Int)) = true := decide_eq_true c2
        clear c2
        by_cases c3 : 0 ≤ x7_1
        · rw [if_pos c3] at H
          have c3b0 : decide (0 ≤ x7_1) = true := decide_eq_true c3
          clear c3
          by_cases c4 : x7_1 < (l0.length : Int)
          · rw [if_pos c4] at H
            have c4b0 : decide (x7_1 < (l0.length : Int)) = true := decide_eq_true c4
            clear c4
            by_cases c5 : ((rdOf ByteArray.empty l0 x7_1).size : Int) > 2000
            · rw [if_pos c5] at H
              have c5b0 : decide (2000 < ((rdOf ByteArray.empty l0 x7_1).size : Int)) = true := decide_eq_true c5
              have c5b1 : decide (2000 < (rdOf ByteArray.empty l0 x7_1).size) = true := decide_eq_true (by omega)
              clear c5
              obtain rfl := Option.some.inj H
              have p193 : 0 ≤ (x7_1 : Int) := of_decide_eq_true (by first | (with_reducible assumption) | assumption)
              have q193 : x7_1 < (l0.length : Int) := of_decide_eq_true (by first | (with_reducible assumption) | assumption)
              obtain ⟨ad193, e193, hx193_0⟩ := Kd.at_string HR0.out x7_1 p193 q193
              cases e193
              replace p193 := eq_true p193
              replace q193 := eq_true q193
              go_wp2
              go_ret
              exact ⟨by first | rfl | (simp; done) | (simp [*]; done) | (simp [Go.Proofs.YtbkeakeldegkeaaX.isEmpty_ne]; done), by repeat (first | exact Drawn0.refl _ | apply Drawn0.step)⟩
            · rw [if_neg c5] at H
              have c5b0 : decide (2000 < ((rdOf ByteArray.empty l0 x7_1).size : Int)) = false := decide_eq_false c5
              have c5b1 : decide (2000 < (rdOf ByteArray.empty l0 x7_1).size) = false := decide_eq_false (by omega)
              clear c5
              have H' := Aside0.mk H
              clear H
              have p193 : 0 ≤ (x7_1 : Int) := of_decide_eq_true (by first | (with_reducible assumption) | assumption)
              have q193 : x7_1 < (l0.length : Int) := of_decide_eq_true (by first | (with_reducible assumption) | assumption)
              obtain ⟨ad193, e193, hx193_0⟩ := Kd.at_string HR0.out x7_1 p193 q193
              cases e193
              replace p193 := eq_true p193
              replace q193 := eq_true q193
              go_wp2
              go_roundg k1
              case measure => have := HK1.out; omega
              case rel => exact ⟨(wrap64 (x7_1 + 1)), (by first | rfl | (simp; done) | (simp [*]; done) | (simp [Go.Proofs.YtbkeakeldegkeaaX.isEmpty_ne]; done)), H', ⟨by have := HK1.out; omega⟩, by repeat (first | exact Drawn0.refl _ | apply Drawn0.step)⟩
          · rw [if_neg c4] at H
            exact absurd H (by simp)
        · rw [if_neg c3] at H
          exact absurd H (by simp)
      · rw [if_neg c2] at H
        have c2b0 : decide (x7_1 < (l0.length : Int)) = false := decide_eq_false c2
        clear c2
        obtain rfl := Option.some.inj H
        go_wp2
        go_ret
        exact ⟨by first | rfl | (simp; done) | (simp [*]; done) | (simp [Go.Proofs.YtbkeakeldegkeaaX.isEmpty_ne]; done), by repeat (first | exact Drawn0.refl _ | apply Drawn0.step)⟩
end Go.Proofs.Ytbkeakeldegkeaa.Q
end
section
namespace Go.Proofs.Ytbkeakeldegkeaa.Q
open Go.RowKit Go.Proofs.YtbkeakeldegkeaaW.PrintWords Go.Proofs.YtbkeakeldegkeaaW.PrintLast Go.Proofs.YtbkeakeldegkeaaW.PrintMore
attribute [local go_sem] max2_int min2_int max_two min_two max_three min_three max_four min_four
set_option linter.unusedVariables false
set_option linter.unusedSimpArgs false
def laws_holds.l0 : Nat → ByteArray → Int → Int → Int → Option (Bool)
  | 0, _, _, _, _ => none
  | k + 1, x0, x1, x7, x8 => if x8 < x7 then (if 0 ≤ x8 then (if x8 < (x0.size : Int) then (if (bt x0 x8) = x1 then (some true) else (laws_holds.l0 k x0 x1 x7 (wrap64 (x8 + 1)))) else (none)) else (none)) else (some false)
def laws_holds.f (k : Nat) (a0 : ByteArray) (a1 : Int) : Option (Bool) := laws_holds.l0 k a0 a1 (a0.size : Int) 0
set_option maxHeartbeats 8000000 in
set_option maxRecDepth 100000 in
theorem laws_holds.calls (k : Nat) (a0 : ByteArray) (a1 : Int) (r : Bool) (w : World) (h : laws_holds.f k a0 a1 = some r) :
    Calls Try.prog 20 #[.string a0, .int .u8 a1] w fun e w' => e = .returned (.bool r) ∧ Drawn0 w w' := by
  have H : (laws_holds.l0 k a0 a1 (a0.size : Int) 0) = some r := h
  clear h
  have H' := Aside0.mk H
  clear H
  go_enter Try.func20, Try.ntmps20
  go_wp2
  go_loopg [8] k (fun kq v8 w' => ∃ (x8_1 : Int), v8 = .int .i64 x8_1 ∧ Aside0 (laws_holds.l0 kq a0 a1 (a0.size : Int) x8_1 = some r) ∧ Aside0 (kq ≤ k) ∧ Drawn0 w w')
  case atStart => exact ⟨(0), (by first | rfl | (simp; done) | (simp [*]; done) | (simp [Go.Proofs.YtbkeakeldegkeaaX.isEmpty_ne]; done)), H', ⟨Nat.le_refl _⟩, by repeat (first | exact Drawn0.refl _ | apply Drawn0.step)⟩
  case round =>
    clear H'
    try clear c2
    try clear p2
    obtain ⟨x8_1, rfl, HA, HK1, ⟨m1, rfl⟩⟩ := hrel
    cases gk with
    | zero => exact absurd HA.out (by simp [laws_holds.l0])
    | succ k1 =>
      have H := HA.out
      clear HA
      simp only [laws_holds.l0] at H
      by_cases c3 : x8_1 < (a0.size : Int)
      · rw [if_pos c3] at H
        have c3b0 : decide (x8_1 < (a0.size : Int)) = true := decide_eq_true c3
        clear c3
        by_cases c4 : 0 ≤ x8_1
        · rw [if_pos c4] at H
          have c4b0 : decide (0 ≤ x8_1) = true := decide_eq_true c4
          clear c4
          by_cases c5 : x8_1 < (a0.size : Int)
          · rw [if_pos c5] at H
            have c5b0 : decide (x8_1 < (a0.size : Int)) = true := decide_eq_true c5
            clear c5
            by_cases c7 : (bt a0 x8_1) = a1
            · rw [if_pos c7] at H
              have c7b0 : ((bt a0 x8_1) == a1) = true := beq_iff_eq.mpr c7
              have c7b1 : ((bt a0 x8_1) != a1) = false := bne_eq_false_iff_eq.mpr c7
              clear c7
              obtain rfl := Option.some.inj H
              have p6 : 0 ≤ (x8_1 : Int) := of_decide_eq_true (by first | (with_reducible assumption) | assumption)
              have q6 : x8_1 < (a0.size : Int) := of_decide_eq_true (by first | (with_reducible assumption) | assumption)
              have hx6 := bt_at a0 x8_1
              replace p6 := eq_true p6
              replace q6 := eq_true q6
              go_wp2
              go_ret
              exact ⟨by first | rfl | (simp; done) | (simp [*]; done) | (simp [Go.Proofs.YtbkeakeldegkeaaX.isEmpty_ne]; done), by repeat (first | exact Drawn0.refl _ | apply Drawn0.step)⟩
            · rw [if_neg c7] at H
              have c7b0 : ((bt a0 x8_1) == a1) = false := beq_eq_false_iff_ne.mpr c7
              have c7b1 : ((bt a0 x8_1) != a1) = true := bne_iff_ne.mpr c7
              have H' := Aside0.mk H
              clear H
              have p6 : 0 ≤ (x8_1 : Int) := of_decide_eq_true (by first | (with_reducible assumption) | assumption)
              have q6 : x8_1 < (a0.size : Int) := of_decide_eq_true (by first | (with_reducible assumption) | assumption)
              have hx6 := bt_at a0 x8_1
              replace p6 := eq_true p6
              replace q6 := eq_true q6
              go_wp2
              go_roundg k1
              case measure => have := HK1.out; omega
              case rel => exact ⟨(wrap64 (x8_1 + 1)), (by first | rfl | (simp; done) | (simp [*]; done) | (simp [Go.Proofs.YtbkeakeldegkeaaX.isEmpty_ne]; done)), H', ⟨by have := HK1.out; omega⟩, by repeat (first | exact Drawn0.refl _ | apply Drawn0.step)⟩
          · rw [if_neg c5] at H
            exact absurd H (by simp)
        · rw [if_neg c4] at H
          exact absurd H (by simp)
      · rw [if_neg c3] at H
        have c3b0 : decide (x8_1 < (a0.size : Int)) = false := decide_eq_false c3
        clear c3
        obtain rfl := Option.some.inj H
        go_wp2
        go_ret
        exact ⟨by first | rfl | (simp; done) | (simp [*]; done) | (simp [Go.Proofs.YtbkeakeldegkeaaX.isEmpty_ne]; done), by repeat (first | exact Drawn0.refl _ | apply Drawn0.step)⟩
end Go.Proofs.Ytbkeakeldegkeaa.Q
end
section
namespace Go.Proofs.Ytbkeakeldegkeaa.Q
open Go.RowKit Go.Proofs.YtbkeakeldegkeaaW.PrintWords Go.Proofs.YtbkeakeldegkeaaW.PrintLast Go.Proofs.YtbkeakeldegkeaaW.PrintMore
attribute [local go_sem] max2_int min2_int max_two min_two max_three min_three max_four min_four
set_option linter.unusedVariables false
set_option linter.unusedSimpArgs false
mutual
def laws_FnPathEscaped.j0 : Nat → ByteArray → Bool → Option (Bool)
  | 0, _, _ => none
  | k + 1, x0, x13 => if x13 = true then (some false) else (if x0.toList = ([] : List UInt8) then (laws_FnPathEscaped.j1 k x0 true) else (if x0.toList = ([46] : List UInt8) then (laws_FnPathEscaped.j1 k x0 true) else (if x0.toList = ([46, 46] : List UInt8) then (laws_FnPathEscaped.j1 k x0 true) else ((laws_holds.f k x0 47).bind fun t251 => (if t251 = true then (laws_FnPathEscaped.j1 k x0 true) else ((laws_short.f k (([x0] : List ByteArray))).bind fun t255 => (laws_FnPathEscaped.j1 k x0 (!t255))))))))
def laws_FnPathEscaped.j1 : Nat → ByteArray → Bool → Option (Bool)
  | 0, _, _ => none
  | k + 1, x0, x33 => if x33 = true then (some true) else ((impl_QuotedPath.f k x0).bind fun t256 => (if 1 + t256.size ≤ 9223372036854775807 then ((impl_UriOf.f (⟨#[104]⟩ : ByteArray) ((⟨#[47]⟩ : ByteArray) ++ t256)).bind fun bt257 => (if bt257.2.2.2.2.2.2.2.2 = true then (if 1 + x0.size ≤ 9223372036854775807 then (if bt257.2.2.1.toList = ((⟨#[47]⟩ : ByteArray) ++ x0).toList then (if bt257.2.2.2.2.1.toList = ([] : List UInt8) then (some (bt257.2.2.2.2.2.1.toList == ([] : List UInt8))) else (some false)) else (some false)) else (none)) else (some false))) else (none)))
end
def laws_FnPathEscaped.f (k : Nat) (a0 : ByteArray) : Option (Bool) := if (a0.size : Int) > 2147483647 then (some true) else ((impl_QuotedPath.f k (⟨#[97, 32, 98]⟩ : ByteArray)).bind fun t249 => (if t249.toList = ([] : List UInt8) then (laws_FnPathEscaped.j0 k a0 true) else ((laws_parses.f).bind fun t250 => (laws_FnPathEscaped.j0 k a0 (!t250)))))
set_option maxHeartbeats 8000000 in
set_option maxRecDepth 100000 in
theorem laws_FnPathEscaped.calls (k : Nat) (a0 : ByteArray) (r : Bool) (w : World) (h : laws_FnPathEscaped.f k a0 = some r) :
    Calls Try.prog 5 #[.string a0] w fun e w' => e = .returned (.bool r) ∧ Below w.heap.size w w' := by
  have hu27 := Try.underlying27
  have HB := Aside0.mk (Below.refl w.heap.size w)
  have H : (if (a0.size : Int) > 2147483647 then (some true) else ((impl_QuotedPath.f k (⟨#[97, 32, 98]⟩ : ByteArray)).bind fun t249 => (if t249.toList = ([] : List UInt8) then (laws_FnPathEscaped.j0 k a0 true) else ((laws_parses.f).bind fun t250 => (laws_FnPathEscaped.j0 k a0 (!t250)))))) = some r := h
  clear h
  by_cases c2 : (a0.size : Int) > 2147483647
  · rw [if_pos c2] at H
    have c2b0 : decide (2147483647 < (a0.size : Int)) = true := decide_eq_true c2
    have c2b1 : decide (2147483647 < a0.size) = true := decide_eq_true (by omega)
    clear c2
    obtain rfl := Option.some.inj H
    go_enter Try.func5, Try.ntmps5
    go_wp2
    go_ret
    exact ⟨by first | rfl | (simp [errW_none, errW_some] <;> rfl) | (simp [*, errW_none, errW_some] <;> rfl), by repeat (first | (with_reducible first | exact HB.out | apply below_alloc | apply pw_below_drewN | apply below_drew1) | exact HB.out)⟩
  · rw [if_neg c2] at H
    have c2b0 : decide (2147483647 < (a0.size : Int)) = false := decide_eq_false c2
    have c2b1 : decide (2147483647 < a0.size) = false := decide_eq_false (by omega)
    clear c2
    have HC3 := Aside0.mk H
    clear H
    go_enter Try.func5, Try.ntmps5
    go_upto_region 3 with (fail)
    go_cut [13] (fun v13 wc => ∃ (kq : Nat) (x13_2 : Bool), v13 = .bool x13_2 ∧ Aside0 (laws_FnPathEscaped.j0 kq a0 x13_2 = some r) ∧ Aside0 (kq ≤ k) ∧ Aside0 (Below w.heap.size w wc))
    case first =>
      have H := HC3.out
      clear HC3
      replace H := Option.bind_eq_some_iff.mp H
      obtain ⟨t249, A40, H⟩ := H
      replace H : (if t249.toList = ([] : List UInt8) then (laws_FnPathEscaped.j0 k a0 true) else ((laws_parses.f).bind fun t250 => (laws_FnPathEscaped.j0 k a0 (!t250)))) = some r := H
      have A4 := Aside0.mk A40
      clear A40
      by_cases c5 : t249.toList = ([] : List UInt8)
      · rw [if_pos c5] at H
        have c5b0 : (t249.toList == ([] : List UInt8)) = true := beq_iff_eq.mpr c5
        have c5b1 : (t249.toList != ([] : List UInt8)) = false := bne_eq_false_iff_eq.mpr c5
        clear c5
        (first | rw [c5b0] | (simp only [i64_w, i32_w]; rw [c5b0]) | (rw [Go.Proofs.YtbkeakeldegkeaaX.isEmpty_eq]; rw [c5b0]) | skip)
        have H' := Aside0.mk H
        clear H
        go_wp2_with (first | ((with_reducible refine gate_callee (f := 22) rfl ?_); refine goesL_ (some 8) rfl rfl Try.func22 (by kernel_rfl) rfl #[.string (⟨#[97, 32, 98]⟩ : ByteArray)] rfl (by (try simp only [List.map_toArray, List.map_cons, List.map_nil]); first | done | rfl | (simp only [List.length_drop, List.length_take]; rfl)) ?_; (with_reducible refine (impl_QuotedPath.calls k (⟨#[97, 32, 98]⟩ : ByteArray) t249 _ A4.out).mono ?_); rintro e w6 ⟨rfl, hb⟩; refine ⟨_, rfl, ?_⟩; have n0_ := Aside0.mk (below_step (by repeat (first | (with_reducible first | exact HB.out | apply below_alloc | apply pw_below_drewN | apply below_drew1) | exact HB.out)) hb); clear HB; have HB := n0_; clear n0_; (try clear hb); (try clear hb2); (try clear hk); (try clear hi)))
        go_meet
        case rel => exact ⟨_, (true), (by first | rfl | (simp; done) | (simp [*]; done) | (simp [Go.Proofs.YtbkeakeldegkeaaX.isEmpty_ne]; done)), H', ⟨by first | omega | exact Nat.le_refl _⟩, ⟨by repeat (first | (with_reducible first | exact HB.out | apply below_alloc | apply pw_below_drewN | apply below_drew1) | exact HB.out)⟩⟩
      · rw [if_neg c5] at H
        have c5b0 : (t249.toList == ([] : List UInt8)) = false := beq_eq_false_iff_ne.mpr c5
        have c5b1 : (t249.toList != ([] : List UInt8)) = true := bne_iff_ne.mpr c5
        (first | rw [c5b0] | (simp only [i64_w, i32_w]; rw [c5b0]) | (rw [Go.Proofs.YtbkeakeldegkeaaX.isEmpty_eq]; rw [c5b0]) | skip)
        replace H := Option.bind_eq_some_iff.mp H
        obtain ⟨t250, A70, H⟩ := H
        replace H : (laws_FnPathEscaped.j0 k a0 (!t250)) = some r := H
        have A7 := Aside0.mk A70
        clear A70
        have H' := Aside0.mk H
        clear H
        go_wp2_with (first | ((with_reducible refine gate_callee (f := 22) rfl ?_); refine goesL_ (some 8) rfl rfl Try.func22 (by kernel_rfl) rfl #[.string (⟨#[97, 32, 98]⟩ : ByteArray)] rfl (by (try simp only [List.map_toArray, List.map_cons, List.map_nil]); first | done | rfl | (simp only [List.length_drop, List.length_take]; rfl)) ?_; (with_reducible refine (impl_QuotedPath.calls k (⟨#[97, 32, 98]⟩ : ByteArray) t249 _ A4.out).mono ?_); rintro e w8 ⟨rfl, hb⟩; refine ⟨_, rfl, ?_⟩; have n0_ := Aside0.mk (below_step (by repeat (first | (with_reducible first | exact HB.out | apply below_alloc | apply pw_below_drewN | apply below_drew1) | exact HB.out)) hb); clear HB; have HB := n0_; clear n0_; (try clear hb); (try clear hb2); (try clear hk); (try clear hi)) | (go_at_call 12; (with_reducible refine (laws_parses.calls  t250 _ A7.out).mono ?_); rintro e w9 ⟨rfl, hb⟩; have n0_ := Aside0.mk (below_step (by repeat (first | (with_reducible first | exact HB.out | apply below_alloc | apply pw_below_drewN | apply below_drew1) | exact HB.out)) hb); clear HB; have HB := n0_; clear n0_; (try clear hb); (try clear hb2); (try clear hk); (try clear hi)))
        go_meet
        case rel => exact ⟨_, (!t250), (by first | rfl | (simp; done) | (simp [*]; done) | (simp [Go.Proofs.YtbkeakeldegkeaaX.isEmpty_ne]; done)), H', ⟨by first | omega | exact Nat.le_refl _⟩, ⟨by repeat (first | (with_reducible first | exact HB.out | apply below_alloc | apply pw_below_drewN | apply below_drew1) | exact HB.out)⟩⟩
    case rest =>
      clear HC3
      try clear c2
      try clear c2b0
      try clear c2b1
      try clear p2
      try clear c5
      try clear c5b0
      try clear c5b1
      obtain ⟨kq, x13_2, rfl, HA, HJ2, HB⟩ := hcut
      cases kq with
      | zero => exact absurd HA.out (by simp [laws_FnPathEscaped.j0])
      | succ kj2 =>
        have H := HA.out
        clear HA
        simp only [laws_FnPathEscaped.j0] at H
        by_cases c10 : x13_2 = true
        · subst c10
          have H1 : (some false) = some r := by rw [if_pos rfl] at H; exact H
          clear H
          have H := H1
          clear H1
          obtain rfl := Option.some.inj H
          go_wp2
          go_ret
          exact ⟨by first | rfl | (simp [errW_none, errW_some] <;> rfl) | (simp [*, errW_none, errW_some] <;> rfl), by repeat (first | (with_reducible first | exact HB.out | apply below_alloc | apply pw_below_drewN | apply below_drew1) | exact HB.out)⟩
        · replace c10 := Bool.eq_false_iff.mpr c10
          subst c10
          have H1 : (if a0.toList = ([] : List UInt8) then (laws_FnPathEscaped.j1 kj2 a0 true) else (if a0.toList = ([46] : List UInt8) then (laws_FnPathEscaped.j1 kj2 a0 true) else (if a0.toList = ([46, 46] : List UInt8) then (laws_FnPathEscaped.j1 kj2 a0 true) else ((laws_holds.f kj2 a0 47).bind fun t251 => (if t251 = true then (laws_FnPathEscaped.j1 kj2 a0 true) else ((laws_short.f kj2 (([a0] : List ByteArray))).bind fun t255 => (laws_FnPathEscaped.j1 kj2 a0 (!t255)))))))) = some r := by rw [if_neg (show ¬ (false = true) by decide)] at H; exact H
          clear H
          have H := H1
          clear H1
          have HC11 := Aside0.mk H
          clear H
          go_upto_region 5 with (fail)
          go_cut [33] (fun v33 wc => ∃ (kq : Nat) (x33_10 : Bool), v33 = .bool x33_10 ∧ Aside0 (laws_FnPathEscaped.j1 kq a0 x33_10 = some r) ∧ Aside0 (kq ≤ kj2) ∧ Aside0 (Below w.heap.size w wc))
          case first =>
            have H := HC11.out
            clear HC11
            by_cases c12 : a0.toList = ([] : List UInt8)
            · rw [if_pos c12] at H
              have c12b0 : (a0.toList == ([] : List UInt8)) = true := beq_iff_eq.mpr c12
              have c12b1 : (a0.toList != ([] : List UInt8)) = false := bne_eq_false_iff_eq.mpr c12
              clear c12
              (first | rw [c12b0] | (simp only [i64_w, i32_w]; rw [c12b0]) | (rw [Go.Proofs.YtbkeakeldegkeaaX.isEmpty_eq]; rw [c12b0]) | skip)
              have H' := Aside0.mk H
              clear H
              go_wp2
              go_meet
              case rel => exact ⟨_, (true), (by first | rfl | (simp; done) | (simp [*]; done) | (simp [Go.Proofs.YtbkeakeldegkeaaX.isEmpty_ne]; done)), H', ⟨by have := HJ2.out; first | omega | exact Nat.le_refl _⟩, ⟨by repeat (first | (with_reducible first | exact HB.out | apply below_alloc | apply pw_below_drewN | apply below_drew1) | exact HB.out)⟩⟩
            · rw [if_neg c12] at H
              have c12b0 : (a0.toList == ([] : List UInt8)) = false := beq_eq_false_iff_ne.mpr c12
              have c12b1 : (a0.toList != ([] : List UInt8)) = true := bne_iff_ne.mpr c12
              (first | rw [c12b0] | (simp only [i64_w, i32_w]; rw [c12b0]) | (rw [Go.Proofs.YtbkeakeldegkeaaX.isEmpty_eq]; rw [c12b0]) | skip)
              by_cases c13 : a0.toList = ([46] : List UInt8)
              · rw [if_pos c13] at H
                have c13b0 : (a0.toList == ([46] : List UInt8)) = true := beq_iff_eq.mpr c13
                have c13b1 : (a0.toList != ([46] : List UInt8)) = false := bne_eq_false_iff_eq.mpr c13
                clear c13
                have H' := Aside0.mk H
                clear H
                go_wp2
                go_meet
                case rel => exact ⟨_, (true), (by first | rfl | (simp; done) | (simp [*]; done) | (simp [Go.Proofs.YtbkeakeldegkeaaX.isEmpty_ne]; done)), H', ⟨by have := HJ2.out; first | omega | exact Nat.le_refl _⟩, ⟨by repeat (first | (with_reducible first | exact HB.out | apply below_alloc | apply pw_below_drewN | apply below_drew1) | exact HB.out)⟩⟩
              · rw [if_neg c13] at H
                have c13b0 : (a0.toList == ([46] : List UInt8)) = false := beq_eq_false_iff_ne.mpr c13
                have c13b1 : (a0.toList != ([46] : List UInt8)) = true := bne_iff_ne.mpr c13
                by_cases c14 : a0.toList = ([46, 46] : List UInt8)
                · rw [if_pos c14] at H
                  have c14b0 : (a0.toList == ([46, 46] : List UInt8)) = true := beq_iff_eq.mpr c14
                  have c14b1 : (a0.toList != ([46, 46] : List UInt8)) = false := bne_eq_false_iff_eq.mpr c14
                  clear c14
                  have H' := Aside0.mk H
                  clear H
                  go_wp2
                  go_meet
                  case rel => exact ⟨_, (true), (by first | rfl | (simp; done) | (simp [*]; done) | (simp [Go.Proofs.YtbkeakeldegkeaaX.isEmpty_ne]; done)), H', ⟨by have := HJ2.out; first | omega | exact Nat.le_refl _⟩, ⟨by repeat (first | (with_reducible first | exact HB.out | apply below_alloc | apply pw_below_drewN | apply below_drew1) | exact HB.out)⟩⟩
                · rw [if_neg c14] at H
                  have c14b0 : (a0.toList == ([46, 46] : List UInt8)) = false := beq_eq_false_iff_ne.mpr c14
                  have c14b1 : (a0.toList != ([46, 46] : List UInt8)) = true := bne_iff_ne.mpr c14
                  replace H := Option.bind_eq_some_iff.mp H
                  obtain ⟨t251, A150, H⟩ := H
                  replace H : (if t251 = true then (laws_FnPathEscaped.j1 kj2 a0 true) else ((laws_short.f kj2 (([a0] : List ByteArray))).bind fun t255 => (laws_FnPathEscaped.j1 kj2 a0 (!t255)))) = some r := H
                  have A15 := Aside0.mk A150
                  clear A150
                  by_cases c16 : t251 = true
                  · subst c16
                    have H1 : (laws_FnPathEscaped.j1 kj2 a0 true) = some r := by rw [if_pos rfl] at H; exact H
                    clear H
                    have H := H1
                    clear H1
                    have H' := Aside0.mk H
                    clear H
                    go_wp2_with (first | (go_at_call 20; (with_reducible refine (laws_holds.calls kj2 a0 47 true _ A15.out).mono ?_); rintro e w' ⟨rfl, ⟨nd, rfl⟩⟩))
                    go_meet
                    case rel => exact ⟨_, (true), (by first | rfl | (simp; done) | (simp [*]; done) | (simp [Go.Proofs.YtbkeakeldegkeaaX.isEmpty_ne]; done)), H', ⟨by have := HJ2.out; first | omega | exact Nat.le_refl _⟩, ⟨by repeat (first | (with_reducible first | exact HB.out | apply below_alloc | apply pw_below_drewN | apply below_drew1) | exact HB.out)⟩⟩
                  · replace c16 := Bool.eq_false_iff.mpr c16
                    subst c16
                    have H1 : ((laws_short.f kj2 (([a0] : List ByteArray))).bind fun t255 => (laws_FnPathEscaped.j1 kj2 a0 (!t255))) = some r := by rw [if_neg (show ¬ (false = true) by decide)] at H; exact H
                    clear H
                    have H := H1
                    clear H1
                    obtain ⟨y252, hy252⟩ : ∃ y_ : List ByteArray, y_ = (([a0] : List ByteArray)) := ⟨_, rfl⟩
                    replace H : ((laws_short.f kj2 y252).bind fun t255 => (laws_FnPathEscaped.j1 kj2 a0 (!t255))) = some r := by first | (rw [hy252]; with_reducible exact H) | (have H2_ := (Option.bind_some _ _).symm.trans H; rw [hy252]; with_reducible exact H2_) | (have H2_ := (Option.bind_some _ _).symm.trans H; with_reducible exact H2_) | with_reducible exact H | (rw [hy252]; exact H) | exact H
                    have Ny252 := Aside0.mk hy252
                    clear hy252
                    replace H := Option.bind_eq_some_iff.mp H
                    obtain ⟨t255, A170, H⟩ := H
                    replace H : (laws_FnPathEscaped.j1 kj2 a0 (!t255)) = some r := H
                    have A17 := Aside0.mk A170
                    clear A170
                    have H' := Aside0.mk H
                    clear H
                    go_wp2_with (first | (go_at_call 20; (with_reducible refine (laws_holds.calls kj2 a0 47 false _ A15.out).mono ?_); rintro e w' ⟨rfl, ⟨nd, rfl⟩⟩) | ((with_reducible refine gate_dst (N := 30) rfl ?_); (try (refine gate_guard (by rfl) ?_; dsimp only)); refine Kd.R_lit Kd.string _ 9 ?hg (N := 30) ?hd (xs := ([a0] : List ByteArray)) (inner := [.string a0]) (ok := fun _ => True) (okp := fun _ => True) ?hr ?hp (fun _ hk => hk) trivial (Below.refl _ _) (Nat.le_refl _) (by simp) ?_; (case hd => rfl); (case hg => rfl); (case hr => first | (go_simp; done) | (go_simp; rfl)); (case hp => exact (Reps.one (show Kd.M Kd.string _ _ _ a0 [.string a0] from rfl) (Reps.none _ _))); intro v253 w18 ho19 hb hg_ hnew_; clear hg_ hnew_; (first | rw [← Ny252.out] at ho19 | (simp only [Int.reduceToNat] at ho19; rw [← Ny252.out] at ho19)); have n0_ := Aside0.mk (Kd.R_lower ho19 (below_size (by repeat (first | (with_reducible first | exact HB.out | apply below_alloc | apply pw_below_drewN | apply below_drew1) | exact HB.out)))); have n1_ := Aside0.mk (below_step (by repeat (first | (with_reducible first | exact HB.out | apply below_alloc | apply pw_below_drewN | apply below_drew1) | exact HB.out)) hb); clear HB; have HO254 := n0_; have HB := n1_; clear n0_ n1_; clear hb ho19; obtain ⟨Ao20, co20, eo20⟩ := Kd.R_slice HO254.out; subst eo20) | (go_at_call 14; (with_reducible refine (laws_short.calls kj2 _ _ y252 t255 _ ?side1 ?side2 A17.out).mono ?_); (case side1 => repeat (first | exact (Kd.R_reads' HO254.out).2.2 | (with_reducible refine Kd.C_alloc ?_ _) | (with_reducible refine Kd.C_drewN ?_ _) | (with_reducible refine Kd.C_drew ?_))); (case side2 => exact (Kd.R_reads' HO254.out).2.1); rintro e w' ⟨rfl, ⟨nd, rfl⟩⟩))
                    go_meet
                    case rel => exact ⟨_, (!t255), (by first | rfl | (simp; done) | (simp [*]; done) | (simp [Go.Proofs.YtbkeakeldegkeaaX.isEmpty_ne]; done)), H', ⟨by have := HJ2.out; first | omega | exact Nat.le_refl _⟩, ⟨by repeat (first | (with_reducible first | exact HB.out | apply below_alloc | apply pw_below_drewN | apply below_drew1) | exact HB.out)⟩⟩
          case rest =>
            clear HC11
            try clear c1
            try clear c2
            try clear c2b0
            try clear c2b1
            try clear p2
            try clear c5
            try clear c5b0
            try clear c5b1
            try clear c10
            try clear c12
            try clear c12b0
            try clear c12b1
            try clear c13
            try clear c13b0
            try clear c13b1
            try clear c14
            try clear c14b0
            try clear c14b1
            try clear c16
            try clear p2
            obtain ⟨kq, x33_10, rfl, HA, HJ10, HB⟩ := hcut
            cases kq with
            | zero => exact absurd HA.out (by simp [laws_FnPathEscaped.j1])
            | succ kj10 =>
              have H := HA.out
              clear HA
              simp only [laws_FnPathEscaped.j1] at H
              by_cases c21 : x33_10 = true
              · subst c21
                have H1 : (some true) = some r := by rw [if_pos rfl] at H; exact H
                clear H
                have H := H1
                clear H1
                obtain rfl := Option.some.inj H
                go_wp2
                go_ret
                exact ⟨by first | rfl | (simp [errW_none, errW_some] <;> rfl) | (simp [*, errW_none, errW_some] <;> rfl), by repeat (first | (with_reducible first | exact HB.out | apply below_alloc | apply pw_below_drewN | apply below_drew1) | exact HB.out)⟩
              · replace c21 := Bool.eq_false_iff.mpr c21
                subst c21
                have H1 : ((impl_QuotedPath.f kj10 a0).bind fun t256 => (if 1 + t256.size ≤ 9223372036854775807 then ((impl_UriOf.f (⟨#[104]⟩ : ByteArray) ((⟨#[47]⟩ : ByteArray) ++ t256)).bind fun bt257 => (if bt257.2.2.2.2.2.2.2.2 = true then (if 1 + a0.size ≤ 9223372036854775807 then (if bt257.2.2.1.toList = ((⟨#[47]⟩ : ByteArray) ++ a0).toList then (if bt257.2.2.2.2.1.toList = ([] : List UInt8) then (some (bt257.2.2.2.2.2.1.toList == ([] : List UInt8))) else (some false)) else (some false)) else (none)) else (some false))) else (none))) = some r := by rw [if_neg (show ¬ (false = true) by decide)] at H; exact H
                clear H
                have H := H1
                clear H1
                replace H := Option.bind_eq_some_iff.mp H
                obtain ⟨t256, A220, H⟩ := H
                replace H : (if 1 + t256.size ≤ 9223372036854775807 then ((impl_UriOf.f (⟨#[104]⟩ : ByteArray) ((⟨#[47]⟩ : ByteArray) ++ t256)).bind fun bt257 => (if bt257.2.2.2.2.2.2.2.2 = true then (if 1 + a0.size ≤ 9223372036854775807 then (if bt257.2.2.1.toList = ((⟨#[47]⟩ : ByteArray) ++ a0).toList then (if bt257.2.2.2.2.1.toList = ([] : List UInt8) then (some (bt257.2.2.2.2.2.1.toList == ([] : List UInt8))) else (some false)) else (some false)) else (none)) else (some false))) else (none)) = some r := H
                have A22 := Aside0.mk A220
                clear A220
                by_cases c23 : 1 + t256.size ≤ 9223372036854775807
                · rw [if_pos c23] at H
                  have c23b0 := eq_true c23
                  have c23b1 : decide (1 + t256.size ≤ 9223372036854775807) = true := decide_eq_true c23
                  try have c23b2 : (9223372036854775807 < 1 + t256.size) = False := eq_false (Nat.not_lt.2 c23)
                  replace H := Option.bind_eq_some_iff.mp H
                  obtain ⟨⟨t257, t258, t259, t260, t261, t262, t263, t264, t265⟩, A240, H⟩ := H
                  replace H : (if t265 = true then (if 1 + a0.size ≤ 9223372036854775807 then (if t259.toList = ((⟨#[47]⟩ : ByteArray) ++ a0).toList then (if t261.toList = ([] : List UInt8) then (some (t262.toList == ([] : List UInt8))) else (some false)) else (some false)) else (none)) else (some false)) = some r := H
                  have A24 := Aside0.mk A240
                  clear A240
                  by_cases c25 : t265 = true
                  · subst c25
                    have H1 : (if 1 + a0.size ≤ 9223372036854775807 then (if t259.toList = ((⟨#[47]⟩ : ByteArray) ++ a0).toList then (if t261.toList = ([] : List UInt8) then (some (t262.toList == ([] : List UInt8))) else (some false)) else (some false)) else (none)) = some r := by rw [if_pos rfl] at H; exact H
                    clear H
                    have H := H1
                    clear H1
                    by_cases c26 : 1 + a0.size ≤ 9223372036854775807
                    · rw [if_pos c26] at H
                      have c26b0 := eq_true c26
                      have c26b1 : decide (1 + a0.size ≤ 9223372036854775807) = true := decide_eq_true c26
                      try have c26b2 : (9223372036854775807 < 1 + a0.size) = False := eq_false (Nat.not_lt.2 c26)
                      by_cases c27 : t259.toList = ((⟨#[47]⟩ : ByteArray) ++ a0).toList
                      · rw [if_pos c27] at H
                        have c27b0 : (t259.toList == ((⟨#[47]⟩ : ByteArray) ++ a0).toList) = true := beq_iff_eq.mpr c27
                        have c27b1 : (t259.toList != ((⟨#[47]⟩ : ByteArray) ++ a0).toList) = false := bne_eq_false_iff_eq.mpr c27
                        clear c27
                        by_cases c28 : t261.toList = ([] : List UInt8)
                        · rw [if_pos c28] at H
                          have c28b0 : (t261.toList == ([] : List UInt8)) = true := beq_iff_eq.mpr c28
                          have c28b1 : (t261.toList != ([] : List UInt8)) = false := bne_eq_false_iff_eq.mpr c28
                          clear c28
                          obtain rfl := Option.some.inj H
                          go_wp2_with (first | ((with_reducible refine gate_callee (f := 22) rfl ?_); refine goesL_ (some 36) rfl rfl Try.func22 (by kernel_rfl) rfl #[.string a0] rfl (by (try simp only [List.map_toArray, List.map_cons, List.map_nil]); first | done | rfl | (simp only [List.length_drop, List.length_take]; rfl)) ?_; (with_reducible refine (impl_QuotedPath.calls kj10 a0 t256 _ A22.out).mono ?_); rintro e w29 ⟨rfl, hb⟩; refine ⟨_, rfl, ?_⟩; have n0_ := Aside0.mk (below_step (by repeat (first | (with_reducible first | exact HB.out | apply below_alloc | apply pw_below_drewN | apply below_drew1) | exact HB.out)) hb); clear HB; have HB := n0_; clear n0_; (try clear hb); (try clear hb2); (try clear hk); (try clear hi)) | ((with_reducible refine gate_callee (f := 18) rfl ?_); refine goesL_ (some 38) rfl rfl Try.func18 (by kernel_rfl) rfl #[.string (⟨#[104]⟩ : ByteArray), .string ((⟨#[47]⟩ : ByteArray) ++ t256)] rfl (by (try simp only [List.map_toArray, List.map_cons, List.map_nil]); first | done | rfl | (simp only [List.length_drop, List.length_take]; rfl)) ?_; (with_reducible refine (impl_UriOf.calls (⟨#[104]⟩ : ByteArray) ((⟨#[47]⟩ : ByteArray) ++ t256) t257 t258 t259 t260 t261 t262 t263 t264 true _ A24.out).mono ?_); rintro e w30 ⟨rfl, hb⟩; refine ⟨_, rfl, ?_⟩; have n0_ := Aside0.mk (below_step (by repeat (first | (with_reducible first | exact HB.out | apply below_alloc | apply pw_below_drewN | apply below_drew1) | exact HB.out)) hb); clear HB; have HB := n0_; clear n0_; (try clear hb); (try clear hb2); (try clear hk); (try clear hi)) | ((with_reducible refine gate_dst (N := 3) rfl ?_); (try (refine gate_guard (by rfl) ?_; dsimp only)); refine box_event ?hg (N := 3) ?hd (cs := #[.string (⟨#[]⟩ : ByteArray), .string (⟨#[]⟩ : ByteArray), .string (⟨#[]⟩ : ByteArray), .string (⟨#[]⟩ : ByteArray), .string (⟨#[]⟩ : ByteArray), .string (⟨#[]⟩ : ByteArray), .string (⟨#[]⟩ : ByteArray), .string (⟨#[]⟩ : ByteArray)]) (t := 27) ?hr ?_; (case hd => rfl); (case hg => rfl); (case hr => first | (go_simp; done) | (go_simp; rfl)); intro gb266 hg w31 hbox hb; have n0_ := Aside0.mk (below_step (by repeat (first | (with_reducible first | exact HB.out | apply below_alloc | apply pw_below_drewN | apply below_drew1) | exact HB.out)) hb); have n1_ := Aside0.mk (hbox); have n2_ := Aside0.mk ((by rw [hg]; exact (below_size (by repeat (first | (with_reducible first | exact HB.out | apply below_alloc | apply pw_below_drewN | apply below_drew1) | exact HB.out))) : w.heap.size ≤ gb266)); have n3_ := Aside0.mk ((by rw [hg]; exact (below_size (by repeat (first | (with_reducible first | exact HB.out | apply below_alloc | apply pw_below_drewN | apply below_drew1) | exact HB.out))) : w.heap.size ≤ gb266)); clear HB; have HB := n0_; have BK266 := n1_; have GW266 := n2_; have GE266 := n3_; clear n0_ n1_ n2_ n3_; clear hb hbox hg; have hcz32_0 : w31.cell? ⟨gb266, 0, none⟩ = some (.string (⟨#[]⟩ : ByteArray)) := (blk_cell BK266.out 0).trans rfl; have hcz32_1 : w31.cell? ⟨gb266, 1, none⟩ = some (.string (⟨#[]⟩ : ByteArray)) := (blk_cell BK266.out 1).trans rfl; have hcz32_2 : w31.cell? ⟨gb266, 2, none⟩ = some (.string (⟨#[]⟩ : ByteArray)) := (blk_cell BK266.out 2).trans rfl; have hcz32_3 : w31.cell? ⟨gb266, 3, none⟩ = some (.string (⟨#[]⟩ : ByteArray)) := (blk_cell BK266.out 3).trans rfl; have hcz32_4 : w31.cell? ⟨gb266, 4, none⟩ = some (.string (⟨#[]⟩ : ByteArray)) := (blk_cell BK266.out 4).trans rfl; have hcz32_5 : w31.cell? ⟨gb266, 5, none⟩ = some (.string (⟨#[]⟩ : ByteArray)) := (blk_cell BK266.out 5).trans rfl; have hcz32_6 : w31.cell? ⟨gb266, 6, none⟩ = some (.string (⟨#[]⟩ : ByteArray)) := (blk_cell BK266.out 6).trans rfl; have hcz32_7 : w31.cell? ⟨gb266, 7, none⟩ = some (.string (⟨#[]⟩ : ByteArray)) := (blk_cell BK266.out 7).trans rfl; have hfz32_0 := blk_frozen BK266.out 0; have hfz32_1 := blk_frozen BK266.out 1; have hfz32_2 := blk_frozen BK266.out 2; have hfz32_3 := blk_frozen BK266.out 3; have hfz32_4 := blk_frozen BK266.out 4; have hfz32_5 := blk_frozen BK266.out 5; have hfz32_6 := blk_frozen BK266.out 6; have hfz32_7 := blk_frozen BK266.out 7))
                          any_goals (try (exfalso; have zc23b1 := of_decide_eq_true c23b1; have zc26b1 := of_decide_eq_true c26b1; omega))
                          go_ret
                          exact ⟨by first | rfl | (simp [errW_none, errW_some] <;> rfl) | (simp [*, errW_none, errW_some] <;> rfl), by repeat (first | (with_reducible first | exact HB.out | apply below_alloc | apply pw_below_drewN | apply below_drew1 | refine below_set ?_ GE266.out) | exact HB.out)⟩
                        · rw [if_neg c28] at H
                          have c28b0 : (t261.toList == ([] : List UInt8)) = false := beq_eq_false_iff_ne.mpr c28
                          have c28b1 : (t261.toList != ([] : List UInt8)) = true := bne_iff_ne.mpr c28
                          obtain rfl := Option.some.inj H
                          go_wp2_with (first | ((with_reducible refine gate_callee (f := 22) rfl ?_); refine goesL_ (some 36) rfl rfl Try.func22 (by kernel_rfl) rfl #[.string a0] rfl (by (try simp only [List.map_toArray, List.map_cons, List.map_nil]); first | done | rfl | (simp only [List.length_drop, List.length_take]; rfl)) ?_; (with_reducible refine (impl_QuotedPath.calls kj10 a0 t256 _ A22.out).mono ?_); rintro e w33 ⟨rfl, hb⟩; refine ⟨_, rfl, ?_⟩; have n0_ := Aside0.mk (below_step (by repeat (first | (with_reducible first | exact HB.out | apply below_alloc | apply pw_below_drewN | apply below_drew1) | exact HB.out)) hb); clear HB; have HB := n0_; clear n0_; (try clear hb); (try clear hb2); (try clear hk); (try clear hi)) | ((with_reducible refine gate_callee (f := 18) rfl ?_); refine goesL_ (some 38) rfl rfl Try.func18 (by kernel_rfl) rfl #[.string (⟨#[104]⟩ : ByteArray), .string ((⟨#[47]⟩ : ByteArray) ++ t256)] rfl (by (try simp only [List.map_toArray, List.map_cons, List.map_nil]); first | done | rfl | (simp only [List.length_drop, List.length_take]; rfl)) ?_; (with_reducible refine (impl_UriOf.calls (⟨#[104]⟩ : ByteArray) ((⟨#[47]⟩ : ByteArray) ++ t256) t257 t258 t259 t260 t261 t262 t263 t264 true _ A24.out).mono ?_); rintro e w34 ⟨rfl, hb⟩; refine ⟨_, rfl, ?_⟩; have n0_ := Aside0.mk (below_step (by repeat (first | (with_reducible first | exact HB.out | apply below_alloc | apply pw_below_drewN | apply below_drew1) | exact HB.out)) hb); clear HB; have HB := n0_; clear n0_; (try clear hb); (try clear hb2); (try clear hk); (try clear hi)) | ((with_reducible refine gate_dst (N := 3) rfl ?_); (try (refine gate_guard (by rfl) ?_; dsimp only)); refine box_event ?hg (N := 3) ?hd (cs := #[.string (⟨#[]⟩ : ByteArray), .string (⟨#[]⟩ : ByteArray), .string (⟨#[]⟩ : ByteArray), .string (⟨#[]⟩ : ByteArray), .string (⟨#[]⟩ : ByteArray), .string (⟨#[]⟩ : ByteArray), .string (⟨#[]⟩ : ByteArray), .string (⟨#[]⟩ : ByteArray)]) (t := 27) ?hr ?_; (case hd => rfl); (case hg => rfl); (case hr => first | (go_simp; done) | (go_simp; rfl)); intro gb266 hg w35 hbox hb; have n0_ := Aside0.mk (below_step (by repeat (first | (with_reducible first | exact HB.out | apply below_alloc | apply pw_below_drewN | apply below_drew1) | exact HB.out)) hb); have n1_ := Aside0.mk (hbox); have n2_ := Aside0.mk ((by rw [hg]; exact (below_size (by repeat (first | (with_reducible first | exact HB.out | apply below_alloc | apply pw_below_drewN | apply below_drew1) | exact HB.out))) : w.heap.size ≤ gb266)); have n3_ := Aside0.mk ((by rw [hg]; exact (below_size (by repeat (first | (with_reducible first | exact HB.out | apply below_alloc | apply pw_below_drewN | apply below_drew1) | exact HB.out))) : w.heap.size ≤ gb266)); clear HB; have HB := n0_; have BK266 := n1_; have GW266 := n2_; have GE266 := n3_; clear n0_ n1_ n2_ n3_; clear hb hbox hg; have hcz36_0 : w35.cell? ⟨gb266, 0, none⟩ = some (.string (⟨#[]⟩ : ByteArray)) := (blk_cell BK266.out 0).trans rfl; have hcz36_1 : w35.cell? ⟨gb266, 1, none⟩ = some (.string (⟨#[]⟩ : ByteArray)) := (blk_cell BK266.out 1).trans rfl; have hcz36_2 : w35.cell? ⟨gb266, 2, none⟩ = some (.string (⟨#[]⟩ : ByteArray)) := (blk_cell BK266.out 2).trans rfl; have hcz36_3 : w35.cell? ⟨gb266, 3, none⟩ = some (.string (⟨#[]⟩ : ByteArray)) := (blk_cell BK266.out 3).trans rfl; have hcz36_4 : w35.cell? ⟨gb266, 4, none⟩ = some (.string (⟨#[]⟩ : ByteArray)) := (blk_cell BK266.out 4).trans rfl; have hcz36_5 : w35.cell? ⟨gb266, 5, none⟩ = some (.string (⟨#[]⟩ : ByteArray)) := (blk_cell BK266.out 5).trans rfl; have hcz36_6 : w35.cell? ⟨gb266, 6, none⟩ = some (.string (⟨#[]⟩ : ByteArray)) := (blk_cell BK266.out 6).trans rfl; have hcz36_7 : w35.cell? ⟨gb266, 7, none⟩ = some (.string (⟨#[]⟩ : ByteArray)) := (blk_cell BK266.out 7).trans rfl; have hfz36_0 := blk_frozen BK266.out 0; have hfz36_1 := blk_frozen BK266.out 1; have hfz36_2 := blk_frozen BK266.out 2; have hfz36_3 := blk_frozen BK266.out 3; have hfz36_4 := blk_frozen BK266.out 4; have hfz36_5 := blk_frozen BK266.out 5; have hfz36_6 := blk_frozen BK266.out 6; have hfz36_7 := blk_frozen BK266.out 7))
                          any_goals (try (exfalso; have zc23b1 := of_decide_eq_true c23b1; have zc26b1 := of_decide_eq_true c26b1; omega))
                          go_ret
                          exact ⟨by first | rfl | (simp [errW_none, errW_some] <;> rfl) | (simp [*, errW_none, errW_some] <;> rfl), by repeat (first | (with_reducible first | exact HB.out | apply below_alloc | apply pw_below_drewN | apply below_drew1 | refine below_set ?_ GE266.out) | exact HB.out)⟩
                      · rw [if_neg c27] at H
                        have c27b0 : (t259.toList == ((⟨#[47]⟩ : ByteArray) ++ a0).toList) = false := beq_eq_false_iff_ne.mpr c27
                        have c27b1 : (t259.toList != ((⟨#[47]⟩ : ByteArray) ++ a0).toList) = true := bne_iff_ne.mpr c27
                        obtain rfl := Option.some.inj H
                        go_wp2_with (first | ((with_reducible refine gate_callee (f := 22) rfl ?_); refine goesL_ (some 36) rfl rfl Try.func22 (by kernel_rfl) rfl #[.string a0] rfl (by (try simp only [List.map_toArray, List.map_cons, List.map_nil]); first | done | rfl | (simp only [List.length_drop, List.length_take]; rfl)) ?_; (with_reducible refine (impl_QuotedPath.calls kj10 a0 t256 _ A22.out).mono ?_); rintro e w37 ⟨rfl, hb⟩; refine ⟨_, rfl, ?_⟩; have n0_ := Aside0.mk (below_step (by repeat (first | (with_reducible first | exact HB.out | apply below_alloc | apply pw_below_drewN | apply below_drew1) | exact HB.out)) hb); clear HB; have HB := n0_; clear n0_; (try clear hb); (try clear hb2); (try clear hk); (try clear hi)) | ((with_reducible refine gate_callee (f := 18) rfl ?_); refine goesL_ (some 38) rfl rfl Try.func18 (by kernel_rfl) rfl #[.string (⟨#[104]⟩ : ByteArray), .string ((⟨#[47]⟩ : ByteArray) ++ t256)] rfl (by (try simp only [List.map_toArray, List.map_cons, List.map_nil]); first | done | rfl | (simp only [List.length_drop, List.length_take]; rfl)) ?_; (with_reducible refine (impl_UriOf.calls (⟨#[104]⟩ : ByteArray) ((⟨#[47]⟩ : ByteArray) ++ t256) t257 t258 t259 t260 t261 t262 t263 t264 true _ A24.out).mono ?_); rintro e w38 ⟨rfl, hb⟩; refine ⟨_, rfl, ?_⟩; have n0_ := Aside0.mk (below_step (by repeat (first | (with_reducible first | exact HB.out | apply below_alloc | apply pw_below_drewN | apply below_drew1) | exact HB.out)) hb); clear HB; have HB := n0_; clear n0_; (try clear hb); (try clear hb2); (try clear hk); (try clear hi)) | ((with_reducible refine gate_dst (N := 3) rfl ?_); (try (refine gate_guard (by rfl) ?_; dsimp only)); refine box_event ?hg (N := 3) ?hd (cs := #[.string (⟨#[]⟩ : ByteArray), .string (⟨#[]⟩ : ByteArray), .string (⟨#[]⟩ : ByteArray), .string (⟨#[]⟩ : ByteArray), .string (⟨#[]⟩ : ByteArray), .string (⟨#[]⟩ : ByteArray), .string (⟨#[]⟩ : ByteArray), .string (⟨#[]⟩ : ByteArray)]) (t := 27) ?hr ?_; (case hd => rfl); (case hg => rfl); (case hr => first | (go_simp; done) | (go_simp; rfl)); intro gb266 hg w39 hbox hb; have n0_ := Aside0.mk (below_step (by repeat (first | (with_reducible first | exact HB.out | apply below_alloc | apply pw_below_drewN | apply below_drew1) | exact HB.out)) hb); have n1_ := Aside0.mk (hbox); have n2_ := Aside0.mk ((by rw [hg]; exact (below_size (by repeat (first | (with_reducible first | exact HB.out | apply below_alloc | apply pw_below_drewN | apply below_drew1) | exact HB.out))) : w.heap.size ≤ gb266)); have n3_ := Aside0.mk ((by rw [hg]; exact (below_size (by repeat (first | (with_reducible first | exact HB.out | apply below_alloc | apply pw_below_drewN | apply below_drew1) | exact HB.out))) : w.heap.size ≤ gb266)); clear HB; have HB := n0_; have BK266 := n1_; have GW266 := n2_; have GE266 := n3_; clear n0_ n1_ n2_ n3_; clear hb hbox hg; have hcz40_0 : w39.cell? ⟨gb266, 0, none⟩ = some (.string (⟨#[]⟩ : ByteArray)) := (blk_cell BK266.out 0).trans rfl; have hcz40_1 : w39.cell? ⟨gb266, 1, none⟩ = some (.string (⟨#[]⟩ : ByteArray)) := (blk_cell BK266.out 1).trans rfl; have hcz40_2 : w39.cell? ⟨gb266, 2, none⟩ = some (.string (⟨#[]⟩ : ByteArray)) := (blk_cell BK266.out 2).trans rfl; have hcz40_3 : w39.cell? ⟨gb266, 3, none⟩ = some (.string (⟨#[]⟩ : ByteArray)) := (blk_cell BK266.out 3).trans rfl; have hcz40_4 : w39.cell? ⟨gb266, 4, none⟩ = some (.string (⟨#[]⟩ : ByteArray)) := (blk_cell BK266.out 4).trans rfl; have hcz40_5 : w39.cell? ⟨gb266, 5, none⟩ = some (.string (⟨#[]⟩ : ByteArray)) := (blk_cell BK266.out 5).trans rfl; have hcz40_6 : w39.cell? ⟨gb266, 6, none⟩ = some (.string (⟨#[]⟩ : ByteArray)) := (blk_cell BK266.out 6).trans rfl; have hcz40_7 : w39.cell? ⟨gb266, 7, none⟩ = some (.string (⟨#[]⟩ : ByteArray)) := (blk_cell BK266.out 7).trans rfl; have hfz40_0 := blk_frozen BK266.out 0; have hfz40_1 := blk_frozen BK266.out 1; have hfz40_2 := blk_frozen BK266.out 2; have hfz40_3 := blk_frozen BK266.out 3; have hfz40_4 := blk_frozen BK266.out 4; have hfz40_5 := blk_frozen BK266.out 5; have hfz40_6 := blk_frozen BK266.out 6; have hfz40_7 := blk_frozen BK266.out 7))
                        any_goals (try (exfalso; have zc23b1 := of_decide_eq_true c23b1; have zc26b1 := of_decide_eq_true c26b1; omega))
                        go_ret
                        exact ⟨by first | rfl | (simp [errW_none, errW_some] <;> rfl) | (simp [*, errW_none, errW_some] <;> rfl), by repeat (first | (with_reducible first | exact HB.out | apply below_alloc | apply pw_below_drewN | apply below_drew1 | refine below_set ?_ GE266.out) | exact HB.out)⟩
                    · rw [if_neg c26] at H
                      exact absurd H (by simp)
                  · replace c25 := Bool.eq_false_iff.mpr c25
                    subst c25
                    have H1 : (some false) = some r := by rw [if_neg (show ¬ (false = true) by decide)] at H; exact H
                    clear H
                    have H := H1
                    clear H1
                    obtain rfl := Option.some.inj H
                    go_wp2_with (first | ((with_reducible refine gate_callee (f := 22) rfl ?_); refine goesL_ (some 36) rfl rfl Try.func22 (by kernel_rfl) rfl #[.string a0] rfl (by (try simp only [List.map_toArray, List.map_cons, List.map_nil]); first | done | rfl | (simp only [List.length_drop, List.length_take]; rfl)) ?_; (with_reducible refine (impl_QuotedPath.calls kj10 a0 t256 _ A22.out).mono ?_); rintro e w41 ⟨rfl, hb⟩; refine ⟨_, rfl, ?_⟩; have n0_ := Aside0.mk (below_step (by repeat (first | (with_reducible first | exact HB.out | apply below_alloc | apply pw_below_drewN | apply below_drew1) | exact HB.out)) hb); clear HB; have HB := n0_; clear n0_; (try clear hb); (try clear hb2); (try clear hk); (try clear hi)) | ((with_reducible refine gate_callee (f := 18) rfl ?_); refine goesL_ (some 38) rfl rfl Try.func18 (by kernel_rfl) rfl #[.string (⟨#[104]⟩ : ByteArray), .string ((⟨#[47]⟩ : ByteArray) ++ t256)] rfl (by (try simp only [List.map_toArray, List.map_cons, List.map_nil]); first | done | rfl | (simp only [List.length_drop, List.length_take]; rfl)) ?_; (with_reducible refine (impl_UriOf.calls (⟨#[104]⟩ : ByteArray) ((⟨#[47]⟩ : ByteArray) ++ t256) t257 t258 t259 t260 t261 t262 t263 t264 false _ A24.out).mono ?_); rintro e w42 ⟨rfl, hb⟩; refine ⟨_, rfl, ?_⟩; have n0_ := Aside0.mk (below_step (by repeat (first | (with_reducible first | exact HB.out | apply below_alloc | apply pw_below_drewN | apply below_drew1) | exact HB.out)) hb); clear HB; have HB := n0_; clear n0_; (try clear hb); (try clear hb2); (try clear hk); (try clear hi)) | ((with_reducible refine gate_dst (N := 3) rfl ?_); (try (refine gate_guard (by rfl) ?_; dsimp only)); refine box_event ?hg (N := 3) ?hd (cs := #[.string (⟨#[]⟩ : ByteArray), .string (⟨#[]⟩ : ByteArray), .string (⟨#[]⟩ : ByteArray), .string (⟨#[]⟩ : ByteArray), .string (⟨#[]⟩ : ByteArray), .string (⟨#[]⟩ : ByteArray), .string (⟨#[]⟩ : ByteArray), .string (⟨#[]⟩ : ByteArray)]) (t := 27) ?hr ?_; (case hd => rfl); (case hg => rfl); (case hr => first | (go_simp; done) | (go_simp; rfl)); intro gb266 hg w43 hbox hb; have n0_ := Aside0.mk (below_step (by repeat (first | (with_reducible first | exact HB.out | apply below_alloc | apply pw_below_drewN | apply below_drew1) | exact HB.out)) hb); have n1_ := Aside0.mk (hbox); have n2_ := Aside0.mk ((by rw [hg]; exact (below_size (by repeat (first | (with_reducible first | exact HB.out | apply below_alloc | apply pw_below_drewN | apply below_drew1) | exact HB.out))) : w.heap.size ≤ gb266)); have n3_ := Aside0.mk ((by rw [hg]; exact (below_size (by repeat (first | (with_reducible first | exact HB.out | apply below_alloc | apply pw_below_drewN | apply below_drew1) | exact HB.out))) : w.heap.size ≤ gb266)); clear HB; have HB := n0_; have BK266 := n1_; have GW266 := n2_; have GE266 := n3_; clear n0_ n1_ n2_ n3_; clear hb hbox hg; have hcz44_0 : w43.cell? ⟨gb266, 0, none⟩ = some (.string (⟨#[]⟩ : ByteArray)) := (blk_cell BK266.out 0).trans rfl; have hcz44_1 : w43.cell? ⟨gb266, 1, none⟩ = some (.string (⟨#[]⟩ : ByteArray)) := (blk_cell BK266.out 1).trans rfl; have hcz44_2 : w43.cell? ⟨gb266, 2, none⟩ = some (.string (⟨#[]⟩ : ByteArray)) := (blk_cell BK266.out 2).trans rfl; have hcz44_3 : w43.cell? ⟨gb266, 3, none⟩ = some (.string (⟨#[]⟩ : ByteArray)) := (blk_cell BK266.out 3).trans rfl; have hcz44_4 : w43.cell? ⟨gb266, 4, none⟩ = some (.string (⟨#[]⟩ : ByteArray)) := (blk_cell BK266.out 4).trans rfl; have hcz44_5 : w43.cell? ⟨gb266, 5, none⟩ = some (.string (⟨#[]⟩ : ByteArray)) := (blk_cell BK266.out 5).trans rfl; have hcz44_6 : w43.cell? ⟨gb266, 6, none⟩ = some (.string (⟨#[]⟩ : ByteArray)) := (blk_cell BK266.out 6).trans rfl; have hcz44_7 : w43.cell? ⟨gb266, 7, none⟩ = some (.string (⟨#[]⟩ : ByteArray)) := (blk_cell BK266.out 7).trans rfl; have hfz44_0 := blk_frozen BK266.out 0; have hfz44_1 := blk_frozen BK266.out 1; have hfz44_2 := blk_frozen BK266.out 2; have hfz44_3 := blk_frozen BK266.out 3; have hfz44_4 := blk_frozen BK266.out 4; have hfz44_5 := blk_frozen BK266.out 5; have hfz44_6 := blk_frozen BK266.out 6; have hfz44_7 := blk_frozen BK266.out 7))
                    any_goals (try (exfalso; have zc23b1 := of_decide_eq_true c23b1; omega))
                    go_ret
                    exact ⟨by first | rfl | (simp [errW_none, errW_some] <;> rfl) | (simp [*, errW_none, errW_some] <;> rfl), by repeat (first | (with_reducible first | exact HB.out | apply below_alloc | apply pw_below_drewN | apply below_drew1 | refine below_set ?_ GE266.out) | exact HB.out)⟩
                · rw [if_neg c23] at H
                  exact absurd H (by simp)
def laws_FnPathEscaped.Pure : Prop := ∀ (a0 : ByteArray), a0.size ≤ 140737488351232 → ∃ k, laws_FnPathEscaped.f k a0 = some true
theorem laws_FnPathEscaped.walk (P : laws_FnPathEscaped.Pure) (a0 : ByteArray) (w : World) (w0 : a0.size ≤ 140737488351232) :
    Calls Try.prog 5 #[.string a0] w fun e w' => e = .returned (.bool true) ∧ Below w.heap.size w w' := by
  obtain ⟨k, h⟩ := P a0 w0
  refine (laws_FnPathEscaped.calls k a0 true w h).mono ?_
  rintro e w' ⟨rfl, hd⟩
  exact ⟨rfl, hd⟩
end Go.Proofs.Ytbkeakeldegkeaa.Q
namespace Go.Proofs.Ytbkeakeldegkeaa.Q
open Go.RowKit Go.Proofs.YtbkeakeldegkeaaW.PrintWords Go.Proofs.YtbkeakeldegkeaaW.PrintLast Go.Proofs.YtbkeakeldegkeaaW.PrintMore
attribute [local go_sem] max2_int min2_int max_two min_two max_three min_three max_four min_four
set_option linter.unusedVariables false
set_option linter.unusedSimpArgs false
end Go.Proofs.Ytbkeakeldegkeaa.Q
end
section
namespace Go.Proofs.Ytbkeakeldegkeaa.Q
open Go.RowKit Go.Proofs.YtbkeakeldegkeaaW.PrintWords Go.Proofs.YtbkeakeldegkeaaW.PrintLast Go.Proofs.YtbkeakeldegkeaaW.PrintMore
attribute [local go_sem] max2_int min2_int max_two min_two max_three min_three max_four min_four
set_option linter.unusedVariables false
set_option linter.unusedSimpArgs false
end Go.Proofs.Ytbkeakeldegkeaa.Q
namespace Go.Proofs.Ytbkeakeldegkeaa.Q
open Go.RowKit Go.Proofs.YtbkeakeldegkeaaW.PrintWords Go.Proofs.YtbkeakeldegkeaaW.PrintLast Go.Proofs.YtbkeakeldegkeaaW.PrintMore
attribute [local go_sem] max2_int min2_int max_two min_two max_three min_three max_four min_four
set_option linter.unusedVariables false
set_option linter.unusedSimpArgs false
end Go.Proofs.Ytbkeakeldegkeaa.Q
end
section
namespace Go.Proofs.Ytbkeakeldegkeaa.SpA
open Go.RowKit Go.Proofs.Ytbkeakeldegkeaa.Q Go.Proofs.YtbkeakeldegkeaaW.PrintWords Go.Proofs.YtbkeakeldegkeaaW.PrintLast Go.Proofs.YtbkeakeldegkeaaKit
set_option linter.unusedVariables false
set_option linter.unusedSimpArgs false
theorem short_l (ys xs : List ByteArray) (hx : xs.length ≤ 9223372036854775807) : ∀ (suf pre : List ByteArray), xs = pre ++ suf → Ev (fun k => laws_short.l0 k ys xs xs.length pre.length) (suf.all (fun s => decide (s.size ≤ 2000)) && decide (ys.length ≤ 60))
  | [], pre, h => by
    refine Ev.step (f := fun _ => some (decide ((ys.length : Int) ≤ 60))) (fun k => by simp only [laws_short.l0]; rw [if_neg (ln_not h)]) (Ev.same (Ev.now _) ?_)
    rw [List.all_nil, Bool.true_and]
    exact decide_eq_decide.2 (by omega)
  | p :: t, pre, h => by
    have e : rdOf ByteArray.empty xs pre.length = p := get_mid h _
    rw [List.all_cons]
    by_cases c : p.size ≤ 2000
    · rw [decide_eq_true c, Bool.true_and]
      refine Ev.step (fun k => ?_) (short_l ys xs hx t (pre ++ [p]) (lmid_next h))
      simp only [laws_short.l0]
      rw [if_pos (ln_mid h), if_pos (by omega), if_pos (ln_mid h), e, if_neg (by omega), wrap_lmid h hx]
    · rw [decide_eq_false c, Bool.false_and, Bool.false_and]
      refine Ev.step (f := fun _ => some false) (fun k => ?_) (Ev.now _)
      simp only [laws_short.l0]
      rw [if_pos (ln_mid h), if_pos (by omega), if_pos (ln_mid h), e, if_pos (by omega)]
theorem short1 (s : ByteArray) : Ev (fun k => laws_short.f k [s]) (decide (s.size ≤ 2000)) :=
  Ev.same (short_l [s] [s] (by simp) [s] [] rfl) (by simp)
end Go.Proofs.Ytbkeakeldegkeaa.SpA
end
section
namespace Go.Proofs.Ytbkeakeldegkeaa.SpA
open Go.RowKit Go.Proofs.Ytbkeakeldegkeaa.Q Go.Proofs.YtbkeakeldegkeaaW.PrintWords Go.Proofs.YtbkeakeldegkeaaW.PrintLast Go.Proofs.YtbkeakeldegkeaaKit
set_option linter.unusedVariables false
set_option linter.unusedSimpArgs false
theorem holds_l (s : ByteArray) (x : Int) (hs : s.size ≤ 140737488351232) : ∀ (suf pre : List UInt8), L s = pre ++ suf → Ev (fun k => laws_holds.l0 k s x s.size pre.length) (suf.any (fun c => decide ((c.toNat : Int) = x)))
  | [], pre, h => Ev.step (f := fun _ => some false) (fun k => by simp only [laws_holds.l0]; rw [if_neg (sz_not h)]) (Ev.now _)
  | c :: t, pre, h => by
    rw [List.any_cons]
    by_cases c1 : (c.toNat : Int) = x
    · rw [decide_eq_true c1, Bool.true_or]
      refine Ev.step (f := fun _ => some true) (fun k => ?_) (Ev.now _)
      simp only [laws_holds.l0]
      rw [if_pos (sz_mid h), if_pos (by omega), if_pos (sz_mid h), bt_mid h, if_pos c1]
    · rw [decide_eq_false c1, Bool.false_or]
      refine Ev.step (fun k => ?_) (holds_l s x hs t (pre ++ [c]) (mid_next h))
      simp only [laws_holds.l0]
      rw [if_pos (sz_mid h), if_pos (by omega), if_pos (sz_mid h), bt_mid h, if_neg c1, wrap_mid h hs]
theorem holds (s : ByteArray) (x : Int) (hs : s.size ≤ 140737488351232) : Ev (fun k => laws_holds.f k s x) ((L s).any (fun c => decide ((c.toNat : Int) = x))) := holds_l s x hs (L s) [] rfl
end Go.Proofs.Ytbkeakeldegkeaa.SpA
end
section
namespace Go.Proofs.Ytbkeakeldegkeaa.SpA
open Go.RowKit Go.Proofs.Ytbkeakeldegkeaa.Q Go.Proofs.YtbkeakeldegkeaaW.PrintWords Go.Proofs.YtbkeakeldegkeaaW.PrintLast Go.Proofs.YtbkeakeldegkeaaKit
set_option linter.unusedVariables false
set_option linter.unusedSimpArgs false
theorem norm_plain (l : List UInt8) (h : (37 : UInt8) ∉ l) : norm l = Cl.cleanK (lead l ++ l) := by rw [norm, dec_none l h]
theorem norm_slash (t : List UInt8) (h : (37 : UInt8) ∉ (47 :: t : List UInt8)) : norm (47 :: t) = Cl.cleanK (47 :: t) := by rw [norm_plain _ h, lead, if_pos rfl]; rfl
def H7 : List UInt8 := [104, 116, 116, 112, 58, 47, 47]
theorem upto_app {c : UInt8} : ∀ {p t : List UInt8}, c ∉ p → upto c (p ++ c :: t) = p ∧ (p ++ c :: t).dropWhile (· != c) = c :: t
  | [], t, _ => by simp [upto]
  | x :: p, t, h => by
    have hx : (x != c) = true := bne_iff_ne.2 (fun e => h (by simp [e]))
    obtain ⟨h1, h2⟩ := upto_app (c := c) (p := p) (t := t) (fun e => h (by simp [e]))
    unfold upto at *
    simp [hx, h1, h2]
theorem part_http (host t : List UInt8) (hh : (47 : UInt8) ∉ host) : partU [] (H7 ++ host ++ 47 :: t) = some (HTTP, host, 47 :: t) := by
  have e : H7 ++ host ++ 47 :: t = 104 :: 116 :: 116 :: 112 :: 58 :: 47 :: 47 :: (host ++ 47 :: t) := by simp [H7]
  rw [e]
  unfold partU
  have hs : schEnd 0 (104 :: 116 :: 116 :: 112 :: 58 :: 47 :: 47 :: (host ++ 47 :: t)) = some 4 := by simp [schEnd, isAl, isSg]
  rw [hs]
  simp only [List.drop_succ_cons, List.drop_zero, List.take_succ_cons, List.take_zero, List.length_cons]
  rw [if_neg (by omega), if_pos (by simp), (upto_app hh).1, (upto_app hh).2]
  rfl
theorem parse_http (host t : List UInt8) (hh : (47 : UInt8) ∉ host) (hc : (H7 ++ host ++ 47 :: t).any isCtl = false) : parseU [] (H7 ++ host ++ 47 :: t) = some (restU HTTP host (47 :: t)) := by
  unfold parseU
  rw [hc]
  simp only [Bool.false_eq_true, if_false]
  rw [if_pos (by simp), part_http host t hh]
  rfl
theorem parse_rel (host u : List UInt8) (hh : host ≠ []) (hs : ix SEP u 0 < 0) (hc : u.any isCtl = false) : parseU host u = some (restU [] host u) := by
  unfold parseU
  rw [hc]
  simp only [Bool.false_eq_true, if_false]
  rw [if_neg (by rintro (e | e); exact hh e; omega)]
theorem uriOf_eq (a0 a1 : ByteArray) (h0 : a0.size ≤ 3000000000) (h1 : a1.size ≤ 3000000000) (hc : (L a1).any isCtl = false) (u : UR) (hp : parseU (L a0) (L a1) = some u) (ho : u.orig.length ≤ 2147483647) :
    impl_UriOf.f a0 a1 = some (⟨u.sch.toArray⟩, ⟨u.host.toArray⟩, ⟨u.path.toArray⟩, ⟨u.orig.toArray⟩, ⟨u.query.toArray⟩, ⟨u.hash.toArray⟩, ⟨u.user.toArray⟩, ⟨u.pass.toArray⟩, true) := by
  unfold impl_UriOf.f
  rw [if_pos ⟨⟨h0, h1⟩, hc⟩, hp]
  simp only
  rw [if_pos ho]
theorem upto_len (c : UInt8) (l : List UInt8) : (upto c l).length ≤ l.length := (List.takeWhile_sublist _).length_le
theorem restU_orig_len (s h u : List UInt8) : (restU s h u).orig.length ≤ u.length := by
  show (upto 63 (upto 35 u)).length ≤ _
  have h1 := upto_len 63 (upto 35 u)
  have h2 := upto_len 35 u
  omega
theorem parses : laws_parses.f = some true := by
  have hp : parseU (L ⟨#[]⟩) (L ⟨#[104, 116, 116, 112, 58, 47, 47, 104, 47, 97, 63, 98, 61, 99, 35, 100]⟩) = some ⟨HTTP, [104], [47, 97], [47, 97], [98, 61, 99], [100], [], []⟩ := by
    have := parse_http [104] [97, 63, 98, 61, 99, 35, 100] (by decide) (by decide)
    refine this.trans ?_
    congr 1
    unfold restU
    rw [show authU [104] = ([], [], [104]) by decide, show pathU (47 :: [97, 63, 98, 61, 99, 35, 100]) = ([47, 97], [98, 61, 99], [100]) by decide]
    simp only
    rw [norm_slash _ (by decide), show Cl.cleanK [47, 97] = [47, 97] by decide]
    rfl
  unfold laws_parses.f
  rw [uriOf_eq _ _ (by decide) (by decide) (by decide) _ hp (by decide)]
  simp only [Option.bind_some, tl]
  rfl
end Go.Proofs.Ytbkeakeldegkeaa.SpA
end
section
namespace Go.Proofs.Ytbkeakeldegkeaa.Pure
open Go.RowKit Go.Proofs.Ytbkeakeldegkeaa.Q Go.Proofs.YtbkeakeldegkeaaW.PrintWords Go.Proofs.YtbkeakeldegkeaaW.PrintLast Go.Proofs.YtbkeakeldegkeaaKit Go.Proofs.Ytbkeakeldegkeaa.SpA
set_option linter.unusedVariables false
theorem pe_conv (s : ByteArray) (h : s.size ≤ 140737488351232) : conv49.f s = some (toI (L s)) := by
  unfold conv49.f
  rw [if_pos (by omega), bytesOf_toI]
theorem pathq (s : ByteArray) (h : s.size ≤ 1000000) : Ev (fun k => impl_QuotedPath.f k s) ⟨(quoteP (L s)).toArray⟩ := by
  have g := path_ev (L s) [] (by rw [← size_L]; omega) (by rw [← size_L]; simp; omega)
  unfold impl_QuotedPath.f
  rw [pe_conv s (by omega)]
  simp only [Option.bind_some]
  exact Ev.call g (Ev.some (by congr 1; exact ext (by rw [L_strOf]; rfl)))
set_option maxRecDepth 100000 in
theorem esc_all : ∀ c : Fin 256, (UInt8.ofNat c.val == 47 || (escP (UInt8.ofNat c.val)).all fun d => !isCtl d && d != 63 && d != 35 && d != 47) = true := by decide +kernel
theorem esc_no (c : UInt8) (h : c ≠ 47) : ∀ d ∈ escP c, isCtl d = false ∧ d ≠ 63 ∧ d ≠ 35 ∧ d ≠ 47 := by
  have := esc_all ⟨c.toNat, c.toNat_lt⟩
  simp only [UInt8.ofNat_toNat] at this
  rcases Bool.or_eq_true_iff.1 this with e | e
  · exact absurd (by simpa using e) h
  · intro d hd
    have := List.all_eq_true.1 e d hd
    simp only [Bool.and_eq_true, Bool.not_eq_true', bne_iff_ne, ne_eq] at this
    exact ⟨this.1.1.1, this.1.1.2, this.1.2, this.2⟩
set_option maxRecDepth 100000 in
theorem plain_all : ∀ c : Fin 256, (!(decide (bt tab2 ((UInt8.ofNat c.val).toNat : Int) = 0)) || UInt8.ofNat c.val != 37) = true := by decide +kernel
set_option maxRecDepth 100000 in
theorem hex_all : ∀ c : Fin 256, (decide (hx (hexU ((UInt8.ofNat c.val).toNat / 16)) ≠ 16) && decide (hx (hexU ((UInt8.ofNat c.val).toNat % 16)) ≠ 16) && (hx2 (hexU ((UInt8.ofNat c.val).toNat / 16)) (hexU ((UInt8.ofNat c.val).toNat % 16)) == UInt8.ofNat c.val)) = true := by decide +kernel
theorem dec_esc (c : UInt8) (t : List UInt8) : dec (escP c ++ t) = c :: dec t := by
  unfold escP
  by_cases h : bt tab2 (c.toNat : Int) = 0
  · rw [if_pos h]
    have := plain_all ⟨c.toNat, c.toNat_lt⟩
    simp only [UInt8.ofNat_toNat] at this
    rw [decide_eq_true h] at this
    exact dec_plain c (by simpa using this) t
  · rw [if_neg h]
    have := hex_all ⟨c.toNat, c.toNat_lt⟩
    simp only [UInt8.ofNat_toNat, Bool.and_eq_true, decide_eq_true_eq, beq_iff_eq] at this
    obtain ⟨⟨h1, h2⟩, h3⟩ := this
    show dec (37 :: _ :: _ :: t) = _
    rw [dec, if_pos rfl, if_neg (by rintro (e | e); exact h1 e; exact h2 e), h3]
theorem dec_flat : ∀ s : List UInt8, dec (s.flatMap escP) = s
  | [] => by simp [dec]
  | c :: t => by rw [List.flatMap_cons, dec_esc, dec_flat t]
theorem dec_quote (s : List UInt8) : dec (quoteP s) = s := by
  unfold quoteP
  split
  · rename_i h; rw [h]; simp [dec]
  · exact dec_flat s
theorem quote_no (s : List UInt8) (h : (47 : UInt8) ∉ s) : ∀ d ∈ quoteP s, isCtl d = false ∧ d ≠ 63 ∧ d ≠ 35 ∧ d ≠ 47 := by
  unfold quoteP
  split
  · intro d hd
    obtain rfl : d = 42 := by simpa using hd
    decide
  · intro d hd
    obtain ⟨c, hc, hd⟩ := List.mem_flatMap.1 hd
    exact esc_no c (fun e => h (e ▸ hc)) d hd
theorem flat_len : ∀ p : List UInt8, (p.flatMap escP).length ≤ 3 * p.length
  | [] => by simp
  | c :: t => by
    have := escP_len c
    have := flat_len t
    rw [List.flatMap_cons, List.length_append, List.length_cons]
    omega
theorem quote_len (p : List UInt8) : (quoteP p).length ≤ 3 * p.length + 1 := by
  unfold quoteP
  split
  · simp
  · have := flat_len p; omega
theorem ix_sep : ∀ (l : List UInt8) (n : Nat), (47 : UInt8) ∉ l → ix SEP l n < 0
  | [], n, _ => by rw [ix, if_neg (by decide)]; decide
  | c :: t, n, h => by
    rw [ix, if_neg, ]
    · exact ix_sep t (n + 1) (fun e => h (by simp [e]))
    · intro e
      obtain ⟨x, hx⟩ := List.isPrefixOf_iff_prefix.1 e
      exact h (by rw [← hx]; simp [SEP])
theorem norm_quote (s : List UInt8) (h : (47 : UInt8) ∉ s) (h2 : s ≠ [46, 46]) : norm (47 :: quoteP s) = 47 :: s := by
  rw [norm, lead, if_pos rfl, List.nil_append, dec_plain 47 (by decide), dec_quote]
  have := Cl.clean_words [] s (by simp) h h2
  simpa [Cl.joinS] using this
theorem pe_true (a : ByteArray) : Ev (fun k => laws_FnPathEscaped.j1 k a true) true :=
  Ev.step (f := fun _ => some true) (fun k => by simp only [laws_FnPathEscaped.j1]; rw [if_pos trivial]) (Ev.now _)
theorem pe_go (a : ByteArray) (ha : a.size ≤ 2000) (h : (47 : UInt8) ∉ L a) (h2 : L a ≠ [46, 46]) : Ev (fun k => laws_FnPathEscaped.j1 k a false) true := by
  have hq := pathq a (by omega)
  refine Ev.step (fun k => by simp only [laws_FnPathEscaped.j1]; rw [if_neg (by decide)]) ?_
  refine Ev.call hq ?_
  have hn := quote_no (L a) h
  have hln : (quoteP (L a)).length ≤ 6001 := by have := quote_len (L a); have e : a.size = (L a).length := size_L a; omega
  have hsz : (⟨(quoteP (L a)).toArray⟩ : ByteArray).size = (quoteP (L a)).length := by rw [size_L]
  have hL : L ((⟨#[47]⟩ : ByteArray) ++ ⟨(quoteP (L a)).toArray⟩) = 47 :: quoteP (L a) := by rw [L_append]; rfl
  have hc : (47 :: quoteP (L a)).any isCtl = false := by
    rw [List.any_cons, show isCtl 47 = false by decide, Bool.false_or, List.any_eq_false]
    intro d hd
    rw [(hn d hd).1]; decide
  have hs : ix SEP (47 :: quoteP (L a)) 0 < 0 := by
    rw [ix, if_neg (show ¬ (SEP.isPrefixOf (47 :: quoteP (L a)) = true) from by intro e; obtain ⟨x, hx⟩ := List.isPrefixOf_iff_prefix.1 e; exact absurd (List.cons.inj hx).1 (by decide))]
    exact ix_sep _ _ (fun e => (hn 47 e).2.2.2 rfl)
  have h35 : (35 : UInt8) ∉ (47 :: quoteP (L a)) := fun e => by
    rcases List.mem_cons.1 e with e | e
    · exact absurd e (by decide)
    · exact (hn 35 e).2.2.1 rfl
  have h63 : (63 : UInt8) ∉ (47 :: quoteP (L a)) := fun e => by
    rcases List.mem_cons.1 e with e | e
    · exact absurd e (by decide)
    · exact (hn 63 e).2.1 rfl
  have hp := parse_rel [104] (47 :: quoteP (L a)) (by decide) hs hc
  have e1 := uriOf_eq ⟨#[104]⟩ ((⟨#[47]⟩ : ByteArray) ++ ⟨(quoteP (L a)).toArray⟩) (by decide) (by rw [size_append, hsz]; show 1 + _ ≤ _; omega) (by rw [hL]; exact hc) _ (by rw [hL]; exact hp) (by have := restU_orig_len [] [104] (47 :: quoteP (L a)); simp only [List.length_cons] at this; omega)
  have hpath : (restU [] [104] (47 :: quoteP (L a))).path = 47 :: L a := by
    show norm (upto 63 (upto 35 _)) = _
    rw [(upto_none h35).1, (upto_none h63).1, norm_quote _ h h2]
  have hqu : (restU [] [104] (47 :: quoteP (L a))).query = [] := by
    show past 63 (upto 35 _) = _
    rw [(upto_none h35).1, past_none h63]
  have hha : (restU [] [104] (47 :: quoteP (L a))).hash = [] := past_none h35
  refine Ev.pos (by rw [hsz]; omega) ?_
  rw [e1]
  simp only [Option.bind_some]
  refine Ev.pos trivial (Ev.pos (by omega) (Ev.pos ?_ (Ev.pos ?_ (Ev.some ?_))))
  · rw [hpath, tl, tl, L_append]; rfl
  · rw [hqu, tl]
  · rw [hha, tl]; rfl
theorem pe_j0 (a : ByteArray) (ha : a.size ≤ 2147483647) : Ev (fun k => laws_FnPathEscaped.j0 k a false) true := by
  refine Ev.step (fun k => by simp only [laws_FnPathEscaped.j0]; rw [if_neg (by decide)]) ?_
  rw [tl]
  by_cases h1 : L a = ([] : List UInt8)
  · exact Ev.pos h1 (pe_true a)
  refine Ev.neg h1 ?_
  by_cases h2 : L a = ([46] : List UInt8)
  · exact Ev.pos h2 (pe_true a)
  refine Ev.neg h2 ?_
  by_cases h3 : L a = ([46, 46] : List UInt8)
  · exact Ev.pos h3 (pe_true a)
  refine Ev.neg h3 (Ev.call (holds a 47 (by omega)) ?_)
  by_cases h4 : (L a).any (fun c => decide ((c.toNat : Int) = 47)) = true
  · rw [h4]; exact Ev.pos rfl (pe_true a)
  have h4 : (L a).any (fun c => decide ((c.toNat : Int) = 47)) = false := by simpa using h4
  rw [h4]
  refine Ev.neg (by decide) (Ev.call (short1 a) ?_)
  by_cases h5 : a.size ≤ 2000
  · rw [decide_eq_true h5]
    refine pe_go a h5 (fun hm => ?_) h3
    exact absurd (List.any_eq_false.1 h4 47 hm) (by decide)
  · rw [decide_eq_false h5]; exact pe_true a
theorem pe_blank (l : List UInt8) (h : l ≠ []) : ¬ (⟨(quoteP l).toArray⟩ : ByteArray).toList = ([] : List UInt8) := by
  rw [tl]
  intro e
  have e2 : quoteP l = [] := e
  have := congrArg dec e2
  rw [dec_quote] at this
  exact h (by rw [this]; simp [dec])
theorem FnPathEscaped : laws_FnPathEscaped.Pure := by
  intro a _
  refine Ev.rounds ?_
  unfold laws_FnPathEscaped.f
  by_cases h : (a.size : Int) > 2147483647
  · exact Ev.pos h (Ev.now _)
  refine Ev.neg h (Ev.call (pathq ⟨#[97, 32, 98]⟩ (by decide)) (Ev.neg (pe_blank _ (by decide)) (Ev.call (Ev.some parses) ?_)))
  exact pe_j0 a (by omega)
end Go.Proofs.Ytbkeakeldegkeaa.Pure
end
section
namespace Go.Proofs.Ytbkeakeldegkeaa.fnPathEscaped
open Go.ChangeShapes Go.WideShapes Go.ChangeAt Go.RowKit
open Go.ChangeMaps (open_string shut_string)
set_option linter.unusedVariables false
theorem own : ownKnob Try.prog.godebug = none := by kernel_rfl
set_option maxRecDepth 100000 in
theorem lifted (os : Os) (started : os.Started) (H : Type) (enc : TypeId × Value → H) :
    ReturnsInHanded {} Try.checked os 5 .any (Rows.fnPathEscapedSpec.pre6 enc Try.prog Try.f5 Rows.fnPathEscapedRow.domain false) (Rows.fnPathEscapedSpec.post enc Try.prog Try.f5 false true false false) := by
  refine returnsInHanded_of_change_sized (C := Try.checked) own started (by kernel_rfl) Try.func5
    (ChangeSpec.witness6 (enc := enc) (C := Try.checked) false ⟨#[], #[.string ByteArray.empty], []⟩ 8 (by kernel_rfl) (by kernel_rfl) (by kernel_rfl) (by kernel_rfl)) ?_
  intro W base args ds gs before hval0 hW hcnd hsz0 _
  have hsz : (DataW.weightsEach Try.prog (Try.f5.params.toList ++ Rows.fnPathEscapedSpec.plain.varTypes Try.prog) (ds ++ gs)).all (· ≤ reachBytes) = true := hsz0
  have hval : ∀ (j : Nat) t v, Try.f5.params[j]? = some t → args[j]? = some v → Value.okWide Try.prog W .any base t v := hval0
  have hW' := hW
  obtain ⟨p, q, hA0, hV, rfl, hfz, hnd⟩ := hW
  have hA : DataW.TrodAll enc Try.prog W 0 (fun _ => true) true Try.f5.params.toList args.toList ds p := hA0
  rw [Try.params5] at hA hval hsz
  obtain ⟨v0, vs0, d0, ds0, p0, q0, hargs, rfl, rfl, h0, r0⟩ := trodAll_cons hA
  obtain ⟨rfl, rfl, rfl⟩ := trodAll_nil r0
  obtain rfl : args = #[v0] := by cases args; simp_all
  obtain ⟨rfl, rfl⟩ := trodVars_none hV
  obtain ⟨a0, rfl, rfl, rfl, y0⟩ := open_string Try.underlying9 (hval 0 9 v0 rfl rfl) h0
  have w0 : a0.size ≤ 140737488351232 := by
    have z := sized_string hsz (j := 0) (t := 9) rfl rfl
    rw [Array.length_toList] at z
    exact z
  clear hA0 hval0 hsz0 hsz
  refine (Q.laws_FnPathEscaped.walk Pure.FnPathEscaped a0 W w0).mono fun e W' ⟨he, bel⟩ => ?_
  subst he
  exact ⟨_, rfl, _, _, _, [], _, [], hW', trodAll_mk1 (shut_bool Try.underlying4 _), (trodAll_cons_mk (shut_string Try.underlying9 y0) trodAll_mk0), rfl, bel.frame _, fun h => by cases h⟩
theorem over : Rows.fnPathEscapedRow.holds Try.pinned (OpenSpec.ofChange Rows.fnPathEscapedSpec) :=
  OpenClaim.holds_of_wide 5 Try.f5 rfl rfl rfl rfl rfl rfl rfl ⟨rfl, rfl, rfl, rfl, rfl⟩ rfl rfl rfl rfl rfl (by kernel_rfl) Try.func5 (by kernel_rfl)
    (of_decide_eq_true (by kernel_rfl)) (by unfold Func.isWrapper; first | (rw [if_pos (by decide +kernel)]; kernel_rfl) | (rw [if_neg (by decide +kernel)]; exact ⟨rfl, rfl⟩))
    (fun os started H enc _ => lifted os started H enc)
theorem proved : Rows.FnPathEscapedSaid := over
#print axioms proved
end Go.Proofs.Ytbkeakeldegkeaa.fnPathEscaped
namespace Go.Proofs.Ytbkeakeldegkeaa
theorem fnPathEscaped_holds : Rows.FnPathEscapedSaid := fnPathEscaped.proved
end Go.Proofs.Ytbkeakeldegkeaa
end
