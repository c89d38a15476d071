/- FnCookieHead: the law's function, called with any arguments, returns true and leaves its arguments as they were: every input, no condition. Part 7 of 8. -/
import Derived.Test.YtfbllodbcmcndaaZFnCookieHead0
import Derived.Test.YtfbllodbcmcndaaZFnCookieHead1
import Derived.Test.YtfbllodbcmcndaaZFnCookieHead4
import Derived.Test.YtfbllodbcmcndaaZFnCookieHead5
section
namespace Go.Proofs.Ytfbllodbcmcndaa.Q
open Go.RowKit Go.Proofs.YtfbllodbcmcndaaW.PrintWords Go.Proofs.YtfbllodbcmcndaaW.PrintLast Go.Proofs.YtfbllodbcmcndaaW.PrintMore
attribute [local go_sem] max2_int min2_int max_two min_two max_three min_three max_four min_four
set_option linter.unusedVariables false
set_option linter.unusedSimpArgs false
def laws_FnCookieHead.j0 : Nat → Bool → ByteArray → ByteArray → ByteArray → ByteArray → Int → Int → Bool → Bool → Bool → Option (Bool)
  | 0, _, _, _, _, _, _, _, _, _, _ => none
  | k + 1, x49, x201000, x201001, x201002, x201003, x201004, x201005, x201006, x201007, x201008 => if x49 = true then (some true) else ((impl_CookieText.f x201000 x201001 x201002 x201003 x201004 x201005 x201006 x201007 x201008).bind fun t210 => (if x201000.size + 1 ≤ 9223372036854775807 then (if x201000.size + 1 + x201001.size ≤ 9223372036854775807 then ((laws_begins.f t210 ((x201000 ++ (⟨#[61]⟩ : ByteArray)) ++ x201001)).bind fun t211 => (if t211 = true then (if 0 ≤ ((x201000.size + 1 + x201001.size : Nat) : Int) then (if ((x201000.size + 1 + x201001.size : Nat) : Int) ≤ (t210.size : Int) then ((laws_low.f (t210.extract (x201000.size + 1 + x201001.size) t210.size)).bind fun t212 => (if x201006 = true then ((laws_stands.f k t212 (⟨#[59, 32, 104, 116, 116, 112, 111, 110, 108, 121]⟩ : ByteArray)).bind fun t213 => (if t213 = true then (if x201002.toList = ([] : List UInt8) then (if x201007 = true then ((laws_stands.f k t212 (⟨#[59, 32, 115, 101, 99, 117, 114, 101]⟩ : ByteArray)).bind fun t214 => (some t214)) else (some true)) else ((laws_low.f x201002).bind fun t215 => (if 9 + t215.size ≤ 9223372036854775807 then ((laws_stands.f k t212 ((⟨#[59, 32, 100, 111, 109, 97, 105, 110, 61]⟩ : ByteArray) ++ t215)).bind fun t216 => (if t216 = true then (if x201007 = true then ((laws_stands.f k t212 (⟨#[59, 32, 115, 101, 99, 117, 114, 101]⟩ : ByteArray)).bind fun t217 => (some t217)) else (some true)) else (some false))) else (none)))) else (some false))) else (if x201002.toList = ([] : List UInt8) then (if x201007 = true then ((laws_stands.f k t212 (⟨#[59, 32, 115, 101, 99, 117, 114, 101]⟩ : ByteArray)).bind fun t218 => (some t218)) else (some true)) else ((laws_low.f x201002).bind fun t219 => (if 9 + t219.size ≤ 9223372036854775807 then ((laws_stands.f k t212 ((⟨#[59, 32, 100, 111, 109, 97, 105, 110, 61]⟩ : ByteArray) ++ t219)).bind fun t220 => (if t220 = true then (if x201007 = true then ((laws_stands.f k t212 (⟨#[59, 32, 115, 101, 99, 117, 114, 101]⟩ : ByteArray)).bind fun t221 => (some t221)) else (some true)) else (some false))) else (none)))))) else (none)) else (none)) else (some false))) else (none)) else (none)))
def laws_FnCookieHead.f (k : Nat) (a0_0 : ByteArray) (a0_1 : ByteArray) (a0_2 : ByteArray) (a0_3 : ByteArray) (a0_4 : Int) (a0_5 : Int) (a0_6 : Bool) (a0_7 : Bool) (a0_8 : Bool) : Option (Bool) := (laws_zzFits11.f a0_0 a0_1 a0_2 a0_3 a0_4 a0_5 a0_6 a0_7 a0_8).bind fun t201 => (if t201 = true then ((impl_CookieText.f (⟨#[97]⟩ : ByteArray) (⟨#[98]⟩ : ByteArray) (⟨#[]⟩ : ByteArray) (⟨#[]⟩ : ByteArray) 0 0 false false false).bind fun t202 => (if t202.toList = ([97, 61, 98] : List UInt8) then ((laws_token.f k a0_0).bind fun t203 => (if t203 = true then ((laws_token.f k a0_1).bind fun t204 => (if t204 = true then ((laws_short.f k (([a0_0, a0_1, a0_2, a0_3] : List ByteArray))).bind fun t208 => (if t208 = true then (if a0_2.toList = ([] : List UInt8) then (laws_FnCookieHead.j0 k (a0_3.toList != ([] : List UInt8)) a0_0 a0_1 a0_2 a0_3 a0_4 a0_5 a0_6 a0_7 a0_8) else ((laws_word.f k a0_2).bind fun t209 => (if t209 = true then (laws_FnCookieHead.j0 k (a0_3.toList != ([] : List UInt8)) a0_0 a0_1 a0_2 a0_3 a0_4 a0_5 a0_6 a0_7 a0_8) else (laws_FnCookieHead.j0 k true a0_0 a0_1 a0_2 a0_3 a0_4 a0_5 a0_6 a0_7 a0_8)))) else (laws_FnCookieHead.j0 k true a0_0 a0_1 a0_2 a0_3 a0_4 a0_5 a0_6 a0_7 a0_8))) else (laws_FnCookieHead.j0 k true a0_0 a0_1 a0_2 a0_3 a0_4 a0_5 a0_6 a0_7 a0_8))) else (laws_FnCookieHead.j0 k true a0_0 a0_1 a0_2 a0_3 a0_4 a0_5 a0_6 a0_7 a0_8))) else (some false))) else (some true))
set_option maxHeartbeats 8000000 in
set_option maxRecDepth 100000 in
theorem laws_FnCookieHead.calls (k : Nat) (a0_0 : ByteArray) (a0_1 : ByteArray) (a0_2 : ByteArray) (a0_3 : ByteArray) (a0_4 : Int) (a0_5 : Int) (a0_6 : Bool) (a0_7 : Bool) (a0_8 : Bool) (r : Bool) (w : World) (h : laws_FnCookieHead.f k a0_0 a0_1 a0_2 a0_3 a0_4 a0_5 a0_6 a0_7 a0_8 = some r) :
    Calls Try.prog 6 #[.agg #[.string a0_0, .string a0_1, .string a0_2, .string a0_3, .int .i64 a0_4, .int .i64 a0_5, .bool a0_6, .bool a0_7, .bool a0_8]] w fun e w' => e = .returned (.bool r) ∧ Below w.heap.size w w' := by
  have hu53 := Try.underlying53
  have HB := Aside0.mk (Below.refl w.heap.size w)
  have H : ((laws_zzFits11.f a0_0 a0_1 a0_2 a0_3 a0_4 a0_5 a0_6 a0_7 a0_8).bind fun t201 => (if t201 = true then ((impl_CookieText.f (⟨#[97]⟩ : ByteArray) (⟨#[98]⟩ : ByteArray) (⟨#[]⟩ : ByteArray) (⟨#[]⟩ : ByteArray) 0 0 false false false).bind fun t202 => (if t202.toList = ([97, 61, 98] : List UInt8) then ((laws_token.f k a0_0).bind fun t203 => (if t203 = true then ((laws_token.f k a0_1).bind fun t204 => (if t204 = true then ((laws_short.f k (([a0_0, a0_1, a0_2, a0_3] : List ByteArray))).bind fun t208 => (if t208 = true then (if a0_2.toList = ([] : List UInt8) then (laws_FnCookieHead.j0 k (a0_3.toList != ([] : List UInt8)) a0_0 a0_1 a0_2 a0_3 a0_4 a0_5 a0_6 a0_7 a0_8) else ((laws_word.f k a0_2).bind fun t209 => (if t209 = true then (laws_FnCookieHead.j0 k (a0_3.toList != ([] : List UInt8)) a0_0 a0_1 a0_2 a0_3 a0_4 a0_5 a0_6 a0_7 a0_8) else (laws_FnCookieHead.j0 k true a0_0 a0_1 a0_2 a0_3 a0_4 a0_5 a0_6 a0_7 a0_8)))) else (laws_FnCookieHead.j0 k true a0_0 a0_1 a0_2 a0_3 a0_4 a0_5 a0_6 a0_7 a0_8))) else (laws_FnCookieHead.j0 k true a0_0 a0_1 a0_2 a0_3 a0_4 a0_5 a0_6 a0_7 a0_8))) else (laws_FnCookieHead.j0 k true a0_0 a0_1 a0_2 a0_3 a0_4 a0_5 a0_6 a0_7 a0_8))) else (some false))) else (some true))) = some r := h
  clear h
  replace H := Option.bind_eq_some_iff.mp H
  obtain ⟨t201, A20, H⟩ := H
  replace H : (if t201 = true then ((impl_CookieText.f (⟨#[97]⟩ : ByteArray) (⟨#[98]⟩ : ByteArray) (⟨#[]⟩ : ByteArray) (⟨#[]⟩ : ByteArray) 0 0 false false false).bind fun t202 => (if t202.toList = ([97, 61, 98] : List UInt8) then ((laws_token.f k a0_0).bind fun t203 => (if t203 = true then ((laws_token.f k a0_1).bind fun t204 => (if t204 = true then ((laws_short.f k (([a0_0, a0_1, a0_2, a0_3] : List ByteArray))).bind fun t208 => (if t208 = true then (if a0_2.toList = ([] : List UInt8) then (laws_FnCookieHead.j0 k (a0_3.toList != ([] : List UInt8)) a0_0 a0_1 a0_2 a0_3 a0_4 a0_5 a0_6 a0_7 a0_8) else ((laws_word.f k a0_2).bind fun t209 => (if t209 = true then (laws_FnCookieHead.j0 k (a0_3.toList != ([] : List UInt8)) a0_0 a0_1 a0_2 a0_3 a0_4 a0_5 a0_6 a0_7 a0_8) else (laws_FnCookieHead.j0 k true a0_0 a0_1 a0_2 a0_3 a0_4 a0_5 a0_6 a0_7 a0_8)))) else (laws_FnCookieHead.j0 k true a0_0 a0_1 a0_2 a0_3 a0_4 a0_5 a0_6 a0_7 a0_8))) else (laws_FnCookieHead.j0 k true a0_0 a0_1 a0_2 a0_3 a0_4 a0_5 a0_6 a0_7 a0_8))) else (laws_FnCookieHead.j0 k true a0_0 a0_1 a0_2 a0_3 a0_4 a0_5 a0_6 a0_7 a0_8))) else (some false))) else (some true)) = some r := H
  have A2 := Aside0.mk A20
  clear A20
  by_cases c3 : t201 = true
  · subst c3
    have H1 : ((impl_CookieText.f (⟨#[97]⟩ : ByteArray) (⟨#[98]⟩ : ByteArray) (⟨#[]⟩ : ByteArray) (⟨#[]⟩ : ByteArray) 0 0 false false false).bind fun t202 => (if t202.toList = ([97, 61, 98] : List UInt8) then ((laws_token.f k a0_0).bind fun t203 => (if t203 = true then ((laws_token.f k a0_1).bind fun t204 => (if t204 = true then ((laws_short.f k (([a0_0, a0_1, a0_2, a0_3] : List ByteArray))).bind fun t208 => (if t208 = true then (if a0_2.toList = ([] : List UInt8) then (laws_FnCookieHead.j0 k (a0_3.toList != ([] : List UInt8)) a0_0 a0_1 a0_2 a0_3 a0_4 a0_5 a0_6 a0_7 a0_8) else ((laws_word.f k a0_2).bind fun t209 => (if t209 = true then (laws_FnCookieHead.j0 k (a0_3.toList != ([] : List UInt8)) a0_0 a0_1 a0_2 a0_3 a0_4 a0_5 a0_6 a0_7 a0_8) else (laws_FnCookieHead.j0 k true a0_0 a0_1 a0_2 a0_3 a0_4 a0_5 a0_6 a0_7 a0_8)))) else (laws_FnCookieHead.j0 k true a0_0 a0_1 a0_2 a0_3 a0_4 a0_5 a0_6 a0_7 a0_8))) else (laws_FnCookieHead.j0 k true a0_0 a0_1 a0_2 a0_3 a0_4 a0_5 a0_6 a0_7 a0_8))) else (laws_FnCookieHead.j0 k true a0_0 a0_1 a0_2 a0_3 a0_4 a0_5 a0_6 a0_7 a0_8))) else (some false))) = some r := by rw [if_pos rfl] at H; exact H
    clear H
    have H := H1
    clear H1
    replace H := Option.bind_eq_some_iff.mp H
    obtain ⟨t202, A40, H⟩ := H
    replace H : (if t202.toList = ([97, 61, 98] : List UInt8) then ((laws_token.f k a0_0).bind fun t203 => (if t203 = true then ((laws_token.f k a0_1).bind fun t204 => (if t204 = true then ((laws_short.f k (([a0_0, a0_1, a0_2, a0_3] : List ByteArray))).bind fun t208 => (if t208 = true then (if a0_2.toList = ([] : List UInt8) then (laws_FnCookieHead.j0 k (a0_3.toList != ([] : List UInt8)) a0_0 a0_1 a0_2 a0_3 a0_4 a0_5 a0_6 a0_7 a0_8) else ((laws_word.f k a0_2).bind fun t209 => (if t209 = true then (laws_FnCookieHead.j0 k (a0_3.toList != ([] : List UInt8)) a0_0 a0_1 a0_2 a0_3 a0_4 a0_5 a0_6 a0_7 a0_8) else (laws_FnCookieHead.j0 k true a0_0 a0_1 a0_2 a0_3 a0_4 a0_5 a0_6 a0_7 a0_8)))) else (laws_FnCookieHead.j0 k true a0_0 a0_1 a0_2 a0_3 a0_4 a0_5 a0_6 a0_7 a0_8))) else (laws_FnCookieHead.j0 k true a0_0 a0_1 a0_2 a0_3 a0_4 a0_5 a0_6 a0_7 a0_8))) else (laws_FnCookieHead.j0 k true a0_0 a0_1 a0_2 a0_3 a0_4 a0_5 a0_6 a0_7 a0_8))) else (some false)) = some r := H
    have A4 := Aside0.mk A40
    clear A40
    by_cases c5 : t202.toList = ([97, 61, 98] : List UInt8)
    · rw [if_pos c5] at H
      have c5b0 : (t202.toList == ([97, 61, 98] : List UInt8)) = true := beq_iff_eq.mpr c5
      have c5b1 : (t202.toList != ([97, 61, 98] : List UInt8)) = false := bne_eq_false_iff_eq.mpr c5
      clear c5
      have HC6 := Aside0.mk H
      clear H
      go_enter Try.func6, Try.ntmps6
      go_upto_region 5 with (first | ((with_reducible refine gate_dst (N := 1) rfl ?_); (try (refine gate_guard (by rfl) ?_; dsimp only)); refine box_event ?hg (N := 1) ?hd (cs := #[.string a0_0, .string a0_1, .string a0_2, .string a0_3, .int .i64 a0_4, .int .i64 a0_5, .bool a0_6, .bool a0_7, .bool a0_8]) (t := 53) ?hr ?_; (case hd => rfl); (case hg => rfl); (case hr => first | (go_simp; done) | (go_simp; rfl)); intro gb200 hg w7 hbox hb; have n0_ := Aside0.mk (below_step (by repeat (first | (with_reducible first | exact HB.out | apply below_alloc | apply pw_below_drewN | apply below_drew1) | exact HB.out)) hb); have n1_ := Aside0.mk (hbox); have n2_ := Aside0.mk ((by rw [hg]; exact (below_size (by repeat (first | (with_reducible first | exact HB.out | apply below_alloc | apply pw_below_drewN | apply below_drew1) | exact HB.out))) : w.heap.size ≤ gb200)); have n3_ := Aside0.mk ((by rw [hg]; exact (below_size (by repeat (first | (with_reducible first | exact HB.out | apply below_alloc | apply pw_below_drewN | apply below_drew1) | exact HB.out))) : w.heap.size ≤ gb200)); clear HB; have HB := n0_; have BK200 := n1_; have GW200 := n2_; have GE200 := n3_; clear n0_ n1_ n2_ n3_; clear hb hbox hg; have hcz8_0 : w7.cell? ⟨gb200, 0, none⟩ = some (.string a0_0) := (blk_cell BK200.out 0).trans rfl; have hcz8_1 : w7.cell? ⟨gb200, 1, none⟩ = some (.string a0_1) := (blk_cell BK200.out 1).trans rfl; have hcz8_2 : w7.cell? ⟨gb200, 2, none⟩ = some (.string a0_2) := (blk_cell BK200.out 2).trans rfl; have hcz8_3 : w7.cell? ⟨gb200, 3, none⟩ = some (.string a0_3) := (blk_cell BK200.out 3).trans rfl; have hcz8_4 : w7.cell? ⟨gb200, 4, none⟩ = some (.int .i64 a0_4) := (blk_cell BK200.out 4).trans rfl; have hcz8_5 : w7.cell? ⟨gb200, 5, none⟩ = some (.int .i64 a0_5) := (blk_cell BK200.out 5).trans rfl; have hcz8_6 : w7.cell? ⟨gb200, 6, none⟩ = some (.bool a0_6) := (blk_cell BK200.out 6).trans rfl; have hcz8_7 : w7.cell? ⟨gb200, 7, none⟩ = some (.bool a0_7) := (blk_cell BK200.out 7).trans rfl; have hcz8_8 : w7.cell? ⟨gb200, 8, none⟩ = some (.bool a0_8) := (blk_cell BK200.out 8).trans rfl; have hfz8_0 := blk_frozen BK200.out 0; have hfz8_1 := blk_frozen BK200.out 1; have hfz8_2 := blk_frozen BK200.out 2; have hfz8_3 := blk_frozen BK200.out 3; have hfz8_4 := blk_frozen BK200.out 4; have hfz8_5 := blk_frozen BK200.out 5; have hfz8_6 := blk_frozen BK200.out 6; have hfz8_7 := blk_frozen BK200.out 7; have hfz8_8 := blk_frozen BK200.out 8) | ((with_reducible refine gate_callee (f := 20) rfl ?_); refine goesL_ (some 6) rfl rfl Try.func20 (by kernel_rfl) rfl #[.agg #[.string a0_0, .string a0_1, .string a0_2, .string a0_3, .int .i64 a0_4, .int .i64 a0_5, .bool a0_6, .bool a0_7, .bool a0_8]] rfl (by (try simp only [List.map_toArray, List.map_cons, List.map_nil]); first | done | rfl | (simp only [List.length_drop, List.length_take]; rfl)) ?_; (with_reducible refine (laws_zzFits11.calls a0_0 a0_1 a0_2 a0_3 a0_4 a0_5 a0_6 a0_7 a0_8 true _ A2.out).mono ?_); rintro e w9 ⟨rfl, hb⟩; refine ⟨_, rfl, ?_⟩; have n0_ := Aside0.mk (blk_below (g := gb200) (o := .cells #[.string a0_0, .string a0_1, .string a0_2, .string a0_3, .int .i64 a0_4, .int .i64 a0_5, .bool a0_6, .bool a0_7, .bool a0_8] 53 (0, 0)) (by (with_reducible repeat (first | refine blk_drewN ?_ _ | refine blk_drew ?_ | refine blk_alloc ?_ _)); exact BK200.out) hb); have n1_ := Aside0.mk (below_step (by repeat (first | (with_reducible first | exact HB.out | apply below_alloc | apply pw_below_drewN | apply below_drew1 | refine below_set ?_ GE200.out) | exact HB.out)) hb); clear BK200; clear HB; have BK200 := n0_; have HB := n1_; clear n0_ n1_; (try clear hb); (try clear hb2); (try clear hk); (try clear hi)) | ((with_reducible refine gate_callee (f := 21) rfl ?_); refine goesL_ (some 9) rfl rfl Try.func21 (by kernel_rfl) rfl #[.agg #[.string (⟨#[97]⟩ : ByteArray), .string (⟨#[98]⟩ : ByteArray), .string (⟨#[]⟩ : ByteArray), .string (⟨#[]⟩ : ByteArray), .int .i64 0, .int .i64 0, .bool false, .bool false, .bool false]] rfl (by (try simp only [List.map_toArray, List.map_cons, List.map_nil]); first | done | rfl | (simp only [List.length_drop, List.length_take]; rfl)) ?_; (with_reducible refine (impl_CookieText.calls (⟨#[97]⟩ : ByteArray) (⟨#[98]⟩ : ByteArray) (⟨#[]⟩ : ByteArray) (⟨#[]⟩ : ByteArray) 0 0 false false false t202 _ A4.out).mono ?_); rintro e w10 ⟨rfl, hb⟩; refine ⟨_, rfl, ?_⟩; have n0_ := Aside0.mk (blk_below (g := gb200) (o := .cells #[.string a0_0, .string a0_1, .string a0_2, .string a0_3, .int .i64 a0_4, .int .i64 a0_5, .bool a0_6, .bool a0_7, .bool a0_8] 53 (0, 0)) (by (with_reducible repeat (first | refine blk_drewN ?_ _ | refine blk_drew ?_ | refine blk_alloc ?_ _)); exact BK200.out) hb); have n1_ := Aside0.mk (below_step (by repeat (first | (with_reducible first | exact HB.out | apply below_alloc | apply pw_below_drewN | apply below_drew1 | refine below_set ?_ GE200.out) | exact HB.out)) hb); clear BK200; clear HB; have BK200 := n0_; have HB := n1_; clear n0_ n1_; (try clear hb); (try clear hb2); (try clear hk); (try clear hi)))
      (try simp only [Act.put, List.setIfInBounds_toArray, List.set_cons_zero, List.set_cons_succ])
      go_cut [49] (fun v49 wc => ∃ (kq : Nat) (x49_5 : Bool), v49 = .bool x49_5 ∧ Aside0 (laws_FnCookieHead.j0 kq x49_5 a0_0 a0_1 a0_2 a0_3 a0_4 a0_5 a0_6 a0_7 a0_8 = some r) ∧ Aside0 (kq ≤ k) ∧ Aside0 (wc.heap[gb200]? = some (.cells #[.string a0_0, .string a0_1, .string a0_2, .string a0_3, .int .i64 a0_4, .int .i64 a0_5, .bool a0_6, .bool a0_7, .bool a0_8] 53 (0, 0))) ∧ Aside0 (Below w.heap.size w wc))
      case first =>
        have H := HC6.out
        clear HC6
        replace H := Option.bind_eq_some_iff.mp H
        obtain ⟨t203, A110, H⟩ := H
        replace H : (if t203 = true then ((laws_token.f k a0_1).bind fun t204 => (if t204 = true then ((laws_short.f k (([a0_0, a0_1, a0_2, a0_3] : List ByteArray))).bind fun t208 => (if t208 = true then (if a0_2.toList = ([] : List UInt8) then (laws_FnCookieHead.j0 k (a0_3.toList != ([] : List UInt8)) a0_0 a0_1 a0_2 a0_3 a0_4 a0_5 a0_6 a0_7 a0_8) else ((laws_word.f k a0_2).bind fun t209 => (if t209 = true then (laws_FnCookieHead.j0 k (a0_3.toList != ([] : List UInt8)) a0_0 a0_1 a0_2 a0_3 a0_4 a0_5 a0_6 a0_7 a0_8) else (laws_FnCookieHead.j0 k true a0_0 a0_1 a0_2 a0_3 a0_4 a0_5 a0_6 a0_7 a0_8)))) else (laws_FnCookieHead.j0 k true a0_0 a0_1 a0_2 a0_3 a0_4 a0_5 a0_6 a0_7 a0_8))) else (laws_FnCookieHead.j0 k true a0_0 a0_1 a0_2 a0_3 a0_4 a0_5 a0_6 a0_7 a0_8))) else (laws_FnCookieHead.j0 k true a0_0 a0_1 a0_2 a0_3 a0_4 a0_5 a0_6 a0_7 a0_8)) = some r := H
        have A11 := Aside0.mk A110
        clear A110
        by_cases c12 : t203 = true
        · subst c12
          have H1 : ((laws_token.f k a0_1).bind fun t204 => (if t204 = true then ((laws_short.f k (([a0_0, a0_1, a0_2, a0_3] : List ByteArray))).bind fun t208 => (if t208 = true then (if a0_2.toList = ([] : List UInt8) then (laws_FnCookieHead.j0 k (a0_3.toList != ([] : List UInt8)) a0_0 a0_1 a0_2 a0_3 a0_4 a0_5 a0_6 a0_7 a0_8) else ((laws_word.f k a0_2).bind fun t209 => (if t209 = true then (laws_FnCookieHead.j0 k (a0_3.toList != ([] : List UInt8)) a0_0 a0_1 a0_2 a0_3 a0_4 a0_5 a0_6 a0_7 a0_8) else (laws_FnCookieHead.j0 k true a0_0 a0_1 a0_2 a0_3 a0_4 a0_5 a0_6 a0_7 a0_8)))) else (laws_FnCookieHead.j0 k true a0_0 a0_1 a0_2 a0_3 a0_4 a0_5 a0_6 a0_7 a0_8))) else (laws_FnCookieHead.j0 k true a0_0 a0_1 a0_2 a0_3 a0_4 a0_5 a0_6 a0_7 a0_8))) = some r := by rw [if_pos rfl] at H; exact H
          clear H
          have H := H1
          clear H1
          replace H := Option.bind_eq_some_iff.mp H
          obtain ⟨t204, A130, H⟩ := H
          replace H : (if t204 = true then ((laws_short.f k (([a0_0, a0_1, a0_2, a0_3] : List ByteArray))).bind fun t208 => (if t208 = true then (if a0_2.toList = ([] : List UInt8) then (laws_FnCookieHead.j0 k (a0_3.toList != ([] : List UInt8)) a0_0 a0_1 a0_2 a0_3 a0_4 a0_5 a0_6 a0_7 a0_8) else ((laws_word.f k a0_2).bind fun t209 => (if t209 = true then (laws_FnCookieHead.j0 k (a0_3.toList != ([] : List UInt8)) a0_0 a0_1 a0_2 a0_3 a0_4 a0_5 a0_6 a0_7 a0_8) else (laws_FnCookieHead.j0 k true a0_0 a0_1 a0_2 a0_3 a0_4 a0_5 a0_6 a0_7 a0_8)))) else (laws_FnCookieHead.j0 k true a0_0 a0_1 a0_2 a0_3 a0_4 a0_5 a0_6 a0_7 a0_8))) else (laws_FnCookieHead.j0 k true a0_0 a0_1 a0_2 a0_3 a0_4 a0_5 a0_6 a0_7 a0_8)) = some r := H
          have A13 := Aside0.mk A130
          clear A130
          by_cases c14 : t204 = true
          · subst c14
            have H1 : ((laws_short.f k (([a0_0, a0_1, a0_2, a0_3] : List ByteArray))).bind fun t208 => (if t208 = true then (if a0_2.toList = ([] : List UInt8) then (laws_FnCookieHead.j0 k (a0_3.toList != ([] : List UInt8)) a0_0 a0_1 a0_2 a0_3 a0_4 a0_5 a0_6 a0_7 a0_8) else ((laws_word.f k a0_2).bind fun t209 => (if t209 = true then (laws_FnCookieHead.j0 k (a0_3.toList != ([] : List UInt8)) a0_0 a0_1 a0_2 a0_3 a0_4 a0_5 a0_6 a0_7 a0_8) else (laws_FnCookieHead.j0 k true a0_0 a0_1 a0_2 a0_3 a0_4 a0_5 a0_6 a0_7 a0_8)))) else (laws_FnCookieHead.j0 k true a0_0 a0_1 a0_2 a0_3 a0_4 a0_5 a0_6 a0_7 a0_8))) = some r := by rw [if_pos rfl] at H; exact H
            clear H
            have H := H1
            clear H1
            obtain ⟨y205, hy205⟩ : ∃ y_ : List ByteArray, y_ = (([a0_0, a0_1, a0_2, a0_3] : List ByteArray)) := ⟨_, rfl⟩
            replace H : ((laws_short.f k y205).bind fun t208 => (if t208 = true then (if a0_2.toList = ([] : List UInt8) then (laws_FnCookieHead.j0 k (a0_3.toList != ([] : List UInt8)) a0_0 a0_1 a0_2 a0_3 a0_4 a0_5 a0_6 a0_7 a0_8) else ((laws_word.f k a0_2).bind fun t209 => (if t209 = true then (laws_FnCookieHead.j0 k (a0_3.toList != ([] : List UInt8)) a0_0 a0_1 a0_2 a0_3 a0_4 a0_5 a0_6 a0_7 a0_8) else (laws_FnCookieHead.j0 k true a0_0 a0_1 a0_2 a0_3 a0_4 a0_5 a0_6 a0_7 a0_8)))) else (laws_FnCookieHead.j0 k true a0_0 a0_1 a0_2 a0_3 a0_4 a0_5 a0_6 a0_7 a0_8))) = some r := by first | (rw [hy205]; with_reducible exact H) | (have H2_ := (Option.bind_some _ _).symm.trans H; rw [hy205]; with_reducible exact H2_) | (have H2_ := (Option.bind_some _ _).symm.trans H; with_reducible exact H2_) | with_reducible exact H | (rw [hy205]; exact H) | exact H
            have Ny205 := Aside0.mk hy205
            clear hy205
            replace H := Option.bind_eq_some_iff.mp H
            obtain ⟨t208, A150, H⟩ := H
            replace H : (if t208 = true then (if a0_2.toList = ([] : List UInt8) then (laws_FnCookieHead.j0 k (a0_3.toList != ([] : List UInt8)) a0_0 a0_1 a0_2 a0_3 a0_4 a0_5 a0_6 a0_7 a0_8) else ((laws_word.f k a0_2).bind fun t209 => (if t209 = true then (laws_FnCookieHead.j0 k (a0_3.toList != ([] : List UInt8)) a0_0 a0_1 a0_2 a0_3 a0_4 a0_5 a0_6 a0_7 a0_8) else (laws_FnCookieHead.j0 k true a0_0 a0_1 a0_2 a0_3 a0_4 a0_5 a0_6 a0_7 a0_8)))) else (laws_FnCookieHead.j0 k true a0_0 a0_1 a0_2 a0_3 a0_4 a0_5 a0_6 a0_7 a0_8)) = some r := H
            have A15 := Aside0.mk A150
            clear A150
            by_cases c16 : t208 = true
            · subst c16
              have H1 : (if a0_2.toList = ([] : List UInt8) then (laws_FnCookieHead.j0 k (a0_3.toList != ([] : List UInt8)) a0_0 a0_1 a0_2 a0_3 a0_4 a0_5 a0_6 a0_7 a0_8) else ((laws_word.f k a0_2).bind fun t209 => (if t209 = true then (laws_FnCookieHead.j0 k (a0_3.toList != ([] : List UInt8)) a0_0 a0_1 a0_2 a0_3 a0_4 a0_5 a0_6 a0_7 a0_8) else (laws_FnCookieHead.j0 k true a0_0 a0_1 a0_2 a0_3 a0_4 a0_5 a0_6 a0_7 a0_8)))) = some r := by rw [if_pos rfl] at H; exact H
              clear H
              have H := H1
              clear H1
              by_cases c17 : a0_2.toList = ([] : List UInt8)
              · rw [if_pos c17] at H
                have c17b0 : (a0_2.toList == ([] : List UInt8)) = true := beq_iff_eq.mpr c17
                have c17b1 : (a0_2.toList != ([] : List UInt8)) = false := bne_eq_false_iff_eq.mpr c17
                clear c17
                (first | rw [c17b0] | (simp only [i64_w, i32_w]; rw [c17b0]) | (rw [Go.Proofs.YtfbllodbcmcndaaX.isEmpty_eq]; rw [c17b0]) | skip)
                have H' := Aside0.mk H
                clear H
                have hcz18_0 : w10.cell? ⟨gb200, 0, none⟩ = some (.string a0_0) := (blk_cell BK200.out 0).trans rfl
                have hcz18_1 : w10.cell? ⟨gb200, 1, none⟩ = some (.string a0_1) := (blk_cell BK200.out 1).trans rfl
                have hcz18_2 : w10.cell? ⟨gb200, 2, none⟩ = some (.string a0_2) := (blk_cell BK200.out 2).trans rfl
                have hcz18_3 : w10.cell? ⟨gb200, 3, none⟩ = some (.string a0_3) := (blk_cell BK200.out 3).trans rfl
                have hcz18_4 : w10.cell? ⟨gb200, 4, none⟩ = some (.int .i64 a0_4) := (blk_cell BK200.out 4).trans rfl
                have hcz18_5 : w10.cell? ⟨gb200, 5, none⟩ = some (.int .i64 a0_5) := (blk_cell BK200.out 5).trans rfl
                have hcz18_6 : w10.cell? ⟨gb200, 6, none⟩ = some (.bool a0_6) := (blk_cell BK200.out 6).trans rfl
                have hcz18_7 : w10.cell? ⟨gb200, 7, none⟩ = some (.bool a0_7) := (blk_cell BK200.out 7).trans rfl
                have hcz18_8 : w10.cell? ⟨gb200, 8, none⟩ = some (.bool a0_8) := (blk_cell BK200.out 8).trans rfl
                have hfz18_0 := blk_frozen BK200.out 0
                have hfz18_1 := blk_frozen BK200.out 1
                have hfz18_2 := blk_frozen BK200.out 2
                have hfz18_3 := blk_frozen BK200.out 3
                have hfz18_4 := blk_frozen BK200.out 4
                have hfz18_5 := blk_frozen BK200.out 5
                have hfz18_6 := blk_frozen BK200.out 6
                have hfz18_7 := blk_frozen BK200.out 7
                have hfz18_8 := blk_frozen BK200.out 8
                go_wp2_with (first | ((with_reducible refine gate_callee (f := 22) rfl ?_); refine goesL_ (some 13) rfl rfl Try.func22 (by kernel_rfl) rfl #[.string a0_0] rfl (by (try simp only [List.map_toArray, List.map_cons, List.map_nil]); first | done | rfl | (simp only [List.length_drop, List.length_take]; rfl)) ?_; (with_reducible refine (laws_token.calls k a0_0 true _ A11.out).mono ?_); rintro e w' ⟨rfl, ⟨nd, rfl⟩⟩; refine ⟨_, rfl, ?_⟩) | (go_at_call 22; (with_reducible refine (laws_token.calls k a0_1 true _ A13.out).mono ?_); rintro e w' ⟨rfl, ⟨nd, rfl⟩⟩) | ((with_reducible refine gate_dst (N := 30) rfl ?_); (try (refine gate_guard (by rfl) ?_; dsimp only)); refine Kd.R_lit Kd.string _ 9 ?hg (N := 30) ?hd (xs := ([a0_0, a0_1, a0_2, a0_3] : List ByteArray)) (inner := [.string a0_0, .string a0_1, .string a0_2, .string a0_3]) (ok := fun _ => True) (okp := fun _ => True) ?hr ?hp (fun _ hk => hk) trivial (Below.refl _ _) (Nat.le_refl _) (by simp) ?_; (case hd => rfl); (case hg => rfl); (case hr => first | (go_simp; done) | (go_simp; rfl)); (case hp => exact (Reps.one (show Kd.M Kd.string _ _ _ a0_0 [.string a0_0] from rfl) (Reps.one (show Kd.M Kd.string _ _ _ a0_1 [.string a0_1] from rfl) (Reps.one (show Kd.M Kd.string _ _ _ a0_2 [.string a0_2] from rfl) (Reps.one (show Kd.M Kd.string _ _ _ a0_3 [.string a0_3] from rfl) (Reps.none _ _)))))); intro v206 w19 ho20 hb hg_ hnew_; clear hg_ hnew_; (first | rw [← Ny205.out] at ho20 | (simp only [Int.reduceToNat] at ho20; rw [← Ny205.out] at ho20)); have n0_ := Aside0.mk (Kd.R_lower ho20 (below_size (by repeat (first | (with_reducible first | exact HB.out | apply below_alloc | apply pw_below_drewN | apply below_drew1 | refine below_set ?_ GE200.out) | exact HB.out)))); have n1_ := Aside0.mk (blk_below (g := gb200) (o := .cells #[.string a0_0, .string a0_1, .string a0_2, .string a0_3, .int .i64 a0_4, .int .i64 a0_5, .bool a0_6, .bool a0_7, .bool a0_8] 53 (0, 0)) (by (with_reducible repeat (first | refine blk_drewN ?_ _ | refine blk_drew ?_ | refine blk_alloc ?_ _)); exact BK200.out) hb); have n2_ := Aside0.mk (below_step (by repeat (first | (with_reducible first | exact HB.out | apply below_alloc | apply pw_below_drewN | apply below_drew1 | refine below_set ?_ GE200.out) | exact HB.out)) hb); clear BK200; clear HB; have HO207 := n0_; have BK200 := n1_; have HB := n2_; clear n0_ n1_ n2_; clear hb ho20; obtain ⟨Ao21, co21, eo21⟩ := Kd.R_slice HO207.out; subst eo21) | (go_at_call 9; (with_reducible refine (laws_short.calls k _ _ y205 true _ ?side1 ?side2 A15.out).mono ?_); (case side1 => repeat (first | exact (Kd.R_reads' HO207.out).2.2 | (with_reducible refine Kd.C_alloc ?_ _) | (with_reducible refine Kd.C_drewN ?_ _) | (with_reducible refine Kd.C_drew ?_))); (case side2 => exact (Kd.R_reads' HO207.out).2.1); rintro e w' ⟨rfl, ⟨nd, rfl⟩⟩; have hcz22_0 : w19.cell? ⟨gb200, 0, none⟩ = some (.string a0_0) := (blk_cell BK200.out 0).trans rfl; have hcz22_1 : w19.cell? ⟨gb200, 1, none⟩ = some (.string a0_1) := (blk_cell BK200.out 1).trans rfl; have hcz22_2 : w19.cell? ⟨gb200, 2, none⟩ = some (.string a0_2) := (blk_cell BK200.out 2).trans rfl; have hcz22_3 : w19.cell? ⟨gb200, 3, none⟩ = some (.string a0_3) := (blk_cell BK200.out 3).trans rfl; have hcz22_4 : w19.cell? ⟨gb200, 4, none⟩ = some (.int .i64 a0_4) := (blk_cell BK200.out 4).trans rfl; have hcz22_5 : w19.cell? ⟨gb200, 5, none⟩ = some (.int .i64 a0_5) := (blk_cell BK200.out 5).trans rfl; have hcz22_6 : w19.cell? ⟨gb200, 6, none⟩ = some (.bool a0_6) := (blk_cell BK200.out 6).trans rfl; have hcz22_7 : w19.cell? ⟨gb200, 7, none⟩ = some (.bool a0_7) := (blk_cell BK200.out 7).trans rfl; have hcz22_8 : w19.cell? ⟨gb200, 8, none⟩ = some (.bool a0_8) := (blk_cell BK200.out 8).trans rfl; have hfz22_0 := blk_frozen BK200.out 0; have hfz22_1 := blk_frozen BK200.out 1; have hfz22_2 := blk_frozen BK200.out 2; have hfz22_3 := blk_frozen BK200.out 3; have hfz22_4 := blk_frozen BK200.out 4; have hfz22_5 := blk_frozen BK200.out 5; have hfz22_6 := blk_frozen BK200.out 6; have hfz22_7 := blk_frozen BK200.out 7; have hfz22_8 := blk_frozen BK200.out 8))
                go_meet
                case rel => exact ⟨_, ((a0_3.toList != ([] : List UInt8))), (by first | rfl | (simp; done) | (simp [*]; done) | (simp [Go.Proofs.YtfbllodbcmcndaaX.isEmpty_ne]; done)), H', ⟨by first | omega | exact Nat.le_refl _⟩, ⟨by (with_reducible repeat (first | refine blk_drewN ?_ _ | refine blk_drew ?_ | refine blk_alloc ?_ _)); exact BK200.out⟩, ⟨by repeat (first | (with_reducible first | exact HB.out | apply below_alloc | apply pw_below_drewN | apply below_drew1 | refine below_set ?_ GE200.out) | exact HB.out)⟩⟩
              · rw [if_neg c17] at H
                have c17b0 : (a0_2.toList == ([] : List UInt8)) = false := beq_eq_false_iff_ne.mpr c17
                have c17b1 : (a0_2.toList != ([] : List UInt8)) = true := bne_iff_ne.mpr c17
                (first | rw [c17b0] | (simp only [i64_w, i32_w]; rw [c17b0]) | (rw [Go.Proofs.YtfbllodbcmcndaaX.isEmpty_eq]; rw [c17b0]) | skip)
                replace H := Option.bind_eq_some_iff.mp H
                obtain ⟨t209, A230, H⟩ := H
                replace H : (if t209 = true then (laws_FnCookieHead.j0 k (a0_3.toList != ([] : List UInt8)) a0_0 a0_1 a0_2 a0_3 a0_4 a0_5 a0_6 a0_7 a0_8) else (laws_FnCookieHead.j0 k true a0_0 a0_1 a0_2 a0_3 a0_4 a0_5 a0_6 a0_7 a0_8)) = some r := H
                have A23 := Aside0.mk A230
                clear A230
                by_cases c24 : t209 = true
                · subst c24
                  have H1 : (laws_FnCookieHead.j0 k (a0_3.toList != ([] : List UInt8)) a0_0 a0_1 a0_2 a0_3 a0_4 a0_5 a0_6 a0_7 a0_8) = some r := by rw [if_pos rfl] at H; exact H
                  clear H
                  have H := H1
                  clear H1
                  have H' := Aside0.mk H
                  clear H
                  have hcz25_0 : w10.cell? ⟨gb200, 0, none⟩ = some (.string a0_0) := (blk_cell BK200.out 0).trans rfl
                  have hcz25_1 : w10.cell? ⟨gb200, 1, none⟩ = some (.string a0_1) := (blk_cell BK200.out 1).trans rfl
                  have hcz25_2 : w10.cell? ⟨gb200, 2, none⟩ = some (.string a0_2) := (blk_cell BK200.out 2).trans rfl
                  have hcz25_3 : w10.cell? ⟨gb200, 3, none⟩ = some (.string a0_3) := (blk_cell BK200.out 3).trans rfl
                  have hcz25_4 : w10.cell? ⟨gb200, 4, none⟩ = some (.int .i64 a0_4) := (blk_cell BK200.out 4).trans rfl
                  have hcz25_5 : w10.cell? ⟨gb200, 5, none⟩ = some (.int .i64 a0_5) := (blk_cell BK200.out 5).trans rfl
                  have hcz25_6 : w10.cell? ⟨gb200, 6, none⟩ = some (.bool a0_6) := (blk_cell BK200.out 6).trans rfl
                  have hcz25_7 : w10.cell? ⟨gb200, 7, none⟩ = some (.bool a0_7) := (blk_cell BK200.out 7).trans rfl
                  have hcz25_8 : w10.cell? ⟨gb200, 8, none⟩ = some (.bool a0_8) := (blk_cell BK200.out 8).trans rfl
                  have hfz25_0 := blk_frozen BK200.out 0
                  have hfz25_1 := blk_frozen BK200.out 1
                  have hfz25_2 := blk_frozen BK200.out 2
                  have hfz25_3 := blk_frozen BK200.out 3
                  have hfz25_4 := blk_frozen BK200.out 4
                  have hfz25_5 := blk_frozen BK200.out 5
                  have hfz25_6 := blk_frozen BK200.out 6
                  have hfz25_7 := blk_frozen BK200.out 7
                  have hfz25_8 := blk_frozen BK200.out 8
                  go_wp2_with (first | ((with_reducible refine gate_callee (f := 22) rfl ?_); refine goesL_ (some 13) rfl rfl Try.func22 (by kernel_rfl) rfl #[.string a0_0] rfl (by (try simp only [List.map_toArray, List.map_cons, List.map_nil]); first | done | rfl | (simp only [List.length_drop, List.length_take]; rfl)) ?_; (with_reducible refine (laws_token.calls k a0_0 true _ A11.out).mono ?_); rintro e w' ⟨rfl, ⟨nd, rfl⟩⟩; refine ⟨_, rfl, ?_⟩) | (go_at_call 22; (with_reducible refine (laws_token.calls k a0_1 true _ A13.out).mono ?_); rintro e w' ⟨rfl, ⟨nd, rfl⟩⟩) | ((with_reducible refine gate_dst (N := 30) rfl ?_); (try (refine gate_guard (by rfl) ?_; dsimp only)); refine Kd.R_lit Kd.string _ 9 ?hg (N := 30) ?hd (xs := ([a0_0, a0_1, a0_2, a0_3] : List ByteArray)) (inner := [.string a0_0, .string a0_1, .string a0_2, .string a0_3]) (ok := fun _ => True) (okp := fun _ => True) ?hr ?hp (fun _ hk => hk) trivial (Below.refl _ _) (Nat.le_refl _) (by simp) ?_; (case hd => rfl); (case hg => rfl); (case hr => first | (go_simp; done) | (go_simp; rfl)); (case hp => exact (Reps.one (show Kd.M Kd.string _ _ _ a0_0 [.string a0_0] from rfl) (Reps.one (show Kd.M Kd.string _ _ _ a0_1 [.string a0_1] from rfl) (Reps.one (show Kd.M Kd.string _ _ _ a0_2 [.string a0_2] from rfl) (Reps.one (show Kd.M Kd.string _ _ _ a0_3 [.string a0_3] from rfl) (Reps.none _ _)))))); intro v206 w26 ho27 hb hg_ hnew_; clear hg_ hnew_; (first | rw [← Ny205.out] at ho27 | (simp only [Int.reduceToNat] at ho27; rw [← Ny205.out] at ho27)); have n0_ := Aside0.mk (Kd.R_lower ho27 (below_size (by repeat (first | (with_reducible first | exact HB.out | apply below_alloc | apply pw_below_drewN | apply below_drew1 | refine below_set ?_ GE200.out) | exact HB.out)))); have n1_ := Aside0.mk (blk_below (g := gb200) (o := .cells #[.string a0_0, .string a0_1, .string a0_2, .string a0_3, .int .i64 a0_4, .int .i64 a0_5, .bool a0_6, .bool a0_7, .bool a0_8] 53 (0, 0)) (by (with_reducible repeat (first | refine blk_drewN ?_ _ | refine blk_drew ?_ | refine blk_alloc ?_ _)); exact BK200.out) hb); have n2_ := Aside0.mk (below_step (by repeat (first | (with_reducible first | exact HB.out | apply below_alloc | apply pw_below_drewN | apply below_drew1 | refine below_set ?_ GE200.out) | exact HB.out)) hb); clear BK200; clear HB; have HO207 := n0_; have BK200 := n1_; have HB := n2_; clear n0_ n1_ n2_; clear hb ho27; obtain ⟨Ao28, co28, eo28⟩ := Kd.R_slice HO207.out; subst eo28) | (go_at_call 9; (with_reducible refine (laws_short.calls k _ _ y205 true _ ?side1 ?side2 A15.out).mono ?_); (case side1 => repeat (first | exact (Kd.R_reads' HO207.out).2.2 | (with_reducible refine Kd.C_alloc ?_ _) | (with_reducible refine Kd.C_drewN ?_ _) | (with_reducible refine Kd.C_drew ?_))); (case side2 => exact (Kd.R_reads' HO207.out).2.1); rintro e w' ⟨rfl, ⟨nd, rfl⟩⟩; have hcz29_0 : w26.cell? ⟨gb200, 0, none⟩ = some (.string a0_0) := (blk_cell BK200.out 0).trans rfl; have hcz29_1 : w26.cell? ⟨gb200, 1, none⟩ = some (.string a0_1) := (blk_cell BK200.out 1).trans rfl; have hcz29_2 : w26.cell? ⟨gb200, 2, none⟩ = some (.string a0_2) := (blk_cell BK200.out 2).trans rfl; have hcz29_3 : w26.cell? ⟨gb200, 3, none⟩ = some (.string a0_3) := (blk_cell BK200.out 3).trans rfl; have hcz29_4 : w26.cell? ⟨gb200, 4, none⟩ = some (.int .i64 a0_4) := (blk_cell BK200.out 4).trans rfl; have hcz29_5 : w26.cell? ⟨gb200, 5, none⟩ = some (.int .i64 a0_5) := (blk_cell BK200.out 5).trans rfl; have hcz29_6 : w26.cell? ⟨gb200, 6, none⟩ = some (.bool a0_6) := (blk_cell BK200.out 6).trans rfl; have hcz29_7 : w26.cell? ⟨gb200, 7, none⟩ = some (.bool a0_7) := (blk_cell BK200.out 7).trans rfl; have hcz29_8 : w26.cell? ⟨gb200, 8, none⟩ = some (.bool a0_8) := (blk_cell BK200.out 8).trans rfl; have hfz29_0 := blk_frozen BK200.out 0; have hfz29_1 := blk_frozen BK200.out 1; have hfz29_2 := blk_frozen BK200.out 2; have hfz29_3 := blk_frozen BK200.out 3; have hfz29_4 := blk_frozen BK200.out 4; have hfz29_5 := blk_frozen BK200.out 5; have hfz29_6 := blk_frozen BK200.out 6; have hfz29_7 := blk_frozen BK200.out 7; have hfz29_8 := blk_frozen BK200.out 8) | (go_at_call 23; (with_reducible refine (laws_word.calls k a0_2 true _ A23.out).mono ?_); rintro e w' ⟨rfl, ⟨nd, rfl⟩⟩))
                  go_meet
                  case rel => exact ⟨_, ((a0_3.toList != ([] : List UInt8))), (by first | rfl | (simp; done) | (simp [*]; done) | (simp [Go.Proofs.YtfbllodbcmcndaaX.isEmpty_ne]; done)), H', ⟨by first | omega | exact Nat.le_refl _⟩, ⟨by (with_reducible repeat (first | refine blk_drewN ?_ _ | refine blk_drew ?_ | refine blk_alloc ?_ _)); exact BK200.out⟩, ⟨by repeat (first | (with_reducible first | exact HB.out | apply below_alloc | apply pw_below_drewN | apply below_drew1 | refine below_set ?_ GE200.out) | exact HB.out)⟩⟩
                · replace c24 := Bool.eq_false_iff.mpr c24
                  subst c24
                  have H1 : (laws_FnCookieHead.j0 k true a0_0 a0_1 a0_2 a0_3 a0_4 a0_5 a0_6 a0_7 a0_8) = some r := by rw [if_neg (show ¬ (false = true) by decide)] at H; exact H
                  clear H
                  have H := H1
                  clear H1
                  have H' := Aside0.mk H
                  clear H
                  have hcz30_0 : w10.cell? ⟨gb200, 0, none⟩ = some (.string a0_0) := (blk_cell BK200.out 0).trans rfl
                  have hcz30_1 : w10.cell? ⟨gb200, 1, none⟩ = some (.string a0_1) := (blk_cell BK200.out 1).trans rfl
                  have hcz30_2 : w10.cell? ⟨gb200, 2, none⟩ = some (.string a0_2) := (blk_cell BK200.out 2).trans rfl
                  have hcz30_3 : w10.cell? ⟨gb200, 3, none⟩ = some (.string a0_3) := (blk_cell BK200.out 3).trans rfl
                  have hcz30_4 : w10.cell? ⟨gb200, 4, none⟩ = some (.int .i64 a0_4) := (blk_cell BK200.out 4).trans rfl
                  have hcz30_5 : w10.cell? ⟨gb200, 5, none⟩ = some (.int .i64 a0_5) := (blk_cell BK200.out 5).trans rfl
                  have hcz30_6 : w10.cell? ⟨gb200, 6, none⟩ = some (.bool a0_6) := (blk_cell BK200.out 6).trans rfl
                  have hcz30_7 : w10.cell? ⟨gb200, 7, none⟩ = some (.bool a0_7) := (blk_cell BK200.out 7).trans rfl
                  have hcz30_8 : w10.cell? ⟨gb200, 8, none⟩ = some (.bool a0_8) := (blk_cell BK200.out 8).trans rfl
                  have hfz30_0 := blk_frozen BK200.out 0
                  have hfz30_1 := blk_frozen BK200.out 1
                  have hfz30_2 := blk_frozen BK200.out 2
                  have hfz30_3 := blk_frozen BK200.out 3
                  have hfz30_4 := blk_frozen BK200.out 4
                  have hfz30_5 := blk_frozen BK200.out 5
                  have hfz30_6 := blk_frozen BK200.out 6
                  have hfz30_7 := blk_frozen BK200.out 7
                  have hfz30_8 := blk_frozen BK200.out 8
                  go_wp2_with (first | ((with_reducible refine gate_callee (f := 22) rfl ?_); refine goesL_ (some 13) rfl rfl Try.func22 (by kernel_rfl) rfl #[.string a0_0] rfl (by (try simp only [List.map_toArray, List.map_cons, List.map_nil]); first | done | rfl | (simp only [List.length_drop, List.length_take]; rfl)) ?_; (with_reducible refine (laws_token.calls k a0_0 true _ A11.out).mono ?_); rintro e w' ⟨rfl, ⟨nd, rfl⟩⟩; refine ⟨_, rfl, ?_⟩) | (go_at_call 22; (with_reducible refine (laws_token.calls k a0_1 true _ A13.out).mono ?_); rintro e w' ⟨rfl, ⟨nd, rfl⟩⟩) | ((with_reducible refine gate_dst (N := 30) rfl ?_); (try (refine gate_guard (by rfl) ?_; dsimp only)); refine Kd.R_lit Kd.string _ 9 ?hg (N := 30) ?hd (xs := ([a0_0, a0_1, a0_2, a0_3] : List ByteArray)) (inner := [.string a0_0, .string a0_1, .string a0_2, .string a0_3]) (ok := fun _ => True) (okp := fun _ => True) ?hr ?hp (fun _ hk => hk) trivial (Below.refl _ _) (Nat.le_refl _) (by simp) ?_; (case hd => rfl); (case hg => rfl); (case hr => first | (go_simp; done) | (go_simp; rfl)); (case hp => exact (Reps.one (show Kd.M Kd.string _ _ _ a0_0 [.string a0_0] from rfl) (Reps.one (show Kd.M Kd.string _ _ _ a0_1 [.string a0_1] from rfl) (Reps.one (show Kd.M Kd.string _ _ _ a0_2 [.string a0_2] from rfl) (Reps.one (show Kd.M Kd.string _ _ _ a0_3 [.string a0_3] from rfl) (Reps.none _ _)))))); intro v206 w31 ho32 hb hg_ hnew_; clear hg_ hnew_; (first | rw [← Ny205.out] at ho32 | (simp only [Int.reduceToNat] at ho32; rw [← Ny205.out] at ho32)); have n0_ := Aside0.mk (Kd.R_lower ho32 (below_size (by repeat (first | (with_reducible first | exact HB.out | apply below_alloc | apply pw_below_drewN | apply below_drew1 | refine below_set ?_ GE200.out) | exact HB.out)))); have n1_ := Aside0.mk (blk_below (g := gb200) (o := .cells #[.string a0_0, .string a0_1, .string a0_2, .string a0_3, .int .i64 a0_4, .int .i64 a0_5, .bool a0_6, .bool a0_7, .bool a0_8] 53 (0, 0)) (by (with_reducible repeat (first | refine blk_drewN ?_ _ | refine blk_drew ?_ | refine blk_alloc ?_ _)); exact BK200.out) hb); have n2_ := Aside0.mk (below_step (by repeat (first | (with_reducible first | exact HB.out | apply below_alloc | apply pw_below_drewN | apply below_drew1 | refine below_set ?_ GE200.out) | exact HB.out)) hb); clear BK200; clear HB; have HO207 := n0_; have BK200 := n1_; have HB := n2_; clear n0_ n1_ n2_; clear hb ho32; obtain ⟨Ao33, co33, eo33⟩ := Kd.R_slice HO207.out; subst eo33) | (go_at_call 9; (with_reducible refine (laws_short.calls k _ _ y205 true _ ?side1 ?side2 A15.out).mono ?_); (case side1 => repeat (first | exact (Kd.R_reads' HO207.out).2.2 | (with_reducible refine Kd.C_alloc ?_ _) | (with_reducible refine Kd.C_drewN ?_ _) | (with_reducible refine Kd.C_drew ?_))); (case side2 => exact (Kd.R_reads' HO207.out).2.1); rintro e w' ⟨rfl, ⟨nd, rfl⟩⟩; have hcz34_0 : w31.cell? ⟨gb200, 0, none⟩ = some (.string a0_0) := (blk_cell BK200.out 0).trans rfl; have hcz34_1 : w31.cell? ⟨gb200, 1, none⟩ = some (.string a0_1) := (blk_cell BK200.out 1).trans rfl; have hcz34_2 : w31.cell? ⟨gb200, 2, none⟩ = some (.string a0_2) := (blk_cell BK200.out 2).trans rfl; have hcz34_3 : w31.cell? ⟨gb200, 3, none⟩ = some (.string a0_3) := (blk_cell BK200.out 3).trans rfl; have hcz34_4 : w31.cell? ⟨gb200, 4, none⟩ = some (.int .i64 a0_4) := (blk_cell BK200.out 4).trans rfl; have hcz34_5 : w31.cell? ⟨gb200, 5, none⟩ = some (.int .i64 a0_5) := (blk_cell BK200.out 5).trans rfl; have hcz34_6 : w31.cell? ⟨gb200, 6, none⟩ = some (.bool a0_6) := (blk_cell BK200.out 6).trans rfl; have hcz34_7 : w31.cell? ⟨gb200, 7, none⟩ = some (.bool a0_7) := (blk_cell BK200.out 7).trans rfl; have hcz34_8 : w31.cell? ⟨gb200, 8, none⟩ = some (.bool a0_8) := (blk_cell BK200.out 8).trans rfl; have hfz34_0 := blk_frozen BK200.out 0; have hfz34_1 := blk_frozen BK200.out 1; have hfz34_2 := blk_frozen BK200.out 2; have hfz34_3 := blk_frozen BK200.out 3; have hfz34_4 := blk_frozen BK200.out 4; have hfz34_5 := blk_frozen BK200.out 5; have hfz34_6 := blk_frozen BK200.out 6; have hfz34_7 := blk_frozen BK200.out 7; have hfz34_8 := blk_frozen BK200.out 8) | (go_at_call 23; (with_reducible refine (laws_word.calls k a0_2 false _ A23.out).mono ?_); rintro e w' ⟨rfl, ⟨nd, rfl⟩⟩))
                  go_meet
                  case rel => exact ⟨_, (true), (by first | rfl | (simp; done) | (simp [*]; done) | (simp [Go.Proofs.YtfbllodbcmcndaaX.isEmpty_ne]; done)), H', ⟨by first | omega | exact Nat.le_refl _⟩, ⟨by (with_reducible repeat (first | refine blk_drewN ?_ _ | refine blk_drew ?_ | refine blk_alloc ?_ _)); exact BK200.out⟩, ⟨by repeat (first | (with_reducible first | exact HB.out | apply below_alloc | apply pw_below_drewN | apply below_drew1 | refine below_set ?_ GE200.out) | exact HB.out)⟩⟩
            · replace c16 := Bool.eq_false_iff.mpr c16
              subst c16
              have H1 : (laws_FnCookieHead.j0 k true a0_0 a0_1 a0_2 a0_3 a0_4 a0_5 a0_6 a0_7 a0_8) = some r := by rw [if_neg (show ¬ (false = true) by decide)] at H; exact H
              clear H
              have H := H1
              clear H1
              have H' := Aside0.mk H
              clear H
              have hcz35_0 : w10.cell? ⟨gb200, 0, none⟩ = some (.string a0_0) := (blk_cell BK200.out 0).trans rfl
              have hcz35_1 : w10.cell? ⟨gb200, 1, none⟩ = some (.string a0_1) := (blk_cell BK200.out 1).trans rfl
              have hcz35_2 : w10.cell? ⟨gb200, 2, none⟩ = some (.string a0_2) := (blk_cell BK200.out 2).trans rfl
              have hcz35_3 : w10.cell? ⟨gb200, 3, none⟩ = some (.string a0_3) := (blk_cell BK200.out 3).trans rfl
              have hcz35_4 : w10.cell? ⟨gb200, 4, none⟩ = some (.int .i64 a0_4) := (blk_cell BK200.out 4).trans rfl
              have hcz35_5 : w10.cell? ⟨gb200, 5, none⟩ = some (.int .i64 a0_5) := (blk_cell BK200.out 5).trans rfl
              have hcz35_6 : w10.cell? ⟨gb200, 6, none⟩ = some (.bool a0_6) := (blk_cell BK200.out 6).trans rfl
              have hcz35_7 : w10.cell? ⟨gb200, 7, none⟩ = some (.bool a0_7) := (blk_cell BK200.out 7).trans rfl
              have hcz35_8 : w10.cell? ⟨gb200, 8, none⟩ = some (.bool a0_8) := (blk_cell BK200.out 8).trans rfl
              have hfz35_0 := blk_frozen BK200.out 0
              have hfz35_1 := blk_frozen BK200.out 1
              have hfz35_2 := blk_frozen BK200.out 2
              have hfz35_3 := blk_frozen BK200.out 3
              have hfz35_4 := blk_frozen BK200.out 4
              have hfz35_5 := blk_frozen BK200.out 5
              have hfz35_6 := blk_frozen BK200.out 6
              have hfz35_7 := blk_frozen BK200.out 7
              have hfz35_8 := blk_frozen BK200.out 8
              go_wp2_with (first | ((with_reducible refine gate_callee (f := 22) rfl ?_); refine goesL_ (some 13) rfl rfl Try.func22 (by kernel_rfl) rfl #[.string a0_0] rfl (by (try simp only [List.map_toArray, List.map_cons, List.map_nil]); first | done | rfl | (simp only [List.length_drop, List.length_take]; rfl)) ?_; (with_reducible refine (laws_token.calls k a0_0 true _ A11.out).mono ?_); rintro e w' ⟨rfl, ⟨nd, rfl⟩⟩; refine ⟨_, rfl, ?_⟩) | (go_at_call 22; (with_reducible refine (laws_token.calls k a0_1 true _ A13.out).mono ?_); rintro e w' ⟨rfl, ⟨nd, rfl⟩⟩) | ((with_reducible refine gate_dst (N := 30) rfl ?_); (try (refine gate_guard (by rfl) ?_; dsimp only)); refine Kd.R_lit Kd.string _ 9 ?hg (N := 30) ?hd (xs := ([a0_0, a0_1, a0_2, a0_3] : List ByteArray)) (inner := [.string a0_0, .string a0_1, .string a0_2, .string a0_3]) (ok := fun _ => True) (okp := fun _ => True) ?hr ?hp (fun _ hk => hk) trivial (Below.refl _ _) (Nat.le_refl _) (by simp) ?_; (case hd => rfl); (case hg => rfl); (case hr => first | (go_simp; done) | (go_simp; rfl)); (case hp => exact (Reps.one (show Kd.M Kd.string _ _ _ a0_0 [.string a0_0] from rfl) (Reps.one (show Kd.M Kd.string _ _ _ a0_1 [.string a0_1] from rfl) (Reps.one (show Kd.M Kd.string _ _ _ a0_2 [.string a0_2] from rfl) (Reps.one (show Kd.M Kd.string _ _ _ a0_3 [.string a0_3] from rfl) (Reps.none _ _)))))); intro v206 w36 ho37 hb hg_ hnew_; clear hg_ hnew_; (first | rw [← Ny205.out] at ho37 | (simp only [Int.reduceToNat] at ho37; rw [← Ny205.out] at ho37)); have n0_ := Aside0.mk (Kd.R_lower ho37 (below_size (by repeat (first | (with_reducible first | exact HB.out | apply below_alloc | apply pw_below_drewN | apply below_drew1 | refine below_set ?_ GE200.out) | exact HB.out)))); have n1_ := Aside0.mk (blk_below (g := gb200) (o := .cells #[.string a0_0, .string a0_1, .string a0_2, .string a0_3, .int .i64 a0_4, .int .i64 a0_5, .bool a0_6, .bool a0_7, .bool a0_8] 53 (0, 0)) (by (with_reducible repeat (first | refine blk_drewN ?_ _ | refine blk_drew ?_ | refine blk_alloc ?_ _)); exact BK200.out) hb); have n2_ := Aside0.mk (below_step (by repeat (first | (with_reducible first | exact HB.out | apply below_alloc | apply pw_below_drewN | apply below_drew1 | refine below_set ?_ GE200.out) | exact HB.out)) hb); clear BK200; clear HB; have HO207 := n0_; have BK200 := n1_; have HB := n2_; clear n0_ n1_ n2_; clear hb ho37; obtain ⟨Ao38, co38, eo38⟩ := Kd.R_slice HO207.out; subst eo38) | (go_at_call 9; (with_reducible refine (laws_short.calls k _ _ y205 false _ ?side1 ?side2 A15.out).mono ?_); (case side1 => repeat (first | exact (Kd.R_reads' HO207.out).2.2 | (with_reducible refine Kd.C_alloc ?_ _) | (with_reducible refine Kd.C_drewN ?_ _) | (with_reducible refine Kd.C_drew ?_))); (case side2 => exact (Kd.R_reads' HO207.out).2.1); rintro e w' ⟨rfl, ⟨nd, rfl⟩⟩))
              go_meet
              case rel => exact ⟨_, (true), (by first | rfl | (simp; done) | (simp [*]; done) | (simp [Go.Proofs.YtfbllodbcmcndaaX.isEmpty_ne]; done)), H', ⟨by first | omega | exact Nat.le_refl _⟩, ⟨by (with_reducible repeat (first | refine blk_drewN ?_ _ | refine blk_drew ?_ | refine blk_alloc ?_ _)); exact BK200.out⟩, ⟨by repeat (first | (with_reducible first | exact HB.out | apply below_alloc | apply pw_below_drewN | apply below_drew1 | refine below_set ?_ GE200.out) | exact HB.out)⟩⟩
          · replace c14 := Bool.eq_false_iff.mpr c14
            subst c14
            have H1 : (laws_FnCookieHead.j0 k true a0_0 a0_1 a0_2 a0_3 a0_4 a0_5 a0_6 a0_7 a0_8) = some r := by rw [if_neg (show ¬ (false = true) by decide)] at H; exact H
            clear H
            have H := H1
            clear H1
            have H' := Aside0.mk H
            clear H
            have hcz39_0 : w10.cell? ⟨gb200, 0, none⟩ = some (.string a0_0) := (blk_cell BK200.out 0).trans rfl
            have hcz39_1 : w10.cell? ⟨gb200, 1, none⟩ = some (.string a0_1) := (blk_cell BK200.out 1).trans rfl
            have hcz39_2 : w10.cell? ⟨gb200, 2, none⟩ = some (.string a0_2) := (blk_cell BK200.out 2).trans rfl
            have hcz39_3 : w10.cell? ⟨gb200, 3, none⟩ = some (.string a0_3) := (blk_cell BK200.out 3).trans rfl
            have hcz39_4 : w10.cell? ⟨gb200, 4, none⟩ = some (.int .i64 a0_4) := (blk_cell BK200.out 4).trans rfl
            have hcz39_5 : w10.cell? ⟨gb200, 5, none⟩ = some (.int .i64 a0_5) := (blk_cell BK200.out 5).trans rfl
            have hcz39_6 : w10.cell? ⟨gb200, 6, none⟩ = some (.bool a0_6) := (blk_cell BK200.out 6).trans rfl
            have hcz39_7 : w10.cell? ⟨gb200, 7, none⟩ = some (.bool a0_7) := (blk_cell BK200.out 7).trans rfl
            have hcz39_8 : w10.cell? ⟨gb200, 8, none⟩ = some (.bool a0_8) := (blk_cell BK200.out 8).trans rfl
            have hfz39_0 := blk_frozen BK200.out 0
            have hfz39_1 := blk_frozen BK200.out 1
            have hfz39_2 := blk_frozen BK200.out 2
            have hfz39_3 := blk_frozen BK200.out 3
            have hfz39_4 := blk_frozen BK200.out 4
            have hfz39_5 := blk_frozen BK200.out 5
            have hfz39_6 := blk_frozen BK200.out 6
            have hfz39_7 := blk_frozen BK200.out 7
            have hfz39_8 := blk_frozen BK200.out 8
            go_wp2_with (first | ((with_reducible refine gate_callee (f := 22) rfl ?_); refine goesL_ (some 13) rfl rfl Try.func22 (by kernel_rfl) rfl #[.string a0_0] rfl (by (try simp only [List.map_toArray, List.map_cons, List.map_nil]); first | done | rfl | (simp only [List.length_drop, List.length_take]; rfl)) ?_; (with_reducible refine (laws_token.calls k a0_0 true _ A11.out).mono ?_); rintro e w' ⟨rfl, ⟨nd, rfl⟩⟩; refine ⟨_, rfl, ?_⟩) | (go_at_call 22; (with_reducible refine (laws_token.calls k a0_1 false _ A13.out).mono ?_); rintro e w' ⟨rfl, ⟨nd, rfl⟩⟩))
            go_meet
            case rel => exact ⟨_, (true), (by first | rfl | (simp; done) | (simp [*]; done) | (simp [Go.Proofs.YtfbllodbcmcndaaX.isEmpty_ne]; done)), H', ⟨by first | omega | exact Nat.le_refl _⟩, ⟨by (with_reducible repeat (first | refine blk_drewN ?_ _ | refine blk_drew ?_ | refine blk_alloc ?_ _)); exact BK200.out⟩, ⟨by repeat (first | (with_reducible first | exact HB.out | apply below_alloc | apply pw_below_drewN | apply below_drew1 | refine below_set ?_ GE200.out) | exact HB.out)⟩⟩
        · replace c12 := Bool.eq_false_iff.mpr c12
          subst c12
          have H1 : (laws_FnCookieHead.j0 k true a0_0 a0_1 a0_2 a0_3 a0_4 a0_5 a0_6 a0_7 a0_8) = some r := by rw [if_neg (show ¬ (false = true) by decide)] at H; exact H
          clear H
          have H := H1
          clear H1
          have H' := Aside0.mk H
          clear H
          have hcz40_0 : w10.cell? ⟨gb200, 0, none⟩ = some (.string a0_0) := (blk_cell BK200.out 0).trans rfl
          have hcz40_1 : w10.cell? ⟨gb200, 1, none⟩ = some (.string a0_1) := (blk_cell BK200.out 1).trans rfl
          have hcz40_2 : w10.cell? ⟨gb200, 2, none⟩ = some (.string a0_2) := (blk_cell BK200.out 2).trans rfl
          have hcz40_3 : w10.cell? ⟨gb200, 3, none⟩ = some (.string a0_3) := (blk_cell BK200.out 3).trans rfl
          have hcz40_4 : w10.cell? ⟨gb200, 4, none⟩ = some (.int .i64 a0_4) := (blk_cell BK200.out 4).trans rfl
          have hcz40_5 : w10.cell? ⟨gb200, 5, none⟩ = some (.int .i64 a0_5) := (blk_cell BK200.out 5).trans rfl
          have hcz40_6 : w10.cell? ⟨gb200, 6, none⟩ = some (.bool a0_6) := (blk_cell BK200.out 6).trans rfl
          have hcz40_7 : w10.cell? ⟨gb200, 7, none⟩ = some (.bool a0_7) := (blk_cell BK200.out 7).trans rfl
          have hcz40_8 : w10.cell? ⟨gb200, 8, none⟩ = some (.bool a0_8) := (blk_cell BK200.out 8).trans rfl
          have hfz40_0 := blk_frozen BK200.out 0
          have hfz40_1 := blk_frozen BK200.out 1
          have hfz40_2 := blk_frozen BK200.out 2
          have hfz40_3 := blk_frozen BK200.out 3
          have hfz40_4 := blk_frozen BK200.out 4
          have hfz40_5 := blk_frozen BK200.out 5
          have hfz40_6 := blk_frozen BK200.out 6
          have hfz40_7 := blk_frozen BK200.out 7
          have hfz40_8 := blk_frozen BK200.out 8
          go_wp2_with (first | ((with_reducible refine gate_callee (f := 22) rfl ?_); refine goesL_ (some 13) rfl rfl Try.func22 (by kernel_rfl) rfl #[.string a0_0] rfl (by (try simp only [List.map_toArray, List.map_cons, List.map_nil]); first | done | rfl | (simp only [List.length_drop, List.length_take]; rfl)) ?_; (with_reducible refine (laws_token.calls k a0_0 false _ A11.out).mono ?_); rintro e w' ⟨rfl, ⟨nd, rfl⟩⟩; refine ⟨_, rfl, ?_⟩))
          go_meet
          case rel => exact ⟨_, (true), (by first | rfl | (simp; done) | (simp [*]; done) | (simp [Go.Proofs.YtfbllodbcmcndaaX.isEmpty_ne]; done)), H', ⟨by first | omega | exact Nat.le_refl _⟩, ⟨by (with_reducible repeat (first | refine blk_drewN ?_ _ | refine blk_drew ?_ | refine blk_alloc ?_ _)); exact BK200.out⟩, ⟨by repeat (first | (with_reducible first | exact HB.out | apply below_alloc | apply pw_below_drewN | apply below_drew1 | refine below_set ?_ GE200.out) | exact HB.out)⟩⟩
      case rest =>
        clear HC6
        try clear c1
        try clear c2
        try clear p2
        try clear c3
        try clear c5
        try clear c5b0
        try clear c5b1
        try clear c6
        try clear c12
        try clear c14
        try clear c16
        try clear c17
        try clear c17b0
        try clear c17b1
        try clear c20
        try clear c21
        try clear c22
        try clear c24
        try clear hcz18_0
        try clear hcz18_1
        try clear hcz18_2
        try clear hcz18_3
        try clear hcz18_4
        try clear hcz18_5
        try clear hcz18_6
        try clear hcz18_7
        try clear hcz18_8
        try clear hcz22_0
        try clear hcz22_1
        try clear hcz22_2
        try clear hcz22_3
        try clear hcz22_4
        try clear hcz22_5
        try clear hcz22_6
        try clear hcz22_7
        try clear hcz22_8
        try clear hcz25_0
        try clear hcz25_1
        try clear hcz25_2
        try clear hcz25_3
        try clear hcz25_4
        try clear hcz25_5
        try clear hcz25_6
        try clear hcz25_7
        try clear hcz25_8
        try clear hcz29_0
        try clear hcz29_1
        try clear hcz29_2
        try clear hcz29_3
        try clear hcz29_4
        try clear hcz29_5
        try clear hcz29_6
        try clear hcz29_7
        try clear hcz29_8
        try clear hcz30_0
        try clear hcz30_1
        try clear hcz30_2
        try clear hcz30_3
        try clear hcz30_4
        try clear hcz30_5
        try clear hcz30_6
        try clear hcz30_7
        try clear hcz30_8
        try clear hcz34_0
        try clear hcz34_1
        try clear hcz34_2
        try clear hcz34_3
        try clear hcz34_4
        try clear hcz34_5
        try clear hcz34_6
        try clear hcz34_7
        try clear hcz34_8
        try clear hcz35_0
        try clear hcz35_1
        try clear hcz35_2
        try clear hcz35_3
        try clear hcz35_4
        try clear hcz35_5
        try clear hcz35_6
        try clear hcz35_7
        try clear hcz35_8
        try clear hcz39_0
        try clear hcz39_1
        try clear hcz39_2
        try clear hcz39_3
        try clear hcz39_4
        try clear hcz39_5
        try clear hcz39_6
        try clear hcz39_7
        try clear hcz39_8
        try clear hcz40_0
        try clear hcz40_1
        try clear hcz40_2
        try clear hcz40_3
        try clear hcz40_4
        try clear hcz40_5
        try clear hcz40_6
        try clear hcz40_7
        try clear hcz40_8
        try clear hcz8_0
        try clear hcz8_1
        try clear hcz8_2
        try clear hcz8_3
        try clear hcz8_4
        try clear hcz8_5
        try clear hcz8_6
        try clear hcz8_7
        try clear hcz8_8
        try clear hfz18_0
        try clear hfz18_1
        try clear hfz18_2
        try clear hfz18_3
        try clear hfz18_4
        try clear hfz18_5
        try clear hfz18_6
        try clear hfz18_7
        try clear hfz18_8
        try clear hfz22_0
        try clear hfz22_1
        try clear hfz22_2
        try clear hfz22_3
        try clear hfz22_4
        try clear hfz22_5
        try clear hfz22_6
        try clear hfz22_7
        try clear hfz22_8
        try clear hfz25_0
        try clear hfz25_1
        try clear hfz25_2
        try clear hfz25_3
        try clear hfz25_4
        try clear hfz25_5
        try clear hfz25_6
        try clear hfz25_7
        try clear hfz25_8
        try clear hfz29_0
        try clear hfz29_1
        try clear hfz29_2
        try clear hfz29_3
        try clear hfz29_4
        try clear hfz29_5
        try clear hfz29_6
        try clear hfz29_7
        try clear hfz29_8
        try clear hfz30_0
        try clear hfz30_1
        try clear hfz30_2
        try clear hfz30_3
        try clear hfz30_4
        try clear hfz30_5
        try clear hfz30_6
        try clear hfz30_7
        try clear hfz30_8
        try clear hfz34_0
        try clear hfz34_1
        try clear hfz34_2
        try clear hfz34_3
        try clear hfz34_4
        try clear hfz34_5
        try clear hfz34_6
        try clear hfz34_7
        try clear hfz34_8
        try clear hfz35_0
        try clear hfz35_1
        try clear hfz35_2
        try clear hfz35_3
        try clear hfz35_4
        try clear hfz35_5
        try clear hfz35_6
        try clear hfz35_7
        try clear hfz35_8
        try clear hfz39_0
        try clear hfz39_1
        try clear hfz39_2
        try clear hfz39_3
        try clear hfz39_4
        try clear hfz39_5
        try clear hfz39_6
        try clear hfz39_7
        try clear hfz39_8
        try clear hfz40_0
        try clear hfz40_1
        try clear hfz40_2
        try clear hfz40_3
        try clear hfz40_4
        try clear hfz40_5
        try clear hfz40_6
        try clear hfz40_7
        try clear hfz40_8
        try clear hfz8_0
        try clear hfz8_1
        try clear hfz8_2
        try clear hfz8_3
        try clear hfz8_4
        try clear hfz8_5
        try clear hfz8_6
        try clear hfz8_7
        try clear hfz8_8
        obtain ⟨kq, x49_5, rfl, HA, HJ5, BK200, HB⟩ := hcut
        cases kq with
        | zero => exact absurd HA.out (by simp [laws_FnCookieHead.j0])
        | succ kj5 =>
          have H := HA.out
          clear HA
          simp only [laws_FnCookieHead.j0] at H
          by_cases c41 : x49_5 = true
          · subst c41
            have H1 : (some true) = some r := by rw [if_pos rfl] at H; exact H
            clear H
            have H := H1
            clear H1
            obtain rfl := Option.some.inj H
            go_wp2
            go_ret
            exact ⟨by first | rfl | (simp [errW_none, errW_some] <;> rfl) | (simp [*, errW_none, errW_some] <;> rfl), by repeat (first | (with_reducible first | exact HB.out | apply below_alloc | apply pw_below_drewN | apply below_drew1 | refine below_set ?_ GE200.out) | exact HB.out)⟩
          · replace c41 := Bool.eq_false_iff.mpr c41
            subst c41
            have H1 : ((impl_CookieText.f a0_0 a0_1 a0_2 a0_3 a0_4 a0_5 a0_6 a0_7 a0_8).bind fun t210 => (if a0_0.size + 1 ≤ 9223372036854775807 then (if a0_0.size + 1 + a0_1.size ≤ 9223372036854775807 then ((laws_begins.f t210 ((a0_0 ++ (⟨#[61]⟩ : ByteArray)) ++ a0_1)).bind fun t211 => (if t211 = true then (if 0 ≤ ((a0_0.size + 1 + a0_1.size : Nat) : Int) then (if ((a0_0.size + 1 + a0_1.size : Nat) : Int) ≤ (t210.size : Int) then ((laws_low.f (t210.extract (a0_0.size + 1 + a0_1.size) t210.size)).bind fun t212 => (if a0_6 = true then ((laws_stands.f kj5 t212 (⟨#[59, 32, 104, 116, 116, 112, 111, 110, 108, 121]⟩ : ByteArray)).bind fun t213 => (if t213 = true then (if a0_2.toList = ([] : List UInt8) then (if a0_7 = true then ((laws_stands.f kj5 t212 (⟨#[59, 32, 115, 101, 99, 117, 114, 101]⟩ : ByteArray)).bind fun t214 => (some t214)) else (some true)) else ((laws_low.f a0_2).bind fun t215 => (if 9 + t215.size ≤ 9223372036854775807 then ((laws_stands.f kj5 t212 ((⟨#[59, 32, 100, 111, 109, 97, 105, 110, 61]⟩ : ByteArray) ++ t215)).bind fun t216 => (if t216 = true then (if a0_7 = true then ((laws_stands.f kj5 t212 (⟨#[59, 32, 115, 101, 99, 117, 114, 101]⟩ : ByteArray)).bind fun t217 => (some t217)) else (some true)) else (some false))) else (none)))) else (some false))) else (if a0_2.toList = ([] : List UInt8) then (if a0_7 = true then ((laws_stands.f kj5 t212 (⟨#[59, 32, 115, 101, 99, 117, 114, 101]⟩ : ByteArray)).bind fun t218 => (some t218)) else (some true)) else ((laws_low.f a0_2).bind fun t219 => (if 9 + t219.size ≤ 9223372036854775807 then ((laws_stands.f kj5 t212 ((⟨#[59, 32, 100, 111, 109, 97, 105, 110, 61]⟩ : ByteArray) ++ t219)).bind fun t220 => (if t220 = true then (if a0_7 = true then ((laws_stands.f kj5 t212 (⟨#[59, 32, 115, 101, 99, 117, 114, 101]⟩ : ByteArray)).bind fun t221 => (some t221)) else (some true)) else (some false))) else (none)))))) else (none)) else (none)) else (some false))) else (none)) else (none))) = some r := by rw [if_neg (show ¬ (false = true) by decide)] at H; exact H
            clear H
            have H := H1
            clear H1
            replace H := Option.bind_eq_some_iff.mp H
            obtain ⟨t210, A420, H⟩ := H
            replace H : (if a0_0.size + 1 ≤ 9223372036854775807 then (if a0_0.size + 1 + a0_1.size ≤ 9223372036854775807 then ((laws_begins.f t210 ((a0_0 ++ (⟨#[61]⟩ : ByteArray)) ++ a0_1)).bind fun t211 => (if t211 = true then (if 0 ≤ ((a0_0.size + 1 + a0_1.size : Nat) : Int) then (if ((a0_0.size + 1 + a0_1.size : Nat) : Int) ≤ (t210.size : Int) then ((laws_low.f (t210.extract (a0_0.size + 1 + a0_1.size) t210.size)).bind fun t212 => (if a0_6 = true then ((laws_stands.f kj5 t212 (⟨#[59, 32, 104, 116, 116, 112, 111, 110, 108, 121]⟩ : ByteArray)).bind fun t213 => (if t213 = true then (if a0_2.toList = ([] : List UInt8) then (if a0_7 = true then ((laws_stands.f kj5 t212 (⟨#[59, 32, 115, 101, 99, 117, 114, 101]⟩ : ByteArray)).bind fun t214 => (some t214)) else (some true)) else ((laws_low.f a0_2).bind fun t215 => (if 9 + t215.size ≤ 9223372036854775807 then ((laws_stands.f kj5 t212 ((⟨#[59, 32, 100, 111, 109, 97, 105, 110, 61]⟩ : ByteArray) ++ t215)).bind fun t216 => (if t216 = true then (if a0_7 = true then ((laws_stands.f kj5 t212 (⟨#[59, 32, 115, 101, 99, 117, 114, 101]⟩ : ByteArray)).bind fun t217 => (some t217)) else (some true)) else (some false))) else (none)))) else (some false))) else (if a0_2.toList = ([] : List UInt8) then (if a0_7 = true then ((laws_stands.f kj5 t212 (⟨#[59, 32, 115, 101, 99, 117, 114, 101]⟩ : ByteArray)).bind fun t218 => (some t218)) else (some true)) else ((laws_low.f a0_2).bind fun t219 => (if 9 + t219.size ≤ 9223372036854775807 then ((laws_stands.f kj5 t212 ((⟨#[59, 32, 100, 111, 109, 97, 105, 110, 61]⟩ : ByteArray) ++ t219)).bind fun t220 => (if t220 = true then (if a0_7 = true then ((laws_stands.f kj5 t212 (⟨#[59, 32, 115, 101, 99, 117, 114, 101]⟩ : ByteArray)).bind fun t221 => (some t221)) else (some true)) else (some false))) else (none)))))) else (none)) else (none)) else (some false))) else (none)) else (none)) = some r := H
            have A42 := Aside0.mk A420
            clear A420
            by_cases c43 : a0_0.size + 1 ≤ 9223372036854775807
            · rw [if_pos c43] at H
              have c43b0 := eq_true c43
              have c43b1 : decide (a0_0.size + 1 ≤ 9223372036854775807) = true := decide_eq_true c43
              try have c43b2 : (9223372036854775807 < a0_0.size + 1) = False := eq_false (Nat.not_lt.2 c43)
              by_cases c44 : a0_0.size + 1 + a0_1.size ≤ 9223372036854775807
              · rw [if_pos c44] at H
                have c44b0 := eq_true c44
                have c44b1 : decide (a0_0.size + 1 + a0_1.size ≤ 9223372036854775807) = true := decide_eq_true c44
                try have c44b2 : (9223372036854775807 < a0_0.size + 1 + a0_1.size) = False := eq_false (Nat.not_lt.2 c44)
                replace H := Option.bind_eq_some_iff.mp H
                obtain ⟨t211, A450, H⟩ := H
                replace H : (if t211 = true then (if 0 ≤ ((a0_0.size + 1 + a0_1.size : Nat) : Int) then (if ((a0_0.size + 1 + a0_1.size : Nat) : Int) ≤ (t210.size : Int) then ((laws_low.f (t210.extract (a0_0.size + 1 + a0_1.size) t210.size)).bind fun t212 => (if a0_6 = true then ((laws_stands.f kj5 t212 (⟨#[59, 32, 104, 116, 116, 112, 111, 110, 108, 121]⟩ : ByteArray)).bind fun t213 => (if t213 = true then (if a0_2.toList = ([] : List UInt8) then (if a0_7 = true then ((laws_stands.f kj5 t212 (⟨#[59, 32, 115, 101, 99, 117, 114, 101]⟩ : ByteArray)).bind fun t214 => (some t214)) else (some true)) else ((laws_low.f a0_2).bind fun t215 => (if 9 + t215.size ≤ 9223372036854775807 then ((laws_stands.f kj5 t212 ((⟨#[59, 32, 100, 111, 109, 97, 105, 110, 61]⟩ : ByteArray) ++ t215)).bind fun t216 => (if t216 = true then (if a0_7 = true then ((laws_stands.f kj5 t212 (⟨#[59, 32, 115, 101, 99, 117, 114, 101]⟩ : ByteArray)).bind fun t217 => (some t217)) else (some true)) else (some false))) else (none)))) else (some false))) else (if a0_2.toList = ([] : List UInt8) then (if a0_7 = true then ((laws_stands.f kj5 t212 (⟨#[59, 32, 115, 101, 99, 117, 114, 101]⟩ : ByteArray)).bind fun t218 => (some t218)) else (some true)) else ((laws_low.f a0_2).bind fun t219 => (if 9 + t219.size ≤ 9223372036854775807 then ((laws_stands.f kj5 t212 ((⟨#[59, 32, 100, 111, 109, 97, 105, 110, 61]⟩ : ByteArray) ++ t219)).bind fun t220 => (if t220 = true then (if a0_7 = true then ((laws_stands.f kj5 t212 (⟨#[59, 32, 115, 101, 99, 117, 114, 101]⟩ : ByteArray)).bind fun t221 => (some t221)) else (some true)) else (some false))) else (none)))))) else (none)) else (none)) else (some false)) = some r := H
                have A45 := Aside0.mk A450
                clear A450
                by_cases c46 : t211 = true
                · subst c46
                  have H1 : (if 0 ≤ ((a0_0.size + 1 + a0_1.size : Nat) : Int) then (if ((a0_0.size + 1 + a0_1.size : Nat) : Int) ≤ (t210.size : Int) then ((laws_low.f (t210.extract (a0_0.size + 1 + a0_1.size) t210.size)).bind fun t212 => (if a0_6 = true then ((laws_stands.f kj5 t212 (⟨#[59, 32, 104, 116, 116, 112, 111, 110, 108, 121]⟩ : ByteArray)).bind fun t213 => (if t213 = true then (if a0_2.toList = ([] : List UInt8) then (if a0_7 = true then ((laws_stands.f kj5 t212 (⟨#[59, 32, 115, 101, 99, 117, 114, 101]⟩ : ByteArray)).bind fun t214 => (some t214)) else (some true)) else ((laws_low.f a0_2).bind fun t215 => (if 9 + t215.size ≤ 9223372036854775807 then ((laws_stands.f kj5 t212 ((⟨#[59, 32, 100, 111, 109, 97, 105, 110, 61]⟩ : ByteArray) ++ t215)).bind fun t216 => (if t216 = true then (if a0_7 = true then ((laws_stands.f kj5 t212 (⟨#[59, 32, 115, 101, 99, 117, 114, 101]⟩ : ByteArray)).bind fun t217 => (some t217)) else (some true)) else (some false))) else (none)))) else (some false))) else (if a0_2.toList = ([] : List UInt8) then (if a0_7 = true then ((laws_stands.f kj5 t212 (⟨#[59, 32, 115, 101, 99, 117, 114, 101]⟩ : ByteArray)).bind fun t218 => (some t218)) else (some true)) else ((laws_low.f a0_2).bind fun t219 => (if 9 + t219.size ≤ 9223372036854775807 then ((laws_stands.f kj5 t212 ((⟨#[59, 32, 100, 111, 109, 97, 105, 110, 61]⟩ : ByteArray) ++ t219)).bind fun t220 => (if t220 = true then (if a0_7 = true then ((laws_stands.f kj5 t212 (⟨#[59, 32, 115, 101, 99, 117, 114, 101]⟩ : ByteArray)).bind fun t221 => (some t221)) else (some true)) else (some false))) else (none)))))) else (none)) else (none)) = some r := by rw [if_pos rfl] at H; exact H
                  clear H
                  have H := H1
                  clear H1
                  by_cases c47 : 0 ≤ ((a0_0.size + 1 + a0_1.size : Nat) : Int)
                  · rw [if_pos c47] at H
                    have c47b0 := eq_true c47
                    have c47b1 : decide (0 ≤ ((a0_0.size + 1 + a0_1.size : Nat) : Int)) = true := decide_eq_true c47
                    by_cases c48 : ((a0_0.size + 1 + a0_1.size : Nat) : Int) ≤ (t210.size : Int)
                    · rw [if_pos c48] at H
                      have c48b0 := eq_true c48
                      have c48b1 : decide (((a0_0.size + 1 + a0_1.size : Nat) : Int) ≤ (t210.size : Int)) = true := decide_eq_true c48
                      replace H := Option.bind_eq_some_iff.mp H
                      obtain ⟨t212, A490, H⟩ := H
                      replace H : (if a0_6 = true then ((laws_stands.f kj5 t212 (⟨#[59, 32, 104, 116, 116, 112, 111, 110, 108, 121]⟩ : ByteArray)).bind fun t213 => (if t213 = true then (if a0_2.toList = ([] : List UInt8) then (if a0_7 = true then ((laws_stands.f kj5 t212 (⟨#[59, 32, 115, 101, 99, 117, 114, 101]⟩ : ByteArray)).bind fun t214 => (some t214)) else (some true)) else ((laws_low.f a0_2).bind fun t215 => (if 9 + t215.size ≤ 9223372036854775807 then ((laws_stands.f kj5 t212 ((⟨#[59, 32, 100, 111, 109, 97, 105, 110, 61]⟩ : ByteArray) ++ t215)).bind fun t216 => (if t216 = true then (if a0_7 = true then ((laws_stands.f kj5 t212 (⟨#[59, 32, 115, 101, 99, 117, 114, 101]⟩ : ByteArray)).bind fun t217 => (some t217)) else (some true)) else (some false))) else (none)))) else (some false))) else (if a0_2.toList = ([] : List UInt8) then (if a0_7 = true then ((laws_stands.f kj5 t212 (⟨#[59, 32, 115, 101, 99, 117, 114, 101]⟩ : ByteArray)).bind fun t218 => (some t218)) else (some true)) else ((laws_low.f a0_2).bind fun t219 => (if 9 + t219.size ≤ 9223372036854775807 then ((laws_stands.f kj5 t212 ((⟨#[59, 32, 100, 111, 109, 97, 105, 110, 61]⟩ : ByteArray) ++ t219)).bind fun t220 => (if t220 = true then (if a0_7 = true then ((laws_stands.f kj5 t212 (⟨#[59, 32, 115, 101, 99, 117, 114, 101]⟩ : ByteArray)).bind fun t221 => (some t221)) else (some true)) else (some false))) else (none))))) = some r := H
                      have A49 := Aside0.mk A490
                      clear A490
                      by_cases c50 : a0_6 = true
                      · subst c50
                        have H1 : ((laws_stands.f kj5 t212 (⟨#[59, 32, 104, 116, 116, 112, 111, 110, 108, 121]⟩ : ByteArray)).bind fun t213 => (if t213 = true then (if a0_2.toList = ([] : List UInt8) then (if a0_7 = true then ((laws_stands.f kj5 t212 (⟨#[59, 32, 115, 101, 99, 117, 114, 101]⟩ : ByteArray)).bind fun t214 => (some t214)) else (some true)) else ((laws_low.f a0_2).bind fun t215 => (if 9 + t215.size ≤ 9223372036854775807 then ((laws_stands.f kj5 t212 ((⟨#[59, 32, 100, 111, 109, 97, 105, 110, 61]⟩ : ByteArray) ++ t215)).bind fun t216 => (if t216 = true then (if a0_7 = true then ((laws_stands.f kj5 t212 (⟨#[59, 32, 115, 101, 99, 117, 114, 101]⟩ : ByteArray)).bind fun t217 => (some t217)) else (some true)) else (some false))) else (none)))) else (some false))) = some r := by rw [if_pos rfl] at H; exact H
                        clear H
                        have H := H1
                        clear H1
                        replace H := Option.bind_eq_some_iff.mp H
                        obtain ⟨t213, A510, H⟩ := H
                        replace H : (if t213 = true then (if a0_2.toList = ([] : List UInt8) then (if a0_7 = true then ((laws_stands.f kj5 t212 (⟨#[59, 32, 115, 101, 99, 117, 114, 101]⟩ : ByteArray)).bind fun t214 => (some t214)) else (some true)) else ((laws_low.f a0_2).bind fun t215 => (if 9 + t215.size ≤ 9223372036854775807 then ((laws_stands.f kj5 t212 ((⟨#[59, 32, 100, 111, 109, 97, 105, 110, 61]⟩ : ByteArray) ++ t215)).bind fun t216 => (if t216 = true then (if a0_7 = true then ((laws_stands.f kj5 t212 (⟨#[59, 32, 115, 101, 99, 117, 114, 101]⟩ : ByteArray)).bind fun t217 => (some t217)) else (some true)) else (some false))) else (none)))) else (some false)) = some r := H
                        have A51 := Aside0.mk A510
                        clear A510
                        by_cases c52 : t213 = true
                        · subst c52
                          have H1 : (if a0_2.toList = ([] : List UInt8) then (if a0_7 = true then ((laws_stands.f kj5 t212 (⟨#[59, 32, 115, 101, 99, 117, 114, 101]⟩ : ByteArray)).bind fun t214 => (some t214)) else (some true)) else ((laws_low.f a0_2).bind fun t215 => (if 9 + t215.size ≤ 9223372036854775807 then ((laws_stands.f kj5 t212 ((⟨#[59, 32, 100, 111, 109, 97, 105, 110, 61]⟩ : ByteArray) ++ t215)).bind fun t216 => (if t216 = true then (if a0_7 = true then ((laws_stands.f kj5 t212 (⟨#[59, 32, 115, 101, 99, 117, 114, 101]⟩ : ByteArray)).bind fun t217 => (some t217)) else (some true)) else (some false))) else (none)))) = some r := by rw [if_pos rfl] at H; exact H
                          clear H
                          have H := H1
                          clear H1
                          by_cases c53 : a0_2.toList = ([] : List UInt8)
                          · rw [if_pos c53] at H
                            have c53b0 : (a0_2.toList == ([] : List UInt8)) = true := beq_iff_eq.mpr c53
                            have c53b1 : (a0_2.toList != ([] : List UInt8)) = false := bne_eq_false_iff_eq.mpr c53
                            clear c53
                            by_cases c54 : a0_7 = true
                            · subst c54
                              have H1 : ((laws_stands.f kj5 t212 (⟨#[59, 32, 115, 101, 99, 117, 114, 101]⟩ : ByteArray)).bind fun t214 => (some t214)) = some r := by rw [if_pos rfl] at H; exact H
                              clear H
                              have H := H1
                              clear H1
                              replace H := Option.bind_eq_some_iff.mp H
                              obtain ⟨t214, A550, H⟩ := H
                              replace H : (some t214) = some r := H
                              have A55 := Aside0.mk A550
                              clear A550
                              obtain rfl := Option.some.inj H
                              have hcz56_0 : wc.cell? ⟨gb200, 0, none⟩ = some (.string a0_0) := (blk_cell BK200.out 0).trans rfl
                              have hcz56_1 : wc.cell? ⟨gb200, 1, none⟩ = some (.string a0_1) := (blk_cell BK200.out 1).trans rfl
                              have hcz56_2 : wc.cell? ⟨gb200, 2, none⟩ = some (.string a0_2) := (blk_cell BK200.out 2).trans rfl
                              have hcz56_3 : wc.cell? ⟨gb200, 3, none⟩ = some (.string a0_3) := (blk_cell BK200.out 3).trans rfl
                              have hcz56_4 : wc.cell? ⟨gb200, 4, none⟩ = some (.int .i64 a0_4) := (blk_cell BK200.out 4).trans rfl
                              have hcz56_5 : wc.cell? ⟨gb200, 5, none⟩ = some (.int .i64 a0_5) := (blk_cell BK200.out 5).trans rfl
                              have hcz56_6 : wc.cell? ⟨gb200, 6, none⟩ = some (.bool true) := (blk_cell BK200.out 6).trans rfl
                              have hcz56_7 : wc.cell? ⟨gb200, 7, none⟩ = some (.bool true) := (blk_cell BK200.out 7).trans rfl
                              have hcz56_8 : wc.cell? ⟨gb200, 8, none⟩ = some (.bool a0_8) := (blk_cell BK200.out 8).trans rfl
                              have hfz56_0 := blk_frozen BK200.out 0
                              have hfz56_1 := blk_frozen BK200.out 1
                              have hfz56_2 := blk_frozen BK200.out 2
                              have hfz56_3 := blk_frozen BK200.out 3
                              have hfz56_4 := blk_frozen BK200.out 4
                              have hfz56_5 := blk_frozen BK200.out 5
                              have hfz56_6 := blk_frozen BK200.out 6
                              have hfz56_7 := blk_frozen BK200.out 7
                              have hfz56_8 := blk_frozen BK200.out 8
                              go_wp2_with (first | ((with_reducible refine gate_callee (f := 21) rfl ?_); refine goesL_ (some 51) rfl rfl Try.func21 (by kernel_rfl) rfl #[.agg #[.string a0_0, .string a0_1, .string a0_2, .string a0_3, .int .i64 a0_4, .int .i64 a0_5, .bool true, .bool true, .bool a0_8]] rfl (by (try simp only [List.map_toArray, List.map_cons, List.map_nil]); first | done | rfl | (simp only [List.length_drop, List.length_take]; rfl)) ?_; (with_reducible refine (impl_CookieText.calls a0_0 a0_1 a0_2 a0_3 a0_4 a0_5 true true a0_8 t210 _ A42.out).mono ?_); rintro e w57 ⟨rfl, hb⟩; refine ⟨_, rfl, ?_⟩; have n0_ := Aside0.mk (blk_below (g := gb200) (o := .cells #[.string a0_0, .string a0_1, .string a0_2, .string a0_3, .int .i64 a0_4, .int .i64 a0_5, .bool true, .bool true, .bool a0_8] 53 (0, 0)) (by (with_reducible repeat (first | refine blk_drewN ?_ _ | refine blk_drew ?_ | refine blk_alloc ?_ _)); exact BK200.out) hb); have n1_ := Aside0.mk (below_step (by repeat (first | (with_reducible first | exact HB.out | apply below_alloc | apply pw_below_drewN | apply below_drew1 | refine below_set ?_ GE200.out) | exact HB.out)) hb); clear BK200; clear HB; have BK200 := n0_; have HB := n1_; clear n0_ n1_; (try clear hb); (try clear hb2); (try clear hk); (try clear hi); have hcz58_0 : w57.cell? ⟨gb200, 0, none⟩ = some (.string a0_0) := (blk_cell BK200.out 0).trans rfl; have hcz58_1 : w57.cell? ⟨gb200, 1, none⟩ = some (.string a0_1) := (blk_cell BK200.out 1).trans rfl; have hcz58_2 : w57.cell? ⟨gb200, 2, none⟩ = some (.string a0_2) := (blk_cell BK200.out 2).trans rfl; have hcz58_3 : w57.cell? ⟨gb200, 3, none⟩ = some (.string a0_3) := (blk_cell BK200.out 3).trans rfl; have hcz58_4 : w57.cell? ⟨gb200, 4, none⟩ = some (.int .i64 a0_4) := (blk_cell BK200.out 4).trans rfl; have hcz58_5 : w57.cell? ⟨gb200, 5, none⟩ = some (.int .i64 a0_5) := (blk_cell BK200.out 5).trans rfl; have hcz58_6 : w57.cell? ⟨gb200, 6, none⟩ = some (.bool true) := (blk_cell BK200.out 6).trans rfl; have hcz58_7 : w57.cell? ⟨gb200, 7, none⟩ = some (.bool true) := (blk_cell BK200.out 7).trans rfl; have hcz58_8 : w57.cell? ⟨gb200, 8, none⟩ = some (.bool a0_8) := (blk_cell BK200.out 8).trans rfl; have hfz58_0 := blk_frozen BK200.out 0; have hfz58_1 := blk_frozen BK200.out 1; have hfz58_2 := blk_frozen BK200.out 2; have hfz58_3 := blk_frozen BK200.out 3; have hfz58_4 := blk_frozen BK200.out 4; have hfz58_5 := blk_frozen BK200.out 5; have hfz58_6 := blk_frozen BK200.out 6; have hfz58_7 := blk_frozen BK200.out 7; have hfz58_8 := blk_frozen BK200.out 8) | ((with_reducible refine gate_callee (f := 24) rfl ?_); refine goesL_ (some 59) rfl rfl Try.func24 (by kernel_rfl) rfl #[.string t210, .string ((a0_0 ++ (⟨#[61]⟩ : ByteArray)) ++ a0_1)] rfl (by (try simp only [List.map_toArray, List.map_cons, List.map_nil]); first | done | rfl | (simp only [List.length_drop, List.length_take]; rfl)) ?_; (with_reducible refine (laws_begins.calls t210 ((a0_0 ++ (⟨#[61]⟩ : ByteArray)) ++ a0_1) true _ A45.out).mono ?_); rintro e w' ⟨rfl, ⟨nd, rfl⟩⟩; refine ⟨_, rfl, ?_⟩) | ((with_reducible refine gate_callee (f := 25) rfl ?_); refine goesL_ (some 70) rfl rfl Try.func25 (by kernel_rfl) rfl #[.string (t210.extract (a0_0.size + 1 + a0_1.size) t210.size)] rfl (by (try simp only [List.map_toArray, List.map_cons, List.map_nil]); first | done | rfl | (simp only [List.length_drop, List.length_take]; rfl)) ?_; (with_reducible refine (laws_low.calls (t210.extract (a0_0.size + 1 + a0_1.size) t210.size) t212 _ A49.out).mono ?_); rintro e w59 ⟨rfl, hb⟩; refine ⟨_, rfl, ?_⟩; have n0_ := Aside0.mk (blk_below (g := gb200) (o := .cells #[.string a0_0, .string a0_1, .string a0_2, .string a0_3, .int .i64 a0_4, .int .i64 a0_5, .bool true, .bool true, .bool a0_8] 53 (0, 0)) (by (with_reducible repeat (first | refine blk_drewN ?_ _ | refine blk_drew ?_ | refine blk_alloc ?_ _)); exact BK200.out) hb); have n1_ := Aside0.mk (below_step (by repeat (first | (with_reducible first | exact HB.out | apply below_alloc | apply pw_below_drewN | apply below_drew1 | refine below_set ?_ GE200.out) | exact HB.out)) hb); clear BK200; clear HB; have BK200 := n0_; have HB := n1_; clear n0_ n1_; (try clear hb); (try clear hb2); (try clear hk); (try clear hi); have hcz60_0 : w59.cell? ⟨gb200, 0, none⟩ = some (.string a0_0) := (blk_cell BK200.out 0).trans rfl; have hcz60_1 : w59.cell? ⟨gb200, 1, none⟩ = some (.string a0_1) := (blk_cell BK200.out 1).trans rfl; have hcz60_2 : w59.cell? ⟨gb200, 2, none⟩ = some (.string a0_2) := (blk_cell BK200.out 2).trans rfl; have hcz60_3 : w59.cell? ⟨gb200, 3, none⟩ = some (.string a0_3) := (blk_cell BK200.out 3).trans rfl; have hcz60_4 : w59.cell? ⟨gb200, 4, none⟩ = some (.int .i64 a0_4) := (blk_cell BK200.out 4).trans rfl; have hcz60_5 : w59.cell? ⟨gb200, 5, none⟩ = some (.int .i64 a0_5) := (blk_cell BK200.out 5).trans rfl; have hcz60_6 : w59.cell? ⟨gb200, 6, none⟩ = some (.bool true) := (blk_cell BK200.out 6).trans rfl; have hcz60_7 : w59.cell? ⟨gb200, 7, none⟩ = some (.bool true) := (blk_cell BK200.out 7).trans rfl; have hcz60_8 : w59.cell? ⟨gb200, 8, none⟩ = some (.bool a0_8) := (blk_cell BK200.out 8).trans rfl; have hfz60_0 := blk_frozen BK200.out 0; have hfz60_1 := blk_frozen BK200.out 1; have hfz60_2 := blk_frozen BK200.out 2; have hfz60_3 := blk_frozen BK200.out 3; have hfz60_4 := blk_frozen BK200.out 4; have hfz60_5 := blk_frozen BK200.out 5; have hfz60_6 := blk_frozen BK200.out 6; have hfz60_7 := blk_frozen BK200.out 7; have hfz60_8 := blk_frozen BK200.out 8) | (go_at_call 26; (with_reducible refine (laws_stands.calls kj5 t212 (⟨#[59, 32, 104, 116, 116, 112, 111, 110, 108, 121]⟩ : ByteArray) true _ A51.out).mono ?_); rintro e w' ⟨rfl, ⟨nd, rfl⟩⟩) | (go_at_call 26; (with_reducible refine (laws_stands.calls kj5 t212 (⟨#[59, 32, 115, 101, 99, 117, 114, 101]⟩ : ByteArray) t214 _ A55.out).mono ?_); rintro e w' ⟨rfl, ⟨nd, rfl⟩⟩))
                              any_goals (try (exfalso; have zc43b1 := of_decide_eq_true c43b1; have zc44b1 := of_decide_eq_true c44b1; have zc47b1 := of_decide_eq_true c47b1; have zc48b1 := of_decide_eq_true c48b1; omega))
                              go_ret
                              exact ⟨by first | rfl | (simp [errW_none, errW_some] <;> rfl) | (simp [*, errW_none, errW_some] <;> rfl), by repeat (first | (with_reducible first | exact HB.out | apply below_alloc | apply pw_below_drewN | apply below_drew1 | refine below_set ?_ GE200.out) | exact HB.out)⟩
                            · replace c54 := Bool.eq_false_iff.mpr c54
                              subst c54
                              have H1 : (some true) = some r := by rw [if_neg (show ¬ (false = true) by decide)] at H; exact H
                              clear H
                              have H := H1
                              clear H1
                              obtain rfl := Option.some.inj H
                              have hcz61_0 : wc.cell? ⟨gb200, 0, none⟩ = some (.string a0_0) := (blk_cell BK200.out 0).trans rfl
                              have hcz61_1 : wc.cell? ⟨gb200, 1, none⟩ = some (.string a0_1) := (blk_cell BK200.out 1).trans rfl
                              have hcz61_2 : wc.cell? ⟨gb200, 2, none⟩ = some (.string a0_2) := (blk_cell BK200.out 2).trans rfl
                              have hcz61_3 : wc.cell? ⟨gb200, 3, none⟩ = some (.string a0_3) := (blk_cell BK200.out 3).trans rfl
                              have hcz61_4 : wc.cell? ⟨gb200, 4, none⟩ = some (.int .i64 a0_4) := (blk_cell BK200.out 4).trans rfl
                              have hcz61_5 : wc.cell? ⟨gb200, 5, none⟩ = some (.int .i64 a0_5) := (blk_cell BK200.out 5).trans rfl
                              have hcz61_6 : wc.cell? ⟨gb200, 6, none⟩ = some (.bool true) := (blk_cell BK200.out 6).trans rfl
                              have hcz61_7 : wc.cell? ⟨gb200, 7, none⟩ = some (.bool false) := (blk_cell BK200.out 7).trans rfl
                              have hcz61_8 : wc.cell? ⟨gb200, 8, none⟩ = some (.bool a0_8) := (blk_cell BK200.out 8).trans rfl
                              have hfz61_0 := blk_frozen BK200.out 0
                              have hfz61_1 := blk_frozen BK200.out 1
                              have hfz61_2 := blk_frozen BK200.out 2
                              have hfz61_3 := blk_frozen BK200.out 3
                              have hfz61_4 := blk_frozen BK200.out 4
                              have hfz61_5 := blk_frozen BK200.out 5
                              have hfz61_6 := blk_frozen BK200.out 6
                              have hfz61_7 := blk_frozen BK200.out 7
                              have hfz61_8 := blk_frozen BK200.out 8
                              go_wp2_with (first | ((with_reducible refine gate_callee (f := 21) rfl ?_); refine goesL_ (some 51) rfl rfl Try.func21 (by kernel_rfl) rfl #[.agg #[.string a0_0, .string a0_1, .string a0_2, .string a0_3, .int .i64 a0_4, .int .i64 a0_5, .bool true, .bool false, .bool a0_8]] rfl (by (try simp only [List.map_toArray, List.map_cons, List.map_nil]); first | done | rfl | (simp only [List.length_drop, List.length_take]; rfl)) ?_; (with_reducible refine (impl_CookieText.calls a0_0 a0_1 a0_2 a0_3 a0_4 a0_5 true false a0_8 t210 _ A42.out).mono ?_); rintro e w62 ⟨rfl, hb⟩; refine ⟨_, rfl, ?_⟩; have n0_ := Aside0.mk (blk_below (g := gb200) (o := .cells #[.string a0_0, .string a0_1, .string a0_2, .string a0_3, .int .i64 a0_4, .int .i64 a0_5, .bool true, .bool false, .bool a0_8] 53 (0, 0)) (by (with_reducible repeat (first | refine blk_drewN ?_ _ | refine blk_drew ?_ | refine blk_alloc ?_ _)); exact BK200.out) hb); have n1_ := Aside0.mk (below_step (by repeat (first | (with_reducible first | exact HB.out | apply below_alloc | apply pw_below_drewN | apply below_drew1 | refine below_set ?_ GE200.out) | exact HB.out)) hb); clear BK200; clear HB; have BK200 := n0_; have HB := n1_; clear n0_ n1_; (try clear hb); (try clear hb2); (try clear hk); (try clear hi); have hcz63_0 : w62.cell? ⟨gb200, 0, none⟩ = some (.string a0_0) := (blk_cell BK200.out 0).trans rfl; have hcz63_1 : w62.cell? ⟨gb200, 1, none⟩ = some (.string a0_1) := (blk_cell BK200.out 1).trans rfl; have hcz63_2 : w62.cell? ⟨gb200, 2, none⟩ = some (.string a0_2) := (blk_cell BK200.out 2).trans rfl; have hcz63_3 : w62.cell? ⟨gb200, 3, none⟩ = some (.string a0_3) := (blk_cell BK200.out 3).trans rfl; have hcz63_4 : w62.cell? ⟨gb200, 4, none⟩ = some (.int .i64 a0_4) := (blk_cell BK200.out 4).trans rfl; have hcz63_5 : w62.cell? ⟨gb200, 5, none⟩ = some (.int .i64 a0_5) := (blk_cell BK200.out 5).trans rfl; have hcz63_6 : w62.cell? ⟨gb200, 6, none⟩ = some (.bool true) := (blk_cell BK200.out 6).trans rfl; have hcz63_7 : w62.cell? ⟨gb200, 7, none⟩ = some (.bool false) := (blk_cell BK200.out 7).trans rfl; have hcz63_8 : w62.cell? ⟨gb200, 8, none⟩ = some (.bool a0_8) := (blk_cell BK200.out 8).trans rfl; have hfz63_0 := blk_frozen BK200.out 0; have hfz63_1 := blk_frozen BK200.out 1; have hfz63_2 := blk_frozen BK200.out 2; have hfz63_3 := blk_frozen BK200.out 3; have hfz63_4 := blk_frozen BK200.out 4; have hfz63_5 := blk_frozen BK200.out 5; have hfz63_6 := blk_frozen BK200.out 6; have hfz63_7 := blk_frozen BK200.out 7; have hfz63_8 := blk_frozen BK200.out 8) | ((with_reducible refine gate_callee (f := 24) rfl ?_); refine goesL_ (some 59) rfl rfl Try.func24 (by kernel_rfl) rfl #[.string t210, .string ((a0_0 ++ (⟨#[61]⟩ : ByteArray)) ++ a0_1)] rfl (by (try simp only [List.map_toArray, List.map_cons, List.map_nil]); first | done | rfl | (simp only [List.length_drop, List.length_take]; rfl)) ?_; (with_reducible refine (laws_begins.calls t210 ((a0_0 ++ (⟨#[61]⟩ : ByteArray)) ++ a0_1) true _ A45.out).mono ?_); rintro e w' ⟨rfl, ⟨nd, rfl⟩⟩; refine ⟨_, rfl, ?_⟩) | ((with_reducible refine gate_callee (f := 25) rfl ?_); refine goesL_ (some 70) rfl rfl Try.func25 (by kernel_rfl) rfl #[.string (t210.extract (a0_0.size + 1 + a0_1.size) t210.size)] rfl (by (try simp only [List.map_toArray, List.map_cons, List.map_nil]); first | done | rfl | (simp only [List.length_drop, List.length_take]; rfl)) ?_; (with_reducible refine (laws_low.calls (t210.extract (a0_0.size + 1 + a0_1.size) t210.size) t212 _ A49.out).mono ?_); rintro e w64 ⟨rfl, hb⟩; refine ⟨_, rfl, ?_⟩; have n0_ := Aside0.mk (blk_below (g := gb200) (o := .cells #[.string a0_0, .string a0_1, .string a0_2, .string a0_3, .int .i64 a0_4, .int .i64 a0_5, .bool true, .bool false, .bool a0_8] 53 (0, 0)) (by (with_reducible repeat (first | refine blk_drewN ?_ _ | refine blk_drew ?_ | refine blk_alloc ?_ _)); exact BK200.out) hb); have n1_ := Aside0.mk (below_step (by repeat (first | (with_reducible first | exact HB.out | apply below_alloc | apply pw_below_drewN | apply below_drew1 | refine below_set ?_ GE200.out) | exact HB.out)) hb); clear BK200; clear HB; have BK200 := n0_; have HB := n1_; clear n0_ n1_; (try clear hb); (try clear hb2); (try clear hk); (try clear hi); have hcz65_0 : w64.cell? ⟨gb200, 0, none⟩ = some (.string a0_0) := (blk_cell BK200.out 0).trans rfl; have hcz65_1 : w64.cell? ⟨gb200, 1, none⟩ = some (.string a0_1) := (blk_cell BK200.out 1).trans rfl; have hcz65_2 : w64.cell? ⟨gb200, 2, none⟩ = some (.string a0_2) := (blk_cell BK200.out 2).trans rfl; have hcz65_3 : w64.cell? ⟨gb200, 3, none⟩ = some (.string a0_3) := (blk_cell BK200.out 3).trans rfl; have hcz65_4 : w64.cell? ⟨gb200, 4, none⟩ = some (.int .i64 a0_4) := (blk_cell BK200.out 4).trans rfl; have hcz65_5 : w64.cell? ⟨gb200, 5, none⟩ = some (.int .i64 a0_5) := (blk_cell BK200.out 5).trans rfl; have hcz65_6 : w64.cell? ⟨gb200, 6, none⟩ = some (.bool true) := (blk_cell BK200.out 6).trans rfl; have hcz65_7 : w64.cell? ⟨gb200, 7, none⟩ = some (.bool false) := (blk_cell BK200.out 7).trans rfl; have hcz65_8 : w64.cell? ⟨gb200, 8, none⟩ = some (.bool a0_8) := (blk_cell BK200.out 8).trans rfl; have hfz65_0 := blk_frozen BK200.out 0; have hfz65_1 := blk_frozen BK200.out 1; have hfz65_2 := blk_frozen BK200.out 2; have hfz65_3 := blk_frozen BK200.out 3; have hfz65_4 := blk_frozen BK200.out 4; have hfz65_5 := blk_frozen BK200.out 5; have hfz65_6 := blk_frozen BK200.out 6; have hfz65_7 := blk_frozen BK200.out 7; have hfz65_8 := blk_frozen BK200.out 8) | (go_at_call 26; (with_reducible refine (laws_stands.calls kj5 t212 (⟨#[59, 32, 104, 116, 116, 112, 111, 110, 108, 121]⟩ : ByteArray) true _ A51.out).mono ?_); rintro e w' ⟨rfl, ⟨nd, rfl⟩⟩))
                              any_goals (try (exfalso; have zc43b1 := of_decide_eq_true c43b1; have zc44b1 := of_decide_eq_true c44b1; have zc47b1 := of_decide_eq_true c47b1; have zc48b1 := of_decide_eq_true c48b1; omega))
                              go_ret
                              exact ⟨by first | rfl | (simp [errW_none, errW_some] <;> rfl) | (simp [*, errW_none, errW_some] <;> rfl), by repeat (first | (with_reducible first | exact HB.out | apply below_alloc | apply pw_below_drewN | apply below_drew1 | refine below_set ?_ GE200.out) | exact HB.out)⟩
                          · rw [if_neg c53] at H
                            have c53b0 : (a0_2.toList == ([] : List UInt8)) = false := beq_eq_false_iff_ne.mpr c53
                            have c53b1 : (a0_2.toList != ([] : List UInt8)) = true := bne_iff_ne.mpr c53
                            replace H := Option.bind_eq_some_iff.mp H
                            obtain ⟨t215, A660, H⟩ := H
                            replace H : (if 9 + t215.size ≤ 9223372036854775807 then ((laws_stands.f kj5 t212 ((⟨#[59, 32, 100, 111, 109, 97, 105, 110, 61]⟩ : ByteArray) ++ t215)).bind fun t216 => (if t216 = true then (if a0_7 = true then ((laws_stands.f kj5 t212 (⟨#[59, 32, 115, 101, 99, 117, 114, 101]⟩ : ByteArray)).bind fun t217 => (some t217)) else (some true)) else (some false))) else (none)) = some r := H
                            have A66 := Aside0.mk A660
                            clear A660
                            by_cases c67 : 9 + t215.size ≤ 9223372036854775807
                            · rw [if_pos c67] at H
                              have c67b0 := eq_true c67
                              have c67b1 : decide (9 + t215.size ≤ 9223372036854775807) = true := decide_eq_true c67
                              try have c67b2 : (9223372036854775807 < 9 + t215.size) = False := eq_false (Nat.not_lt.2 c67)
                              replace H := Option.bind_eq_some_iff.mp H
                              obtain ⟨t216, A680, H⟩ := H
                              replace H : (if t216 = true then (if a0_7 = true then ((laws_stands.f kj5 t212 (⟨#[59, 32, 115, 101, 99, 117, 114, 101]⟩ : ByteArray)).bind fun t217 => (some t217)) else (some true)) else (some false)) = some r := H
                              have A68 := Aside0.mk A680
                              clear A680
                              by_cases c69 : t216 = true
                              · subst c69
                                have H1 : (if a0_7 = true then ((laws_stands.f kj5 t212 (⟨#[59, 32, 115, 101, 99, 117, 114, 101]⟩ : ByteArray)).bind fun t217 => (some t217)) else (some true)) = some r := by rw [if_pos rfl] at H; exact H
                                clear H
                                have H := H1
                                clear H1
                                by_cases c70 : a0_7 = true
                                · subst c70
                                  have H1 : ((laws_stands.f kj5 t212 (⟨#[59, 32, 115, 101, 99, 117, 114, 101]⟩ : ByteArray)).bind fun t217 => (some t217)) = some r := by rw [if_pos rfl] at H; exact H
                                  clear H
                                  have H := H1
                                  clear H1
                                  replace H := Option.bind_eq_some_iff.mp H
                                  obtain ⟨t217, A710, H⟩ := H
                                  replace H : (some t217) = some r := H
                                  have A71 := Aside0.mk A710
                                  clear A710
                                  obtain rfl := Option.some.inj H
                                  have hcz72_0 : wc.cell? ⟨gb200, 0, none⟩ = some (.string a0_0) := (blk_cell BK200.out 0).trans rfl
                                  have hcz72_1 : wc.cell? ⟨gb200, 1, none⟩ = some (.string a0_1) := (blk_cell BK200.out 1).trans rfl
                                  have hcz72_2 : wc.cell? ⟨gb200, 2, none⟩ = some (.string a0_2) := (blk_cell BK200.out 2).trans rfl
                                  have hcz72_3 : wc.cell? ⟨gb200, 3, none⟩ = some (.string a0_3) := (blk_cell BK200.out 3).trans rfl
                                  have hcz72_4 : wc.cell? ⟨gb200, 4, none⟩ = some (.int .i64 a0_4) := (blk_cell BK200.out 4).trans rfl
                                  have hcz72_5 : wc.cell? ⟨gb200, 5, none⟩ = some (.int .i64 a0_5) := (blk_cell BK200.out 5).trans rfl
                                  have hcz72_6 : wc.cell? ⟨gb200, 6, none⟩ = some (.bool true) := (blk_cell BK200.out 6).trans rfl
                                  have hcz72_7 : wc.cell? ⟨gb200, 7, none⟩ = some (.bool true) := (blk_cell BK200.out 7).trans rfl
                                  have hcz72_8 : wc.cell? ⟨gb200, 8, none⟩ = some (.bool a0_8) := (blk_cell BK200.out 8).trans rfl
                                  have hfz72_0 := blk_frozen BK200.out 0
                                  have hfz72_1 := blk_frozen BK200.out 1
                                  have hfz72_2 := blk_frozen BK200.out 2
                                  have hfz72_3 := blk_frozen BK200.out 3
                                  have hfz72_4 := blk_frozen BK200.out 4
                                  have hfz72_5 := blk_frozen BK200.out 5
                                  have hfz72_6 := blk_frozen BK200.out 6
                                  have hfz72_7 := blk_frozen BK200.out 7
                                  have hfz72_8 := blk_frozen BK200.out 8
                                  go_wp2_with (first | ((with_reducible refine gate_callee (f := 21) rfl ?_); refine goesL_ (some 51) rfl rfl Try.func21 (by kernel_rfl) rfl #[.agg #[.string a0_0, .string a0_1, .string a0_2, .string a0_3, .int .i64 a0_4, .int .i64 a0_5, .bool true, .bool true, .bool a0_8]] rfl (by (try simp only [List.map_toArray, List.map_cons, List.map_nil]); first | done | rfl | (simp only [List.length_drop, List.length_take]; rfl)) ?_; (with_reducible refine (impl_CookieText.calls a0_0 a0_1 a0_2 a0_3 a0_4 a0_5 true true a0_8 t210 _ A42.out).mono ?_); rintro e w73 ⟨rfl, hb⟩; refine ⟨_, rfl, ?_⟩; have n0_ := Aside0.mk (blk_below (g := gb200) (o := .cells #[.string a0_0, .string a0_1, .string a0_2, .string a0_3, .int .i64 a0_4, .int .i64 a0_5, .bool true, .bool true, .bool a0_8] 53 (0, 0)) (by (with_reducible repeat (first | refine blk_drewN ?_ _ | refine blk_drew ?_ | refine blk_alloc ?_ _)); exact BK200.out) hb); have n1_ := Aside0.mk (below_step (by repeat (first | (with_reducible first | exact HB.out | apply below_alloc | apply pw_below_drewN | apply below_drew1 | refine below_set ?_ GE200.out) | exact HB.out)) hb); clear BK200; clear HB; have BK200 := n0_; have HB := n1_; clear n0_ n1_; (try clear hb); (try clear hb2); (try clear hk); (try clear hi); have hcz74_0 : w73.cell? ⟨gb200, 0, none⟩ = some (.string a0_0) := (blk_cell BK200.out 0).trans rfl; have hcz74_1 : w73.cell? ⟨gb200, 1, none⟩ = some (.string a0_1) := (blk_cell BK200.out 1).trans rfl; have hcz74_2 : w73.cell? ⟨gb200, 2, none⟩ = some (.string a0_2) := (blk_cell BK200.out 2).trans rfl; have hcz74_3 : w73.cell? ⟨gb200, 3, none⟩ = some (.string a0_3) := (blk_cell BK200.out 3).trans rfl; have hcz74_4 : w73.cell? ⟨gb200, 4, none⟩ = some (.int .i64 a0_4) := (blk_cell BK200.out 4).trans rfl; have hcz74_5 : w73.cell? ⟨gb200, 5, none⟩ = some (.int .i64 a0_5) := (blk_cell BK200.out 5).trans rfl; have hcz74_6 : w73.cell? ⟨gb200, 6, none⟩ = some (.bool true) := (blk_cell BK200.out 6).trans rfl; have hcz74_7 : w73.cell? ⟨gb200, 7, none⟩ = some (.bool true) := (blk_cell BK200.out 7).trans rfl; have hcz74_8 : w73.cell? ⟨gb200, 8, none⟩ = some (.bool a0_8) := (blk_cell BK200.out 8).trans rfl; have hfz74_0 := blk_frozen BK200.out 0; have hfz74_1 := blk_frozen BK200.out 1; have hfz74_2 := blk_frozen BK200.out 2; have hfz74_3 := blk_frozen BK200.out 3; have hfz74_4 := blk_frozen BK200.out 4; have hfz74_5 := blk_frozen BK200.out 5; have hfz74_6 := blk_frozen BK200.out 6; have hfz74_7 := blk_frozen BK200.out 7; have hfz74_8 := blk_frozen BK200.out 8) | ((with_reducible refine gate_callee (f := 24) rfl ?_); refine goesL_ (some 59) rfl rfl Try.func24 (by kernel_rfl) rfl #[.string t210, .string ((a0_0 ++ (⟨#[61]⟩ : ByteArray)) ++ a0_1)] rfl (by (try simp only [List.map_toArray, List.map_cons, List.map_nil]); first | done | rfl | (simp only [List.length_drop, List.length_take]; rfl)) ?_; (with_reducible refine (laws_begins.calls t210 ((a0_0 ++ (⟨#[61]⟩ : ByteArray)) ++ a0_1) true _ A45.out).mono ?_); rintro e w' ⟨rfl, ⟨nd, rfl⟩⟩; refine ⟨_, rfl, ?_⟩) | ((with_reducible refine gate_callee (f := 25) rfl ?_); refine goesL_ (some 70) rfl rfl Try.func25 (by kernel_rfl) rfl #[.string (t210.extract (a0_0.size + 1 + a0_1.size) t210.size)] rfl (by (try simp only [List.map_toArray, List.map_cons, List.map_nil]); first | done | rfl | (simp only [List.length_drop, List.length_take]; rfl)) ?_; (with_reducible refine (laws_low.calls (t210.extract (a0_0.size + 1 + a0_1.size) t210.size) t212 _ A49.out).mono ?_); rintro e w75 ⟨rfl, hb⟩; refine ⟨_, rfl, ?_⟩; have n0_ := Aside0.mk (blk_below (g := gb200) (o := .cells #[.string a0_0, .string a0_1, .string a0_2, .string a0_3, .int .i64 a0_4, .int .i64 a0_5, .bool true, .bool true, .bool a0_8] 53 (0, 0)) (by (with_reducible repeat (first | refine blk_drewN ?_ _ | refine blk_drew ?_ | refine blk_alloc ?_ _)); exact BK200.out) hb); have n1_ := Aside0.mk (below_step (by repeat (first | (with_reducible first | exact HB.out | apply below_alloc | apply pw_below_drewN | apply below_drew1 | refine below_set ?_ GE200.out) | exact HB.out)) hb); clear BK200; clear HB; have BK200 := n0_; have HB := n1_; clear n0_ n1_; (try clear hb); (try clear hb2); (try clear hk); (try clear hi); have hcz76_0 : w75.cell? ⟨gb200, 0, none⟩ = some (.string a0_0) := (blk_cell BK200.out 0).trans rfl; have hcz76_1 : w75.cell? ⟨gb200, 1, none⟩ = some (.string a0_1) := (blk_cell BK200.out 1).trans rfl; have hcz76_2 : w75.cell? ⟨gb200, 2, none⟩ = some (.string a0_2) := (blk_cell BK200.out 2).trans rfl; have hcz76_3 : w75.cell? ⟨gb200, 3, none⟩ = some (.string a0_3) := (blk_cell BK200.out 3).trans rfl; have hcz76_4 : w75.cell? ⟨gb200, 4, none⟩ = some (.int .i64 a0_4) := (blk_cell BK200.out 4).trans rfl; have hcz76_5 : w75.cell? ⟨gb200, 5, none⟩ = some (.int .i64 a0_5) := (blk_cell BK200.out 5).trans rfl; have hcz76_6 : w75.cell? ⟨gb200, 6, none⟩ = some (.bool true) := (blk_cell BK200.out 6).trans rfl; have hcz76_7 : w75.cell? ⟨gb200, 7, none⟩ = some (.bool true) := (blk_cell BK200.out 7).trans rfl; have hcz76_8 : w75.cell? ⟨gb200, 8, none⟩ = some (.bool a0_8) := (blk_cell BK200.out 8).trans rfl; have hfz76_0 := blk_frozen BK200.out 0; have hfz76_1 := blk_frozen BK200.out 1; have hfz76_2 := blk_frozen BK200.out 2; have hfz76_3 := blk_frozen BK200.out 3; have hfz76_4 := blk_frozen BK200.out 4; have hfz76_5 := blk_frozen BK200.out 5; have hfz76_6 := blk_frozen BK200.out 6; have hfz76_7 := blk_frozen BK200.out 7; have hfz76_8 := blk_frozen BK200.out 8) | (go_at_call 26; (with_reducible refine (laws_stands.calls kj5 t212 (⟨#[59, 32, 104, 116, 116, 112, 111, 110, 108, 121]⟩ : ByteArray) true _ A51.out).mono ?_); rintro e w' ⟨rfl, ⟨nd, rfl⟩⟩) | (go_at_call 25; (with_reducible refine (laws_low.calls a0_2 t215 _ A66.out).mono ?_); rintro e w77 ⟨rfl, hb⟩; have n0_ := Aside0.mk (blk_below (g := gb200) (o := .cells #[.string a0_0, .string a0_1, .string a0_2, .string a0_3, .int .i64 a0_4, .int .i64 a0_5, .bool true, .bool true, .bool a0_8] 53 (0, 0)) (by (with_reducible repeat (first | refine blk_drewN ?_ _ | refine blk_drew ?_ | refine blk_alloc ?_ _)); exact BK200.out) hb); have n1_ := Aside0.mk (below_step (by repeat (first | (with_reducible first | exact HB.out | apply below_alloc | apply pw_below_drewN | apply below_drew1 | refine below_set ?_ GE200.out) | exact HB.out)) hb); clear BK200; clear HB; have BK200 := n0_; have HB := n1_; clear n0_ n1_; (try clear hb); (try clear hb2); (try clear hk); (try clear hi)) | (go_at_call 26; (with_reducible refine (laws_stands.calls kj5 t212 ((⟨#[59, 32, 100, 111, 109, 97, 105, 110, 61]⟩ : ByteArray) ++ t215) true _ A68.out).mono ?_); rintro e w' ⟨rfl, ⟨nd, rfl⟩⟩; have hcz78_0 : w77.cell? ⟨gb200, 0, none⟩ = some (.string a0_0) := (blk_cell BK200.out 0).trans rfl; have hcz78_1 : w77.cell? ⟨gb200, 1, none⟩ = some (.string a0_1) := (blk_cell BK200.out 1).trans rfl; have hcz78_2 : w77.cell? ⟨gb200, 2, none⟩ = some (.string a0_2) := (blk_cell BK200.out 2).trans rfl; have hcz78_3 : w77.cell? ⟨gb200, 3, none⟩ = some (.string a0_3) := (blk_cell BK200.out 3).trans rfl; have hcz78_4 : w77.cell? ⟨gb200, 4, none⟩ = some (.int .i64 a0_4) := (blk_cell BK200.out 4).trans rfl; have hcz78_5 : w77.cell? ⟨gb200, 5, none⟩ = some (.int .i64 a0_5) := (blk_cell BK200.out 5).trans rfl; have hcz78_6 : w77.cell? ⟨gb200, 6, none⟩ = some (.bool true) := (blk_cell BK200.out 6).trans rfl; have hcz78_7 : w77.cell? ⟨gb200, 7, none⟩ = some (.bool true) := (blk_cell BK200.out 7).trans rfl; have hcz78_8 : w77.cell? ⟨gb200, 8, none⟩ = some (.bool a0_8) := (blk_cell BK200.out 8).trans rfl; have hfz78_0 := blk_frozen BK200.out 0; have hfz78_1 := blk_frozen BK200.out 1; have hfz78_2 := blk_frozen BK200.out 2; have hfz78_3 := blk_frozen BK200.out 3; have hfz78_4 := blk_frozen BK200.out 4; have hfz78_5 := blk_frozen BK200.out 5; have hfz78_6 := blk_frozen BK200.out 6; have hfz78_7 := blk_frozen BK200.out 7; have hfz78_8 := blk_frozen BK200.out 8) | (go_at_call 26; (with_reducible refine (laws_stands.calls kj5 t212 (⟨#[59, 32, 115, 101, 99, 117, 114, 101]⟩ : ByteArray) t217 _ A71.out).mono ?_); rintro e w' ⟨rfl, ⟨nd, rfl⟩⟩))
                                  any_goals (try (exfalso; have zc43b1 := of_decide_eq_true c43b1; have zc44b1 := of_decide_eq_true c44b1; have zc47b1 := of_decide_eq_true c47b1; have zc48b1 := of_decide_eq_true c48b1; have zc67b1 := of_decide_eq_true c67b1; omega))
                                  go_ret
                                  exact ⟨by first | rfl | (simp [errW_none, errW_some] <;> rfl) | (simp [*, errW_none, errW_some] <;> rfl), by repeat (first | (with_reducible first | exact HB.out | apply below_alloc | apply pw_below_drewN | apply below_drew1 | refine below_set ?_ GE200.out) | exact HB.out)⟩
                                · replace c70 := Bool.eq_false_iff.mpr c70
                                  subst c70
                                  have H1 : (some true) = some r := by rw [if_neg (show ¬ (false = true) by decide)] at H; exact H
                                  clear H
                                  have H := H1
                                  clear H1
                                  obtain rfl := Option.some.inj H
                                  have hcz79_0 : wc.cell? ⟨gb200, 0, none⟩ = some (.string a0_0) := (blk_cell BK200.out 0).trans rfl
                                  have hcz79_1 : wc.cell? ⟨gb200, 1, none⟩ = some (.string a0_1) := (blk_cell BK200.out 1).trans rfl
                                  have hcz79_2 : wc.cell? ⟨gb200, 2, none⟩ = some (.string a0_2) := (blk_cell BK200.out 2).trans rfl
                                  have hcz79_3 : wc.cell? ⟨gb200, 3, none⟩ = some (.string a0_3) := (blk_cell BK200.out 3).trans rfl
                                  have hcz79_4 : wc.cell? ⟨gb200, 4, none⟩ = some (.int .i64 a0_4) := (blk_cell BK200.out 4).trans rfl
                                  have hcz79_5 : wc.cell? ⟨gb200, 5, none⟩ = some (.int .i64 a0_5) := (blk_cell BK200.out 5).trans rfl
                                  have hcz79_6 : wc.cell? ⟨gb200, 6, none⟩ = some (.bool true) := (blk_cell BK200.out 6).trans rfl
                                  have hcz79_7 : wc.cell? ⟨gb200, 7, none⟩ = some (.bool false) := (blk_cell BK200.out 7).trans rfl
                                  have hcz79_8 : wc.cell? ⟨gb200, 8, none⟩ = some (.bool a0_8) := (blk_cell BK200.out 8).trans rfl
                                  have hfz79_0 := blk_frozen BK200.out 0
                                  have hfz79_1 := blk_frozen BK200.out 1
                                  have hfz79_2 := blk_frozen BK200.out 2
                                  have hfz79_3 := blk_frozen BK200.out 3
                                  have hfz79_4 := blk_frozen BK200.out 4
                                  have hfz79_5 := blk_frozen BK200.out 5
                                  have hfz79_6 := blk_frozen BK200.out 6
                                  have hfz79_7 := blk_frozen BK200.out 7
                                  have hfz79_8 := blk_frozen BK200.out 8
                                  go_wp2_with (first | ((with_reducible refine gate_callee (f := 21) rfl ?_); refine goesL_ (some 51) rfl rfl Try.func21 (by kernel_rfl) rfl #[.agg #[.string a0_0, .string a0_1, .string a0_2, .string a0_3, .int .i64 a0_4, .int .i64 a0_5, .bool true, .bool false, .bool a0_8]] rfl (by (try simp only [List.map_toArray, List.map_cons, List.map_nil]); first | done | rfl | (simp only [List.length_drop, List.length_take]; rfl)) ?_; (with_reducible refine (impl_CookieText.calls a0_0 a0_1 a0_2 a0_3 a0_4 a0_5 true false a0_8 t210 _ A42.out).mono ?_); rintro e w80 ⟨rfl, hb⟩; refine ⟨_, rfl, ?_⟩; have n0_ := Aside0.mk (blk_below (g := gb200) (o := .cells #[.string a0_0, .string a0_1, .string a0_2, .string a0_3, .int .i64 a0_4, .int .i64 a0_5, .bool true, .bool false, .bool a0_8] 53 (0, 0)) (by (with_reducible repeat (first | refine blk_drewN ?_ _ | refine blk_drew ?_ | refine blk_alloc ?_ _)); exact BK200.out) hb); have n1_ := Aside0.mk (below_step (by repeat (first | (with_reducible first | exact HB.out | apply below_alloc | apply pw_below_drewN | apply below_drew1 | refine below_set ?_ GE200.out) | exact HB.out)) hb); clear BK200; clear HB; have BK200 := n0_; have HB := n1_; clear n0_ n1_; (try clear hb); (try clear hb2); (try clear hk); (try clear hi); have hcz81_0 : w80.cell? ⟨gb200, 0, none⟩ = some (.string a0_0) := (blk_cell BK200.out 0).trans rfl; have hcz81_1 : w80.cell? ⟨gb200, 1, none⟩ = some (.string a0_1) := (blk_cell BK200.out 1).trans rfl; have hcz81_2 : w80.cell? ⟨gb200, 2, none⟩ = some (.string a0_2) := (blk_cell BK200.out 2).trans rfl; have hcz81_3 : w80.cell? ⟨gb200, 3, none⟩ = some (.string a0_3) := (blk_cell BK200.out 3).trans rfl; have hcz81_4 : w80.cell? ⟨gb200, 4, none⟩ = some (.int .i64 a0_4) := (blk_cell BK200.out 4).trans rfl; have hcz81_5 : w80.cell? ⟨gb200, 5, none⟩ = some (.int .i64 a0_5) := (blk_cell BK200.out 5).trans rfl; have hcz81_6 : w80.cell? ⟨gb200, 6, none⟩ = some (.bool true) := (blk_cell BK200.out 6).trans rfl; have hcz81_7 : w80.cell? ⟨gb200, 7, none⟩ = some (.bool false) := (blk_cell BK200.out 7).trans rfl; have hcz81_8 : w80.cell? ⟨gb200, 8, none⟩ = some (.bool a0_8) := (blk_cell BK200.out 8).trans rfl; have hfz81_0 := blk_frozen BK200.out 0; have hfz81_1 := blk_frozen BK200.out 1; have hfz81_2 := blk_frozen BK200.out 2; have hfz81_3 := blk_frozen BK200.out 3; have hfz81_4 := blk_frozen BK200.out 4; have hfz81_5 := blk_frozen BK200.out 5; have hfz81_6 := blk_frozen BK200.out 6; have hfz81_7 := blk_frozen BK200.out 7; have hfz81_8 := blk_frozen BK200.out 8) | ((with_reducible refine gate_callee (f := 24) rfl ?_); refine goesL_ (some 59) rfl rfl Try.func24 (by kernel_rfl) rfl #[.string t210, .string ((a0_0 ++ (⟨#[61]⟩ : ByteArray)) ++ a0_1)] rfl (by (try simp only [List.map_toArray, List.map_cons, List.map_nil]); first | done | rfl | (simp only [List.length_drop, List.length_take]; rfl)) ?_; (with_reducible refine (laws_begins.calls t210 ((a0_0 ++ (⟨#[61]⟩ : ByteArray)) ++ a0_1) true _ A45.out).mono ?_); rintro e w' ⟨rfl, ⟨nd, rfl⟩⟩; refine ⟨_, rfl, ?_⟩) | ((with_reducible refine gate_callee (f := 25) rfl ?_); refine goesL_ (some 70) rfl rfl Try.func25 (by kernel_rfl) rfl #[.string (t210.extract (a0_0.size + 1 + a0_1.size) t210.size)] rfl (by (try simp only [List.map_toArray, List.map_cons, List.map_nil]); first | done | rfl | (simp only [List.length_drop, List.length_take]; rfl)) ?_; (with_reducible refine (laws_low.calls (t210.extract (a0_0.size + 1 + a0_1.size) t210.size) t212 _ A49.out).mono ?_); rintro e w82 ⟨rfl, hb⟩; refine ⟨_, rfl, ?_⟩; have n0_ := Aside0.mk (blk_below (g := gb200) (o := .cells #[.string a0_0, .string a0_1, .string a0_2, .string a0_3, .int .i64 a0_4, .int .i64 a0_5, .bool true, .bool false, .bool a0_8] 53 (0, 0)) (by (with_reducible repeat (first | refine blk_drewN ?_ _ | refine blk_drew ?_ | refine blk_alloc ?_ _)); exact BK200.out) hb); have n1_ := Aside0.mk (below_step (by repeat (first | (with_reducible first | exact HB.out | apply below_alloc | apply pw_below_drewN | apply below_drew1 | refine below_set ?_ GE200.out) | exact HB.out)) hb); clear BK200; clear HB; have BK200 := n0_; have HB := n1_; clear n0_ n1_; (try clear hb); (try clear hb2); (try clear hk); (try clear hi); have hcz83_0 : w82.cell? ⟨gb200, 0, none⟩ = some (.string a0_0) := (blk_cell BK200.out 0).trans rfl; have hcz83_1 : w82.cell? ⟨gb200, 1, none⟩ = some (.string a0_1) := (blk_cell BK200.out 1).trans rfl; have hcz83_2 : w82.cell? ⟨gb200, 2, none⟩ = some (.string a0_2) := (blk_cell BK200.out 2).trans rfl; have hcz83_3 : w82.cell? ⟨gb200, 3, none⟩ = some (.string a0_3) := (blk_cell BK200.out 3).trans rfl; have hcz83_4 : w82.cell? ⟨gb200, 4, none⟩ = some (.int .i64 a0_4) := (blk_cell BK200.out 4).trans rfl; have hcz83_5 : w82.cell? ⟨gb200, 5, none⟩ = some (.int .i64 a0_5) := (blk_cell BK200.out 5).trans rfl; have hcz83_6 : w82.cell? ⟨gb200, 6, none⟩ = some (.bool true) := (blk_cell BK200.out 6).trans rfl; have hcz83_7 : w82.cell? ⟨gb200, 7, none⟩ = some (.bool false) := (blk_cell BK200.out 7).trans rfl; have hcz83_8 : w82.cell? ⟨gb200, 8, none⟩ = some (.bool a0_8) := (blk_cell BK200.out 8).trans rfl; have hfz83_0 := blk_frozen BK200.out 0; have hfz83_1 := blk_frozen BK200.out 1; have hfz83_2 := blk_frozen BK200.out 2; have hfz83_3 := blk_frozen BK200.out 3; have hfz83_4 := blk_frozen BK200.out 4; have hfz83_5 := blk_frozen BK200.out 5; have hfz83_6 := blk_frozen BK200.out 6; have hfz83_7 := blk_frozen BK200.out 7; have hfz83_8 := blk_frozen BK200.out 8) | (go_at_call 26; (with_reducible refine (laws_stands.calls kj5 t212 (⟨#[59, 32, 104, 116, 116, 112, 111, 110, 108, 121]⟩ : ByteArray) true _ A51.out).mono ?_); rintro e w' ⟨rfl, ⟨nd, rfl⟩⟩) | (go_at_call 25; (with_reducible refine (laws_low.calls a0_2 t215 _ A66.out).mono ?_); rintro e w84 ⟨rfl, hb⟩; have n0_ := Aside0.mk (blk_below (g := gb200) (o := .cells #[.string a0_0, .string a0_1, .string a0_2, .string a0_3, .int .i64 a0_4, .int .i64 a0_5, .bool true, .bool false, .bool a0_8] 53 (0, 0)) (by (with_reducible repeat (first | refine blk_drewN ?_ _ | refine blk_drew ?_ | refine blk_alloc ?_ _)); exact BK200.out) hb); have n1_ := Aside0.mk (below_step (by repeat (first | (with_reducible first | exact HB.out | apply below_alloc | apply pw_below_drewN | apply below_drew1 | refine below_set ?_ GE200.out) | exact HB.out)) hb); clear BK200; clear HB; have BK200 := n0_; have HB := n1_; clear n0_ n1_; (try clear hb); (try clear hb2); (try clear hk); (try clear hi)) | (go_at_call 26; (with_reducible refine (laws_stands.calls kj5 t212 ((⟨#[59, 32, 100, 111, 109, 97, 105, 110, 61]⟩ : ByteArray) ++ t215) true _ A68.out).mono ?_); rintro e w' ⟨rfl, ⟨nd, rfl⟩⟩; have hcz85_0 : w84.cell? ⟨gb200, 0, none⟩ = some (.string a0_0) := (blk_cell BK200.out 0).trans rfl; have hcz85_1 : w84.cell? ⟨gb200, 1, none⟩ = some (.string a0_1) := (blk_cell BK200.out 1).trans rfl; have hcz85_2 : w84.cell? ⟨gb200, 2, none⟩ = some (.string a0_2) := (blk_cell BK200.out 2).trans rfl; have hcz85_3 : w84.cell? ⟨gb200, 3, none⟩ = some (.string a0_3) := (blk_cell BK200.out 3).trans rfl; have hcz85_4 : w84.cell? ⟨gb200, 4, none⟩ = some (.int .i64 a0_4) := (blk_cell BK200.out 4).trans rfl; have hcz85_5 : w84.cell? ⟨gb200, 5, none⟩ = some (.int .i64 a0_5) := (blk_cell BK200.out 5).trans rfl; have hcz85_6 : w84.cell? ⟨gb200, 6, none⟩ = some (.bool true) := (blk_cell BK200.out 6).trans rfl; have hcz85_7 : w84.cell? ⟨gb200, 7, none⟩ = some (.bool false) := (blk_cell BK200.out 7).trans rfl; have hcz85_8 : w84.cell? ⟨gb200, 8, none⟩ = some (.bool a0_8) := (blk_cell BK200.out 8).trans rfl; have hfz85_0 := blk_frozen BK200.out 0; have hfz85_1 := blk_frozen BK200.out 1; have hfz85_2 := blk_frozen BK200.out 2; have hfz85_3 := blk_frozen BK200.out 3; have hfz85_4 := blk_frozen BK200.out 4; have hfz85_5 := blk_frozen BK200.out 5; have hfz85_6 := blk_frozen BK200.out 6; have hfz85_7 := blk_frozen BK200.out 7; have hfz85_8 := blk_frozen BK200.out 8))
                                  any_goals (try (exfalso; have zc43b1 := of_decide_eq_true c43b1; have zc44b1 := of_decide_eq_true c44b1; have zc47b1 := of_decide_eq_true c47b1; have zc48b1 := of_decide_eq_true c48b1; have zc67b1 := of_decide_eq_true c67b1; omega))
                                  go_ret
                                  exact ⟨by first | rfl | (simp [errW_none, errW_some] <;> rfl) | (simp [*, errW_none, errW_some] <;> rfl), by repeat (first | (with_reducible first | exact HB.out | apply below_alloc | apply pw_below_drewN | apply below_drew1 | refine below_set ?_ GE200.out) | exact HB.out)⟩
                              · replace c69 := Bool.eq_false_iff.mpr c69
                                subst c69
                                have H1 : (some false) = some r := by rw [if_neg (show ¬ (false = true) by decide)] at H; exact H
                                clear H
                                have H := H1
                                clear H1
                                obtain rfl := Option.some.inj H
                                have hcz86_0 : wc.cell? ⟨gb200, 0, none⟩ = some (.string a0_0) := (blk_cell BK200.out 0).trans rfl
                                have hcz86_1 : wc.cell? ⟨gb200, 1, none⟩ = some (.string a0_1) := (blk_cell BK200.out 1).trans rfl
                                have hcz86_2 : wc.cell? ⟨gb200, 2, none⟩ = some (.string a0_2) := (blk_cell BK200.out 2).trans rfl
                                have hcz86_3 : wc.cell? ⟨gb200, 3, none⟩ = some (.string a0_3) := (blk_cell BK200.out 3).trans rfl
                                have hcz86_4 : wc.cell? ⟨gb200, 4, none⟩ = some (.int .i64 a0_4) := (blk_cell BK200.out 4).trans rfl
                                have hcz86_5 : wc.cell? ⟨gb200, 5, none⟩ = some (.int .i64 a0_5) := (blk_cell BK200.out 5).trans rfl
                                have hcz86_6 : wc.cell? ⟨gb200, 6, none⟩ = some (.bool true) := (blk_cell BK200.out 6).trans rfl
                                have hcz86_7 : wc.cell? ⟨gb200, 7, none⟩ = some (.bool a0_7) := (blk_cell BK200.out 7).trans rfl
                                have hcz86_8 : wc.cell? ⟨gb200, 8, none⟩ = some (.bool a0_8) := (blk_cell BK200.out 8).trans rfl
                                have hfz86_0 := blk_frozen BK200.out 0
                                have hfz86_1 := blk_frozen BK200.out 1
                                have hfz86_2 := blk_frozen BK200.out 2
                                have hfz86_3 := blk_frozen BK200.out 3
                                have hfz86_4 := blk_frozen BK200.out 4
                                have hfz86_5 := blk_frozen BK200.out 5
                                have hfz86_6 := blk_frozen BK200.out 6
                                have hfz86_7 := blk_frozen BK200.out 7
                                have hfz86_8 := blk_frozen BK200.out 8
                                go_wp2_with (first | ((with_reducible refine gate_callee (f := 21) rfl ?_); refine goesL_ (some 51) rfl rfl Try.func21 (by kernel_rfl) rfl #[.agg #[.string a0_0, .string a0_1, .string a0_2, .string a0_3, .int .i64 a0_4, .int .i64 a0_5, .bool true, .bool a0_7, .bool a0_8]] rfl (by (try simp only [List.map_toArray, List.map_cons, List.map_nil]); first | done | rfl | (simp only [List.length_drop, List.length_take]; rfl)) ?_; (with_reducible refine (impl_CookieText.calls a0_0 a0_1 a0_2 a0_3 a0_4 a0_5 true a0_7 a0_8 t210 _ A42.out).mono ?_); rintro e w87 ⟨rfl, hb⟩; refine ⟨_, rfl, ?_⟩; have n0_ := Aside0.mk (blk_below (g := gb200) (o := .cells #[.string a0_0, .string a0_1, .string a0_2, .string a0_3, .int .i64 a0_4, .int .i64 a0_5, .bool true, .bool a0_7, .bool a0_8] 53 (0, 0)) (by (with_reducible repeat (first | refine blk_drewN ?_ _ | refine blk_drew ?_ | refine blk_alloc ?_ _)); exact BK200.out) hb); have n1_ := Aside0.mk (below_step (by repeat (first | (with_reducible first | exact HB.out | apply below_alloc | apply pw_below_drewN | apply below_drew1 | refine below_set ?_ GE200.out) | exact HB.out)) hb); clear BK200; clear HB; have BK200 := n0_; have HB := n1_; clear n0_ n1_; (try clear hb); (try clear hb2); (try clear hk); (try clear hi); have hcz88_0 : w87.cell? ⟨gb200, 0, none⟩ = some (.string a0_0) := (blk_cell BK200.out 0).trans rfl; have hcz88_1 : w87.cell? ⟨gb200, 1, none⟩ = some (.string a0_1) := (blk_cell BK200.out 1).trans rfl; have hcz88_2 : w87.cell? ⟨gb200, 2, none⟩ = some (.string a0_2) := (blk_cell BK200.out 2).trans rfl; have hcz88_3 : w87.cell? ⟨gb200, 3, none⟩ = some (.string a0_3) := (blk_cell BK200.out 3).trans rfl; have hcz88_4 : w87.cell? ⟨gb200, 4, none⟩ = some (.int .i64 a0_4) := (blk_cell BK200.out 4).trans rfl; have hcz88_5 : w87.cell? ⟨gb200, 5, none⟩ = some (.int .i64 a0_5) := (blk_cell BK200.out 5).trans rfl; have hcz88_6 : w87.cell? ⟨gb200, 6, none⟩ = some (.bool true) := (blk_cell BK200.out 6).trans rfl; have hcz88_7 : w87.cell? ⟨gb200, 7, none⟩ = some (.bool a0_7) := (blk_cell BK200.out 7).trans rfl; have hcz88_8 : w87.cell? ⟨gb200, 8, none⟩ = some (.bool a0_8) := (blk_cell BK200.out 8).trans rfl; have hfz88_0 := blk_frozen BK200.out 0; have hfz88_1 := blk_frozen BK200.out 1; have hfz88_2 := blk_frozen BK200.out 2; have hfz88_3 := blk_frozen BK200.out 3; have hfz88_4 := blk_frozen BK200.out 4; have hfz88_5 := blk_frozen BK200.out 5; have hfz88_6 := blk_frozen BK200.out 6; have hfz88_7 := blk_frozen BK200.out 7; have hfz88_8 := blk_frozen BK200.out 8) | ((with_reducible refine gate_callee (f := 24) rfl ?_); refine goesL_ (some 59) rfl rfl Try.func24 (by kernel_rfl) rfl #[.string t210, .string ((a0_0 ++ (⟨#[61]⟩ : ByteArray)) ++ a0_1)] rfl (by (try simp only [List.map_toArray, List.map_cons, List.map_nil]); first | done | rfl | (simp only [List.length_drop, List.length_take]; rfl)) ?_; (with_reducible refine (laws_begins.calls t210 ((a0_0 ++ (⟨#[61]⟩ : ByteArray)) ++ a0_1) true _ A45.out).mono ?_); rintro e w' ⟨rfl, ⟨nd, rfl⟩⟩; refine ⟨_, rfl, ?_⟩) | ((with_reducible refine gate_callee (f := 25) rfl ?_); refine goesL_ (some 70) rfl rfl Try.func25 (by kernel_rfl) rfl #[.string (t210.extract (a0_0.size + 1 + a0_1.size) t210.size)] rfl (by (try simp only [List.map_toArray, List.map_cons, List.map_nil]); first | done | rfl | (simp only [List.length_drop, List.length_take]; rfl)) ?_; (with_reducible refine (laws_low.calls (t210.extract (a0_0.size + 1 + a0_1.size) t210.size) t212 _ A49.out).mono ?_); rintro e w89 ⟨rfl, hb⟩; refine ⟨_, rfl, ?_⟩; have n0_ := Aside0.mk (blk_below (g := gb200) (o := .cells #[.string a0_0, .string a0_1, .string a0_2, .string a0_3, .int .i64 a0_4, .int .i64 a0_5, .bool true, .bool a0_7, .bool a0_8] 53 (0, 0)) (by (with_reducible repeat (first | refine blk_drewN ?_ _ | refine blk_drew ?_ | refine blk_alloc ?_ _)); exact BK200.out) hb); have n1_ := Aside0.mk (below_step (by repeat (first | (with_reducible first | exact HB.out | apply below_alloc | apply pw_below_drewN | apply below_drew1 | refine below_set ?_ GE200.out) | exact HB.out)) hb); clear BK200; clear HB; have BK200 := n0_; have HB := n1_; clear n0_ n1_; (try clear hb); (try clear hb2); (try clear hk); (try clear hi); have hcz90_0 : w89.cell? ⟨gb200, 0, none⟩ = some (.string a0_0) := (blk_cell BK200.out 0).trans rfl; have hcz90_1 : w89.cell? ⟨gb200, 1, none⟩ = some (.string a0_1) := (blk_cell BK200.out 1).trans rfl; have hcz90_2 : w89.cell? ⟨gb200, 2, none⟩ = some (.string a0_2) := (blk_cell BK200.out 2).trans rfl; have hcz90_3 : w89.cell? ⟨gb200, 3, none⟩ = some (.string a0_3) := (blk_cell BK200.out 3).trans rfl; have hcz90_4 : w89.cell? ⟨gb200, 4, none⟩ = some (.int .i64 a0_4) := (blk_cell BK200.out 4).trans rfl; have hcz90_5 : w89.cell? ⟨gb200, 5, none⟩ = some (.int .i64 a0_5) := (blk_cell BK200.out 5).trans rfl; have hcz90_6 : w89.cell? ⟨gb200, 6, none⟩ = some (.bool true) := (blk_cell BK200.out 6).trans rfl; have hcz90_7 : w89.cell? ⟨gb200, 7, none⟩ = some (.bool a0_7) := (blk_cell BK200.out 7).trans rfl; have hcz90_8 : w89.cell? ⟨gb200, 8, none⟩ = some (.bool a0_8) := (blk_cell BK200.out 8).trans rfl; have hfz90_0 := blk_frozen BK200.out 0; have hfz90_1 := blk_frozen BK200.out 1; have hfz90_2 := blk_frozen BK200.out 2; have hfz90_3 := blk_frozen BK200.out 3; have hfz90_4 := blk_frozen BK200.out 4; have hfz90_5 := blk_frozen BK200.out 5; have hfz90_6 := blk_frozen BK200.out 6; have hfz90_7 := blk_frozen BK200.out 7; have hfz90_8 := blk_frozen BK200.out 8) | (go_at_call 26; (with_reducible refine (laws_stands.calls kj5 t212 (⟨#[59, 32, 104, 116, 116, 112, 111, 110, 108, 121]⟩ : ByteArray) true _ A51.out).mono ?_); rintro e w' ⟨rfl, ⟨nd, rfl⟩⟩) | (go_at_call 25; (with_reducible refine (laws_low.calls a0_2 t215 _ A66.out).mono ?_); rintro e w91 ⟨rfl, hb⟩; have n0_ := Aside0.mk (blk_below (g := gb200) (o := .cells #[.string a0_0, .string a0_1, .string a0_2, .string a0_3, .int .i64 a0_4, .int .i64 a0_5, .bool true, .bool a0_7, .bool a0_8] 53 (0, 0)) (by (with_reducible repeat (first | refine blk_drewN ?_ _ | refine blk_drew ?_ | refine blk_alloc ?_ _)); exact BK200.out) hb); have n1_ := Aside0.mk (below_step (by repeat (first | (with_reducible first | exact HB.out | apply below_alloc | apply pw_below_drewN | apply below_drew1 | refine below_set ?_ GE200.out) | exact HB.out)) hb); clear BK200; clear HB; have BK200 := n0_; have HB := n1_; clear n0_ n1_; (try clear hb); (try clear hb2); (try clear hk); (try clear hi)) | (go_at_call 26; (with_reducible refine (laws_stands.calls kj5 t212 ((⟨#[59, 32, 100, 111, 109, 97, 105, 110, 61]⟩ : ByteArray) ++ t215) false _ A68.out).mono ?_); rintro e w' ⟨rfl, ⟨nd, rfl⟩⟩))
                                any_goals (try (exfalso; have zc43b1 := of_decide_eq_true c43b1; have zc44b1 := of_decide_eq_true c44b1; have zc47b1 := of_decide_eq_true c47b1; have zc48b1 := of_decide_eq_true c48b1; have zc67b1 := of_decide_eq_true c67b1; omega))
                                go_ret
                                exact ⟨by first | rfl | (simp [errW_none, errW_some] <;> rfl) | (simp [*, errW_none, errW_some] <;> rfl), by repeat (first | (with_reducible first | exact HB.out | apply below_alloc | apply pw_below_drewN | apply below_drew1 | refine below_set ?_ GE200.out) | exact HB.out)⟩
                            · rw [if_neg c67] at H
                              exact absurd H (by simp)
                        · replace c52 := Bool.eq_false_iff.mpr c52
                          subst c52
                          have H1 : (some false) = some r := by rw [if_neg (show ¬ (false = true) by decide)] at H; exact H
                          clear H
                          have H := H1
                          clear H1
                          obtain rfl := Option.some.inj H
                          have hcz92_0 : wc.cell? ⟨gb200, 0, none⟩ = some (.string a0_0) := (blk_cell BK200.out 0).trans rfl
                          have hcz92_1 : wc.cell? ⟨gb200, 1, none⟩ = some (.string a0_1) := (blk_cell BK200.out 1).trans rfl
                          have hcz92_2 : wc.cell? ⟨gb200, 2, none⟩ = some (.string a0_2) := (blk_cell BK200.out 2).trans rfl
                          have hcz92_3 : wc.cell? ⟨gb200, 3, none⟩ = some (.string a0_3) := (blk_cell BK200.out 3).trans rfl
                          have hcz92_4 : wc.cell? ⟨gb200, 4, none⟩ = some (.int .i64 a0_4) := (blk_cell BK200.out 4).trans rfl
                          have hcz92_5 : wc.cell? ⟨gb200, 5, none⟩ = some (.int .i64 a0_5) := (blk_cell BK200.out 5).trans rfl
                          have hcz92_6 : wc.cell? ⟨gb200, 6, none⟩ = some (.bool true) := (blk_cell BK200.out 6).trans rfl
                          have hcz92_7 : wc.cell? ⟨gb200, 7, none⟩ = some (.bool a0_7) := (blk_cell BK200.out 7).trans rfl
                          have hcz92_8 : wc.cell? ⟨gb200, 8, none⟩ = some (.bool a0_8) := (blk_cell BK200.out 8).trans rfl
                          have hfz92_0 := blk_frozen BK200.out 0
                          have hfz92_1 := blk_frozen BK200.out 1
                          have hfz92_2 := blk_frozen BK200.out 2
                          have hfz92_3 := blk_frozen BK200.out 3
                          have hfz92_4 := blk_frozen BK200.out 4
                          have hfz92_5 := blk_frozen BK200.out 5
                          have hfz92_6 := blk_frozen BK200.out 6
                          have hfz92_7 := blk_frozen BK200.out 7
                          have hfz92_8 := blk_frozen BK200.out 8
                          go_wp2_with (first | ((with_reducible refine gate_callee (f := 21) rfl ?_); refine goesL_ (some 51) rfl rfl Try.func21 (by kernel_rfl) rfl #[.agg #[.string a0_0, .string a0_1, .string a0_2, .string a0_3, .int .i64 a0_4, .int .i64 a0_5, .bool true, .bool a0_7, .bool a0_8]] rfl (by (try simp only [List.map_toArray, List.map_cons, List.map_nil]); first | done | rfl | (simp only [List.length_drop, List.length_take]; rfl)) ?_; (with_reducible refine (impl_CookieText.calls a0_0 a0_1 a0_2 a0_3 a0_4 a0_5 true a0_7 a0_8 t210 _ A42.out).mono ?_); rintro e w93 ⟨rfl, hb⟩; refine ⟨_, rfl, ?_⟩; have n0_ := Aside0.mk (blk_below (g := gb200) (o := .cells #[.string a0_0, .string a0_1, .string a0_2, .string a0_3, .int .i64 a0_4, .int .i64 a0_5, .bool true, .bool a0_7, .bool a0_8] 53 (0, 0)) (by (with_reducible repeat (first | refine blk_drewN ?_ _ | refine blk_drew ?_ | refine blk_alloc ?_ _)); exact BK200.out) hb); have n1_ := Aside0.mk (below_step (by repeat (first | (with_reducible first | exact HB.out | apply below_alloc | apply pw_below_drewN | apply below_drew1 | refine below_set ?_ GE200.out) | exact HB.out)) hb); clear BK200; clear HB; have BK200 := n0_; have HB := n1_; clear n0_ n1_; (try clear hb); (try clear hb2); (try clear hk); (try clear hi); have hcz94_0 : w93.cell? ⟨gb200, 0, none⟩ = some (.string a0_0) := (blk_cell BK200.out 0).trans rfl; have hcz94_1 : w93.cell? ⟨gb200, 1, none⟩ = some (.string a0_1) := (blk_cell BK200.out 1).trans rfl; have hcz94_2 : w93.cell? ⟨gb200, 2, none⟩ = some (.string a0_2) := (blk_cell BK200.out 2).trans rfl; have hcz94_3 : w93.cell? ⟨gb200, 3, none⟩ = some (.string a0_3) := (blk_cell BK200.out 3).trans rfl; have hcz94_4 : w93.cell? ⟨gb200, 4, none⟩ = some (.int .i64 a0_4) := (blk_cell BK200.out 4).trans rfl; have hcz94_5 : w93.cell? ⟨gb200, 5, none⟩ = some (.int .i64 a0_5) := (blk_cell BK200.out 5).trans rfl; have hcz94_6 : w93.cell? ⟨gb200, 6, none⟩ = some (.bool true) := (blk_cell BK200.out 6).trans rfl; have hcz94_7 : w93.cell? ⟨gb200, 7, none⟩ = some (.bool a0_7) := (blk_cell BK200.out 7).trans rfl; have hcz94_8 : w93.cell? ⟨gb200, 8, none⟩ = some (.bool a0_8) := (blk_cell BK200.out 8).trans rfl; have hfz94_0 := blk_frozen BK200.out 0; have hfz94_1 := blk_frozen BK200.out 1; have hfz94_2 := blk_frozen BK200.out 2; have hfz94_3 := blk_frozen BK200.out 3; have hfz94_4 := blk_frozen BK200.out 4; have hfz94_5 := blk_frozen BK200.out 5; have hfz94_6 := blk_frozen BK200.out 6; have hfz94_7 := blk_frozen BK200.out 7; have hfz94_8 := blk_frozen BK200.out 8) | ((with_reducible refine gate_callee (f := 24) rfl ?_); refine goesL_ (some 59) rfl rfl Try.func24 (by kernel_rfl) rfl #[.string t210, .string ((a0_0 ++ (⟨#[61]⟩ : ByteArray)) ++ a0_1)] rfl (by (try simp only [List.map_toArray, List.map_cons, List.map_nil]); first | done | rfl | (simp only [List.length_drop, List.length_take]; rfl)) ?_; (with_reducible refine (laws_begins.calls t210 ((a0_0 ++ (⟨#[61]⟩ : ByteArray)) ++ a0_1) true _ A45.out).mono ?_); rintro e w' ⟨rfl, ⟨nd, rfl⟩⟩; refine ⟨_, rfl, ?_⟩) | ((with_reducible refine gate_callee (f := 25) rfl ?_); refine goesL_ (some 70) rfl rfl Try.func25 (by kernel_rfl) rfl #[.string (t210.extract (a0_0.size + 1 + a0_1.size) t210.size)] rfl (by (try simp only [List.map_toArray, List.map_cons, List.map_nil]); first | done | rfl | (simp only [List.length_drop, List.length_take]; rfl)) ?_; (with_reducible refine (laws_low.calls (t210.extract (a0_0.size + 1 + a0_1.size) t210.size) t212 _ A49.out).mono ?_); rintro e w95 ⟨rfl, hb⟩; refine ⟨_, rfl, ?_⟩; have n0_ := Aside0.mk (blk_below (g := gb200) (o := .cells #[.string a0_0, .string a0_1, .string a0_2, .string a0_3, .int .i64 a0_4, .int .i64 a0_5, .bool true, .bool a0_7, .bool a0_8] 53 (0, 0)) (by (with_reducible repeat (first | refine blk_drewN ?_ _ | refine blk_drew ?_ | refine blk_alloc ?_ _)); exact BK200.out) hb); have n1_ := Aside0.mk (below_step (by repeat (first | (with_reducible first | exact HB.out | apply below_alloc | apply pw_below_drewN | apply below_drew1 | refine below_set ?_ GE200.out) | exact HB.out)) hb); clear BK200; clear HB; have BK200 := n0_; have HB := n1_; clear n0_ n1_; (try clear hb); (try clear hb2); (try clear hk); (try clear hi); have hcz96_0 : w95.cell? ⟨gb200, 0, none⟩ = some (.string a0_0) := (blk_cell BK200.out 0).trans rfl; have hcz96_1 : w95.cell? ⟨gb200, 1, none⟩ = some (.string a0_1) := (blk_cell BK200.out 1).trans rfl; have hcz96_2 : w95.cell? ⟨gb200, 2, none⟩ = some (.string a0_2) := (blk_cell BK200.out 2).trans rfl; have hcz96_3 : w95.cell? ⟨gb200, 3, none⟩ = some (.string a0_3) := (blk_cell BK200.out 3).trans rfl; have hcz96_4 : w95.cell? ⟨gb200, 4, none⟩ = some (.int .i64 a0_4) := (blk_cell BK200.out 4).trans rfl; have hcz96_5 : w95.cell? ⟨gb200, 5, none⟩ = some (.int .i64 a0_5) := (blk_cell BK200.out 5).trans rfl; have hcz96_6 : w95.cell? ⟨gb200, 6, none⟩ = some (.bool true) := (blk_cell BK200.out 6).trans rfl; have hcz96_7 : w95.cell? ⟨gb200, 7, none⟩ = some (.bool a0_7) := (blk_cell BK200.out 7).trans rfl; have hcz96_8 : w95.cell? ⟨gb200, 8, none⟩ = some (.bool a0_8) := (blk_cell BK200.out 8).trans rfl; have hfz96_0 := blk_frozen BK200.out 0; have hfz96_1 := blk_frozen BK200.out 1; have hfz96_2 := blk_frozen BK200.out 2; have hfz96_3 := blk_frozen BK200.out 3; have hfz96_4 := blk_frozen BK200.out 4; have hfz96_5 := blk_frozen BK200.out 5; have hfz96_6 := blk_frozen BK200.out 6; have hfz96_7 := blk_frozen BK200.out 7; have hfz96_8 := blk_frozen BK200.out 8) | (go_at_call 26; (with_reducible refine (laws_stands.calls kj5 t212 (⟨#[59, 32, 104, 116, 116, 112, 111, 110, 108, 121]⟩ : ByteArray) false _ A51.out).mono ?_); rintro e w' ⟨rfl, ⟨nd, rfl⟩⟩))
                          any_goals (try (exfalso; have zc43b1 := of_decide_eq_true c43b1; have zc44b1 := of_decide_eq_true c44b1; have zc47b1 := of_decide_eq_true c47b1; have zc48b1 := of_decide_eq_true c48b1; omega))
                          go_ret
                          exact ⟨by first | rfl | (simp [errW_none, errW_some] <;> rfl) | (simp [*, errW_none, errW_some] <;> rfl), by repeat (first | (with_reducible first | exact HB.out | apply below_alloc | apply pw_below_drewN | apply below_drew1 | refine below_set ?_ GE200.out) | exact HB.out)⟩
                      · replace c50 := Bool.eq_false_iff.mpr c50
                        subst c50
                        have H1 : (if a0_2.toList = ([] : List UInt8) then (if a0_7 = true then ((laws_stands.f kj5 t212 (⟨#[59, 32, 115, 101, 99, 117, 114, 101]⟩ : ByteArray)).bind fun t218 => (some t218)) else (some true)) else ((laws_low.f a0_2).bind fun t219 => (if 9 + t219.size ≤ 9223372036854775807 then ((laws_stands.f kj5 t212 ((⟨#[59, 32, 100, 111, 109, 97, 105, 110, 61]⟩ : ByteArray) ++ t219)).bind fun t220 => (if t220 = true then (if a0_7 = true then ((laws_stands.f kj5 t212 (⟨#[59, 32, 115, 101, 99, 117, 114, 101]⟩ : ByteArray)).bind fun t221 => (some t221)) else (some true)) else (some false))) else (none)))) = some r := by rw [if_neg (show ¬ (false = true) by decide)] at H; exact H
                        clear H
                        have H := H1
                        clear H1
                        by_cases c97 : a0_2.toList = ([] : List UInt8)
                        · rw [if_pos c97] at H
                          have c97b0 : (a0_2.toList == ([] : List UInt8)) = true := beq_iff_eq.mpr c97
                          have c97b1 : (a0_2.toList != ([] : List UInt8)) = false := bne_eq_false_iff_eq.mpr c97
                          clear c97
                          by_cases c98 : a0_7 = true
                          · subst c98
                            have H1 : ((laws_stands.f kj5 t212 (⟨#[59, 32, 115, 101, 99, 117, 114, 101]⟩ : ByteArray)).bind fun t218 => (some t218)) = some r := by rw [if_pos rfl] at H; exact H
                            clear H
                            have H := H1
                            clear H1
                            replace H := Option.bind_eq_some_iff.mp H
                            obtain ⟨t218, A990, H⟩ := H
                            replace H : (some t218) = some r := H
                            have A99 := Aside0.mk A990
                            clear A990
                            obtain rfl := Option.some.inj H
                            have hcz100_0 : wc.cell? ⟨gb200, 0, none⟩ = some (.string a0_0) := (blk_cell BK200.out 0).trans rfl
                            have hcz100_1 : wc.cell? ⟨gb200, 1, none⟩ = some (.string a0_1) := (blk_cell BK200.out 1).trans rfl
                            have hcz100_2 : wc.cell? ⟨gb200, 2, none⟩ = some (.string a0_2) := (blk_cell BK200.out 2).trans rfl
                            have hcz100_3 : wc.cell? ⟨gb200, 3, none⟩ = some (.string a0_3) := (blk_cell BK200.out 3).trans rfl
                            have hcz100_4 : wc.cell? ⟨gb200, 4, none⟩ = some (.int .i64 a0_4) := (blk_cell BK200.out 4).trans rfl
                            have hcz100_5 : wc.cell? ⟨gb200, 5, none⟩ = some (.int .i64 a0_5) := (blk_cell BK200.out 5).trans rfl
                            have hcz100_6 : wc.cell? ⟨gb200, 6, none⟩ = some (.bool false) := (blk_cell BK200.out 6).trans rfl
                            have hcz100_7 : wc.cell? ⟨gb200, 7, none⟩ = some (.bool true) := (blk_cell BK200.out 7).trans rfl
                            have hcz100_8 : wc.cell? ⟨gb200, 8, none⟩ = some (.bool a0_8) := (blk_cell BK200.out 8).trans rfl
                            have hfz100_0 := blk_frozen BK200.out 0
                            have hfz100_1 := blk_frozen BK200.out 1
                            have hfz100_2 := blk_frozen BK200.out 2
                            have hfz100_3 := blk_frozen BK200.out 3
                            have hfz100_4 := blk_frozen BK200.out 4
                            have hfz100_5 := blk_frozen BK200.out 5
                            have hfz100_6 := blk_frozen BK200.out 6
                            have hfz100_7 := blk_frozen BK200.out 7
                            have hfz100_8 := blk_frozen BK200.out 8
                            go_wp2_with (first | ((with_reducible refine gate_callee (f := 21) rfl ?_); refine goesL_ (some 51) rfl rfl Try.func21 (by kernel_rfl) rfl #[.agg #[.string a0_0, .string a0_1, .string a0_2, .string a0_3, .int .i64 a0_4, .int .i64 a0_5, .bool false, .bool true, .bool a0_8]] rfl (by (try simp only [List.map_toArray, List.map_cons, List.map_nil]); first | done | rfl | (simp only [List.length_drop, List.length_take]; rfl)) ?_; (with_reducible refine (impl_CookieText.calls a0_0 a0_1 a0_2 a0_3 a0_4 a0_5 false true a0_8 t210 _ A42.out).mono ?_); rintro e w101 ⟨rfl, hb⟩; refine ⟨_, rfl, ?_⟩; have n0_ := Aside0.mk (blk_below (g := gb200) (o := .cells #[.string a0_0, .string a0_1, .string a0_2, .string a0_3, .int .i64 a0_4, .int .i64 a0_5, .bool false, .bool true, .bool a0_8] 53 (0, 0)) (by (with_reducible repeat (first | refine blk_drewN ?_ _ | refine blk_drew ?_ | refine blk_alloc ?_ _)); exact BK200.out) hb); have n1_ := Aside0.mk (below_step (by repeat (first | (with_reducible first | exact HB.out | apply below_alloc | apply pw_below_drewN | apply below_drew1 | refine below_set ?_ GE200.out) | exact HB.out)) hb); clear BK200; clear HB; have BK200 := n0_; have HB := n1_; clear n0_ n1_; (try clear hb); (try clear hb2); (try clear hk); (try clear hi); have hcz102_0 : w101.cell? ⟨gb200, 0, none⟩ = some (.string a0_0) := (blk_cell BK200.out 0).trans rfl; have hcz102_1 : w101.cell? ⟨gb200, 1, none⟩ = some (.string a0_1) := (blk_cell BK200.out 1).trans rfl; have hcz102_2 : w101.cell? ⟨gb200, 2, none⟩ = some (.string a0_2) := (blk_cell BK200.out 2).trans rfl; have hcz102_3 : w101.cell? ⟨gb200, 3, none⟩ = some (.string a0_3) := (blk_cell BK200.out 3).trans rfl; have hcz102_4 : w101.cell? ⟨gb200, 4, none⟩ = some (.int .i64 a0_4) := (blk_cell BK200.out 4).trans rfl; have hcz102_5 : w101.cell? ⟨gb200, 5, none⟩ = some (.int .i64 a0_5) := (blk_cell BK200.out 5).trans rfl; have hcz102_6 : w101.cell? ⟨gb200, 6, none⟩ = some (.bool false) := (blk_cell BK200.out 6).trans rfl; have hcz102_7 : w101.cell? ⟨gb200, 7, none⟩ = some (.bool true) := (blk_cell BK200.out 7).trans rfl; have hcz102_8 : w101.cell? ⟨gb200, 8, none⟩ = some (.bool a0_8) := (blk_cell BK200.out 8).trans rfl; have hfz102_0 := blk_frozen BK200.out 0; have hfz102_1 := blk_frozen BK200.out 1; have hfz102_2 := blk_frozen BK200.out 2; have hfz102_3 := blk_frozen BK200.out 3; have hfz102_4 := blk_frozen BK200.out 4; have hfz102_5 := blk_frozen BK200.out 5; have hfz102_6 := blk_frozen BK200.out 6; have hfz102_7 := blk_frozen BK200.out 7; have hfz102_8 := blk_frozen BK200.out 8) | ((with_reducible refine gate_callee (f := 24) rfl ?_); refine goesL_ (some 59) rfl rfl Try.func24 (by kernel_rfl) rfl #[.string t210, .string ((a0_0 ++ (⟨#[61]⟩ : ByteArray)) ++ a0_1)] rfl (by (try simp only [List.map_toArray, List.map_cons, List.map_nil]); first | done | rfl | (simp only [List.length_drop, List.length_take]; rfl)) ?_; (with_reducible refine (laws_begins.calls t210 ((a0_0 ++ (⟨#[61]⟩ : ByteArray)) ++ a0_1) true _ A45.out).mono ?_); rintro e w' ⟨rfl, ⟨nd, rfl⟩⟩; refine ⟨_, rfl, ?_⟩) | ((with_reducible refine gate_callee (f := 25) rfl ?_); refine goesL_ (some 70) rfl rfl Try.func25 (by kernel_rfl) rfl #[.string (t210.extract (a0_0.size + 1 + a0_1.size) t210.size)] rfl (by (try simp only [List.map_toArray, List.map_cons, List.map_nil]); first | done | rfl | (simp only [List.length_drop, List.length_take]; rfl)) ?_; (with_reducible refine (laws_low.calls (t210.extract (a0_0.size + 1 + a0_1.size) t210.size) t212 _ A49.out).mono ?_); rintro e w103 ⟨rfl, hb⟩; refine ⟨_, rfl, ?_⟩; have n0_ := Aside0.mk (blk_below (g := gb200) (o := .cells #[.string a0_0, .string a0_1, .string a0_2, .string a0_3, .int .i64 a0_4, .int .i64 a0_5, .bool false, .bool true, .bool a0_8] 53 (0, 0)) (by (with_reducible repeat (first | refine blk_drewN ?_ _ | refine blk_drew ?_ | refine blk_alloc ?_ _)); exact BK200.out) hb); have n1_ := Aside0.mk (below_step (by repeat (first | (with_reducible first | exact HB.out | apply below_alloc | apply pw_below_drewN | apply below_drew1 | refine below_set ?_ GE200.out) | exact HB.out)) hb); clear BK200; clear HB; have BK200 := n0_; have HB := n1_; clear n0_ n1_; (try clear hb); (try clear hb2); (try clear hk); (try clear hi); have hcz104_0 : w103.cell? ⟨gb200, 0, none⟩ = some (.string a0_0) := (blk_cell BK200.out 0).trans rfl; have hcz104_1 : w103.cell? ⟨gb200, 1, none⟩ = some (.string a0_1) := (blk_cell BK200.out 1).trans rfl; have hcz104_2 : w103.cell? ⟨gb200, 2, none⟩ = some (.string a0_2) := (blk_cell BK200.out 2).trans rfl; have hcz104_3 : w103.cell? ⟨gb200, 3, none⟩ = some (.string a0_3) := (blk_cell BK200.out 3).trans rfl; have hcz104_4 : w103.cell? ⟨gb200, 4, none⟩ = some (.int .i64 a0_4) := (blk_cell BK200.out 4).trans rfl; have hcz104_5 : w103.cell? ⟨gb200, 5, none⟩ = some (.int .i64 a0_5) := (blk_cell BK200.out 5).trans rfl; have hcz104_6 : w103.cell? ⟨gb200, 6, none⟩ = some (.bool false) := (blk_cell BK200.out 6).trans rfl; have hcz104_7 : w103.cell? ⟨gb200, 7, none⟩ = some (.bool true) := (blk_cell BK200.out 7).trans rfl; have hcz104_8 : w103.cell? ⟨gb200, 8, none⟩ = some (.bool a0_8) := (blk_cell BK200.out 8).trans rfl; have hfz104_0 := blk_frozen BK200.out 0; have hfz104_1 := blk_frozen BK200.out 1; have hfz104_2 := blk_frozen BK200.out 2; have hfz104_3 := blk_frozen BK200.out 3; have hfz104_4 := blk_frozen BK200.out 4; have hfz104_5 := blk_frozen BK200.out 5; have hfz104_6 := blk_frozen BK200.out 6; have hfz104_7 := blk_frozen BK200.out 7; have hfz104_8 := blk_frozen BK200.out 8) | (go_at_call 26; (with_reducible refine (laws_stands.calls kj5 t212 (⟨#[59, 32, 115, 101, 99, 117, 114, 101]⟩ : ByteArray) t218 _ A99.out).mono ?_); rintro e w' ⟨rfl, ⟨nd, rfl⟩⟩))
                            any_goals (try (exfalso; have zc43b1 := of_decide_eq_true c43b1; have zc44b1 := of_decide_eq_true c44b1; have zc47b1 := of_decide_eq_true c47b1; have zc48b1 := of_decide_eq_true c48b1; omega))
                            go_ret
                            exact ⟨by first | rfl | (simp [errW_none, errW_some] <;> rfl) | (simp [*, errW_none, errW_some] <;> rfl), by repeat (first | (with_reducible first | exact HB.out | apply below_alloc | apply pw_below_drewN | apply below_drew1 | refine below_set ?_ GE200.out) | exact HB.out)⟩
                          · replace c98 := Bool.eq_false_iff.mpr c98
                            subst c98
                            have H1 : (some true) = some r := by rw [if_neg (show ¬ (false = true) by decide)] at H; exact H
                            clear H
                            have H := H1
                            clear H1
                            obtain rfl := Option.some.inj H
                            have hcz105_0 : wc.cell? ⟨gb200, 0, none⟩ = some (.string a0_0) := (blk_cell BK200.out 0).trans rfl
                            have hcz105_1 : wc.cell? ⟨gb200, 1, none⟩ = some (.string a0_1) := (blk_cell BK200.out 1).trans rfl
                            have hcz105_2 : wc.cell? ⟨gb200, 2, none⟩ = some (.string a0_2) := (blk_cell BK200.out 2).trans rfl
                            have hcz105_3 : wc.cell? ⟨gb200, 3, none⟩ = some (.string a0_3) := (blk_cell BK200.out 3).trans rfl
                            have hcz105_4 : wc.cell? ⟨gb200, 4, none⟩ = some (.int .i64 a0_4) := (blk_cell BK200.out 4).trans rfl
                            have hcz105_5 : wc.cell? ⟨gb200, 5, none⟩ = some (.int .i64 a0_5) := (blk_cell BK200.out 5).trans rfl
                            have hcz105_6 : wc.cell? ⟨gb200, 6, none⟩ = some (.bool false) := (blk_cell BK200.out 6).trans rfl
                            have hcz105_7 : wc.cell? ⟨gb200, 7, none⟩ = some (.bool false) := (blk_cell BK200.out 7).trans rfl
                            have hcz105_8 : wc.cell? ⟨gb200, 8, none⟩ = some (.bool a0_8) := (blk_cell BK200.out 8).trans rfl
                            have hfz105_0 := blk_frozen BK200.out 0
                            have hfz105_1 := blk_frozen BK200.out 1
                            have hfz105_2 := blk_frozen BK200.out 2
                            have hfz105_3 := blk_frozen BK200.out 3
                            have hfz105_4 := blk_frozen BK200.out 4
                            have hfz105_5 := blk_frozen BK200.out 5
                            have hfz105_6 := blk_frozen BK200.out 6
                            have hfz105_7 := blk_frozen BK200.out 7
                            have hfz105_8 := blk_frozen BK200.out 8
                            go_wp2_with (first | ((with_reducible refine gate_callee (f := 21) rfl ?_); refine goesL_ (some 51) rfl rfl Try.func21 (by kernel_rfl) rfl #[.agg #[.string a0_0, .string a0_1, .string a0_2, .string a0_3, .int .i64 a0_4, .int .i64 a0_5, .bool false, .bool false, .bool a0_8]] rfl (by (try simp only [List.map_toArray, List.map_cons, List.map_nil]); first | done | rfl | (simp only [List.length_drop, List.length_take]; rfl)) ?_; (with_reducible refine (impl_CookieText.calls a0_0 a0_1 a0_2 a0_3 a0_4 a0_5 false false a0_8 t210 _ A42.out).mono ?_); rintro e w106 ⟨rfl, hb⟩; refine ⟨_, rfl, ?_⟩; have n0_ := Aside0.mk (blk_below (g := gb200) (o := .cells #[.string a0_0, .string a0_1, .string a0_2, .string a0_3, .int .i64 a0_4, .int .i64 a0_5, .bool false, .bool false, .bool a0_8] 53 (0, 0)) (by (with_reducible repeat (first | refine blk_drewN ?_ _ | refine blk_drew ?_ | refine blk_alloc ?_ _)); exact BK200.out) hb); have n1_ := Aside0.mk (below_step (by repeat (first | (with_reducible first | exact HB.out | apply below_alloc | apply pw_below_drewN | apply below_drew1 | refine below_set ?_ GE200.out) | exact HB.out)) hb); clear BK200; clear HB; have BK200 := n0_; have HB := n1_; clear n0_ n1_; (try clear hb); (try clear hb2); (try clear hk); (try clear hi); have hcz107_0 : w106.cell? ⟨gb200, 0, none⟩ = some (.string a0_0) := (blk_cell BK200.out 0).trans rfl; have hcz107_1 : w106.cell? ⟨gb200, 1, none⟩ = some (.string a0_1) := (blk_cell BK200.out 1).trans rfl; have hcz107_2 : w106.cell? ⟨gb200, 2, none⟩ = some (.string a0_2) := (blk_cell BK200.out 2).trans rfl; have hcz107_3 : w106.cell? ⟨gb200, 3, none⟩ = some (.string a0_3) := (blk_cell BK200.out 3).trans rfl; have hcz107_4 : w106.cell? ⟨gb200, 4, none⟩ = some (.int .i64 a0_4) := (blk_cell BK200.out 4).trans rfl; have hcz107_5 : w106.cell? ⟨gb200, 5, none⟩ = some (.int .i64 a0_5) := (blk_cell BK200.out 5).trans rfl; have hcz107_6 : w106.cell? ⟨gb200, 6, none⟩ = some (.bool false) := (blk_cell BK200.out 6).trans rfl; have hcz107_7 : w106.cell? ⟨gb200, 7, none⟩ = some (.bool false) := (blk_cell BK200.out 7).trans rfl; have hcz107_8 : w106.cell? ⟨gb200, 8, none⟩ = some (.bool a0_8) := (blk_cell BK200.out 8).trans rfl; have hfz107_0 := blk_frozen BK200.out 0; have hfz107_1 := blk_frozen BK200.out 1; have hfz107_2 := blk_frozen BK200.out 2; have hfz107_3 := blk_frozen BK200.out 3; have hfz107_4 := blk_frozen BK200.out 4; have hfz107_5 := blk_frozen BK200.out 5; have hfz107_6 := blk_frozen BK200.out 6; have hfz107_7 := blk_frozen BK200.out 7; have hfz107_8 := blk_frozen BK200.out 8) | ((with_reducible refine gate_callee (f := 24) rfl ?_); refine goesL_ (some 59) rfl rfl Try.func24 (by kernel_rfl) rfl #[.string t210, .string ((a0_0 ++ (⟨#[61]⟩ : ByteArray)) ++ a0_1)] rfl (by (try simp only [List.map_toArray, List.map_cons, List.map_nil]); first | done | rfl | (simp only [List.length_drop, List.length_take]; rfl)) ?_; (with_reducible refine (laws_begins.calls t210 ((a0_0 ++ (⟨#[61]⟩ : ByteArray)) ++ a0_1) true _ A45.out).mono ?_); rintro e w' ⟨rfl, ⟨nd, rfl⟩⟩; refine ⟨_, rfl, ?_⟩) | ((with_reducible refine gate_callee (f := 25) rfl ?_); refine goesL_ (some 70) rfl rfl Try.func25 (by kernel_rfl) rfl #[.string (t210.extract (a0_0.size + 1 + a0_1.size) t210.size)] rfl (by (try simp only [List.map_toArray, List.map_cons, List.map_nil]); first | done | rfl | (simp only [List.length_drop, List.length_take]; rfl)) ?_; (with_reducible refine (laws_low.calls (t210.extract (a0_0.size + 1 + a0_1.size) t210.size) t212 _ A49.out).mono ?_); rintro e w108 ⟨rfl, hb⟩; refine ⟨_, rfl, ?_⟩; have n0_ := Aside0.mk (blk_below (g := gb200) (o := .cells #[.string a0_0, .string a0_1, .string a0_2, .string a0_3, .int .i64 a0_4, .int .i64 a0_5, .bool false, .bool false, .bool a0_8] 53 (0, 0)) (by (with_reducible repeat (first | refine blk_drewN ?_ _ | refine blk_drew ?_ | refine blk_alloc ?_ _)); exact BK200.out) hb); have n1_ := Aside0.mk (below_step (by repeat (first | (with_reducible first | exact HB.out | apply below_alloc | apply pw_below_drewN | apply below_drew1 | refine below_set ?_ GE200.out) | exact HB.out)) hb); clear BK200; clear HB; have BK200 := n0_; have HB := n1_; clear n0_ n1_; (try clear hb); (try clear hb2); (try clear hk); (try clear hi); have hcz109_0 : w108.cell? ⟨gb200, 0, none⟩ = some (.string a0_0) := (blk_cell BK200.out 0).trans rfl; have hcz109_1 : w108.cell? ⟨gb200, 1, none⟩ = some (.string a0_1) := (blk_cell BK200.out 1).trans rfl; have hcz109_2 : w108.cell? ⟨gb200, 2, none⟩ = some (.string a0_2) := (blk_cell BK200.out 2).trans rfl; have hcz109_3 : w108.cell? ⟨gb200, 3, none⟩ = some (.string a0_3) := (blk_cell BK200.out 3).trans rfl; have hcz109_4 : w108.cell? ⟨gb200, 4, none⟩ = some (.int .i64 a0_4) := (blk_cell BK200.out 4).trans rfl; have hcz109_5 : w108.cell? ⟨gb200, 5, none⟩ = some (.int .i64 a0_5) := (blk_cell BK200.out 5).trans rfl; have hcz109_6 : w108.cell? ⟨gb200, 6, none⟩ = some (.bool false) := (blk_cell BK200.out 6).trans rfl; have hcz109_7 : w108.cell? ⟨gb200, 7, none⟩ = some (.bool false) := (blk_cell BK200.out 7).trans rfl; have hcz109_8 : w108.cell? ⟨gb200, 8, none⟩ = some (.bool a0_8) := (blk_cell BK200.out 8).trans rfl; have hfz109_0 := blk_frozen BK200.out 0; have hfz109_1 := blk_frozen BK200.out 1; have hfz109_2 := blk_frozen BK200.out 2; have hfz109_3 := blk_frozen BK200.out 3; have hfz109_4 := blk_frozen BK200.out 4; have hfz109_5 := blk_frozen BK200.out 5; have hfz109_6 := blk_frozen BK200.out 6; have hfz109_7 := blk_frozen BK200.out 7; have hfz109_8 := blk_frozen BK200.out 8))
                            any_goals (try (exfalso; have zc43b1 := of_decide_eq_true c43b1; have zc44b1 := of_decide_eq_true c44b1; have zc47b1 := of_decide_eq_true c47b1; have zc48b1 := of_decide_eq_true c48b1; omega))
                            go_ret
                            exact ⟨by first | rfl | (simp [errW_none, errW_some] <;> rfl) | (simp [*, errW_none, errW_some] <;> rfl), by repeat (first | (with_reducible first | exact HB.out | apply below_alloc | apply pw_below_drewN | apply below_drew1 | refine below_set ?_ GE200.out) | exact HB.out)⟩
                        · rw [if_neg c97] at H
                          have c97b0 : (a0_2.toList == ([] : List UInt8)) = false := beq_eq_false_iff_ne.mpr c97
                          have c97b1 : (a0_2.toList != ([] : List UInt8)) = true := bne_iff_ne.mpr c97
                          replace H := Option.bind_eq_some_iff.mp H
                          obtain ⟨t219, A1100, H⟩ := H
                          replace H : (if 9 + t219.size ≤ 9223372036854775807 then ((laws_stands.f kj5 t212 ((⟨#[59, 32, 100, 111, 109, 97, 105, 110, 61]⟩ : ByteArray) ++ t219)).bind fun t220 => (if t220 = true then (if a0_7 = true then ((laws_stands.f kj5 t212 (⟨#[59, 32, 115, 101, 99, 117, 114, 101]⟩ : ByteArray)).bind fun t221 => (some t221)) else (some true)) else (some false))) else (none)) = some r := H
                          have A110 := Aside0.mk A1100
                          clear A1100
                          by_cases c111 : 9 + t219.size ≤ 9223372036854775807
                          · rw [if_pos c111] at H
                            have c111b0 := eq_true c111
                            have c111b1 : decide (9 + t219.size ≤ 9223372036854775807) = true := decide_eq_true c111
                            try have c111b2 : (9223372036854775807 < 9 + t219.size) = False := eq_false (Nat.not_lt.2 c111)
                            replace H := Option.bind_eq_some_iff.mp H
                            obtain ⟨t220, A1120, H⟩ := H
                            replace H : (if t220 = true then (if a0_7 = true then ((laws_stands.f kj5 t212 (⟨#[59, 32, 115, 101, 99, 117, 114, 101]⟩ : ByteArray)).bind fun t221 => (some t221)) else (some true)) else (some false)) = some r := H
                            have A112 := Aside0.mk A1120
                            clear A1120
                            by_cases c113 : t220 = true
                            · subst c113
                              have H1 : (if a0_7 = true then ((laws_stands.f kj5 t212 (⟨#[59, 32, 115, 101, 99, 117, 114, 101]⟩ : ByteArray)).bind fun t221 => (some t221)) else (some true)) = some r := by rw [if_pos rfl] at H; exact H
                              clear H
                              have H := H1
                              clear H1
                              by_cases c114 : a0_7 = true
                              · subst c114
                                have H1 : ((laws_stands.f kj5 t212 (⟨#[59, 32, 115, 101, 99, 117, 114, 101]⟩ : ByteArray)).bind fun t221 => (some t221)) = some r := by rw [if_pos rfl] at H; exact H
                                clear H
                                have H := H1
                                clear H1
                                replace H := Option.bind_eq_some_iff.mp H
                                obtain ⟨t221, A1150, H⟩ := H
                                replace H : (some t221) = some r := H
                                have A115 := Aside0.mk A1150
                                clear A1150
                                obtain rfl := Option.some.inj H
                                have hcz116_0 : wc.cell? ⟨gb200, 0, none⟩ = some (.string a0_0) := (blk_cell BK200.out 0).trans rfl
                                have hcz116_1 : wc.cell? ⟨gb200, 1, none⟩ = some (.string a0_1) := (blk_cell BK200.out 1).trans rfl
                                have hcz116_2 : wc.cell? ⟨gb200, 2, none⟩ = some (.string a0_2) := (blk_cell BK200.out 2).trans rfl
                                have hcz116_3 : wc.cell? ⟨gb200, 3, none⟩ = some (.string a0_3) := (blk_cell BK200.out 3).trans rfl
                                have hcz116_4 : wc.cell? ⟨gb200, 4, none⟩ = some (.int .i64 a0_4) := (blk_cell BK200.out 4).trans rfl
                                have hcz116_5 : wc.cell? ⟨gb200, 5, none⟩ = some (.int .i64 a0_5) := (blk_cell BK200.out 5).trans rfl
                                have hcz116_6 : wc.cell? ⟨gb200, 6, none⟩ = some (.bool false) := (blk_cell BK200.out 6).trans rfl
                                have hcz116_7 : wc.cell? ⟨gb200, 7, none⟩ = some (.bool true) := (blk_cell BK200.out 7).trans rfl
                                have hcz116_8 : wc.cell? ⟨gb200, 8, none⟩ = some (.bool a0_8) := (blk_cell BK200.out 8).trans rfl
                                have hfz116_0 := blk_frozen BK200.out 0
                                have hfz116_1 := blk_frozen BK200.out 1
                                have hfz116_2 := blk_frozen BK200.out 2
                                have hfz116_3 := blk_frozen BK200.out 3
                                have hfz116_4 := blk_frozen BK200.out 4
                                have hfz116_5 := blk_frozen BK200.out 5
                                have hfz116_6 := blk_frozen BK200.out 6
                                have hfz116_7 := blk_frozen BK200.out 7
                                have hfz116_8 := blk_frozen BK200.out 8
                                go_wp2_with (first | ((with_reducible refine gate_callee (f := 21) rfl ?_); refine goesL_ (some 51) rfl rfl Try.func21 (by kernel_rfl) rfl #[.agg #[.string a0_0, .string a0_1, .string a0_2, .string a0_3, .int .i64 a0_4, .int .i64 a0_5, .bool false, .bool true, .bool a0_8]] rfl (by (try simp only [List.map_toArray, List.map_cons, List.map_nil]); first | done | rfl | (simp only [List.length_drop, List.length_take]; rfl)) ?_; (with_reducible refine (impl_CookieText.calls a0_0 a0_1 a0_2 a0_3 a0_4 a0_5 false true a0_8 t210 _ A42.out).mono ?_); rintro e w117 ⟨rfl, hb⟩; refine ⟨_, rfl, ?_⟩; have n0_ := Aside0.mk (blk_below (g := gb200) (o := .cells #[.string a0_0, .string a0_1, .string a0_2, .string a0_3, .int .i64 a0_4, .int .i64 a0_5, .bool false, .bool true, .bool a0_8] 53 (0, 0)) (by (with_reducible repeat (first | refine blk_drewN ?_ _ | refine blk_drew ?_ | refine blk_alloc ?_ _)); exact BK200.out) hb); have n1_ := Aside0.mk (below_step (by repeat (first | (with_reducible first | exact HB.out | apply below_alloc | apply pw_below_drewN | apply below_drew1 | refine below_set ?_ GE200.out) | exact HB.out)) hb); clear BK200; clear HB; have BK200 := n0_; have HB := n1_; clear n0_ n1_; (try clear hb); (try clear hb2); (try clear hk); (try clear hi); have hcz118_0 : w117.cell? ⟨gb200, 0, none⟩ = some (.string a0_0) := (blk_cell BK200.out 0).trans rfl; have hcz118_1 : w117.cell? ⟨gb200, 1, none⟩ = some (.string a0_1) := (blk_cell BK200.out 1).trans rfl; have hcz118_2 : w117.cell? ⟨gb200, 2, none⟩ = some (.string a0_2) := (blk_cell BK200.out 2).trans rfl; have hcz118_3 : w117.cell? ⟨gb200, 3, none⟩ = some (.string a0_3) := (blk_cell BK200.out 3).trans rfl; have hcz118_4 : w117.cell? ⟨gb200, 4, none⟩ = some (.int .i64 a0_4) := (blk_cell BK200.out 4).trans rfl; have hcz118_5 : w117.cell? ⟨gb200, 5, none⟩ = some (.int .i64 a0_5) := (blk_cell BK200.out 5).trans rfl; have hcz118_6 : w117.cell? ⟨gb200, 6, none⟩ = some (.bool false) := (blk_cell BK200.out 6).trans rfl; have hcz118_7 : w117.cell? ⟨gb200, 7, none⟩ = some (.bool true) := (blk_cell BK200.out 7).trans rfl; have hcz118_8 : w117.cell? ⟨gb200, 8, none⟩ = some (.bool a0_8) := (blk_cell BK200.out 8).trans rfl; have hfz118_0 := blk_frozen BK200.out 0; have hfz118_1 := blk_frozen BK200.out 1; have hfz118_2 := blk_frozen BK200.out 2; have hfz118_3 := blk_frozen BK200.out 3; have hfz118_4 := blk_frozen BK200.out 4; have hfz118_5 := blk_frozen BK200.out 5; have hfz118_6 := blk_frozen BK200.out 6; have hfz118_7 := blk_frozen BK200.out 7; have hfz118_8 := blk_frozen BK200.out 8) | ((with_reducible refine gate_callee (f := 24) rfl ?_); refine goesL_ (some 59) rfl rfl Try.func24 (by kernel_rfl) rfl #[.string t210, .string ((a0_0 ++ (⟨#[61]⟩ : ByteArray)) ++ a0_1)] rfl (by (try simp only [List.map_toArray, List.map_cons, List.map_nil]); first | done | rfl | (simp only [List.length_drop, List.length_take]; rfl)) ?_; (with_reducible refine (laws_begins.calls t210 ((a0_0 ++ (⟨#[61]⟩ : ByteArray)) ++ a0_1) true _ A45.out).mono ?_); rintro e w' ⟨rfl, ⟨nd, rfl⟩⟩; refine ⟨_, rfl, ?_⟩) | ((with_reducible refine gate_callee (f := 25) rfl ?_); refine goesL_ (some 70) rfl rfl Try.func25 (by kernel_rfl) rfl #[.string (t210.extract (a0_0.size + 1 + a0_1.size) t210.size)] rfl (by (try simp only [List.map_toArray, List.map_cons, List.map_nil]); first | done | rfl | (simp only [List.length_drop, List.length_take]; rfl)) ?_; (with_reducible refine (laws_low.calls (t210.extract (a0_0.size + 1 + a0_1.size) t210.size) t212 _ A49.out).mono ?_); rintro e w119 ⟨rfl, hb⟩; refine ⟨_, rfl, ?_⟩; have n0_ := Aside0.mk (blk_below (g := gb200) (o := .cells #[.string a0_0, .string a0_1, .string a0_2, .string a0_3, .int .i64 a0_4, .int .i64 a0_5, .bool false, .bool true, .bool a0_8] 53 (0, 0)) (by (with_reducible repeat (first | refine blk_drewN ?_ _ | refine blk_drew ?_ | refine blk_alloc ?_ _)); exact BK200.out) hb); have n1_ := Aside0.mk (below_step (by repeat (first | (with_reducible first | exact HB.out | apply below_alloc | apply pw_below_drewN | apply below_drew1 | refine below_set ?_ GE200.out) | exact HB.out)) hb); clear BK200; clear HB; have BK200 := n0_; have HB := n1_; clear n0_ n1_; (try clear hb); (try clear hb2); (try clear hk); (try clear hi); have hcz120_0 : w119.cell? ⟨gb200, 0, none⟩ = some (.string a0_0) := (blk_cell BK200.out 0).trans rfl; have hcz120_1 : w119.cell? ⟨gb200, 1, none⟩ = some (.string a0_1) := (blk_cell BK200.out 1).trans rfl; have hcz120_2 : w119.cell? ⟨gb200, 2, none⟩ = some (.string a0_2) := (blk_cell BK200.out 2).trans rfl; have hcz120_3 : w119.cell? ⟨gb200, 3, none⟩ = some (.string a0_3) := (blk_cell BK200.out 3).trans rfl; have hcz120_4 : w119.cell? ⟨gb200, 4, none⟩ = some (.int .i64 a0_4) := (blk_cell BK200.out 4).trans rfl; have hcz120_5 : w119.cell? ⟨gb200, 5, none⟩ = some (.int .i64 a0_5) := (blk_cell BK200.out 5).trans rfl; have hcz120_6 : w119.cell? ⟨gb200, 6, none⟩ = some (.bool false) := (blk_cell BK200.out 6).trans rfl; have hcz120_7 : w119.cell? ⟨gb200, 7, none⟩ = some (.bool true) := (blk_cell BK200.out 7).trans rfl; have hcz120_8 : w119.cell? ⟨gb200, 8, none⟩ = some (.bool a0_8) := (blk_cell BK200.out 8).trans rfl; have hfz120_0 := blk_frozen BK200.out 0; have hfz120_1 := blk_frozen BK200.out 1; have hfz120_2 := blk_frozen BK200.out 2; have hfz120_3 := blk_frozen BK200.out 3; have hfz120_4 := blk_frozen BK200.out 4; have hfz120_5 := blk_frozen BK200.out 5; have hfz120_6 := blk_frozen BK200.out 6; have hfz120_7 := blk_frozen BK200.out 7; have hfz120_8 := blk_frozen BK200.out 8) | (go_at_call 25; (with_reducible refine (laws_low.calls a0_2 t219 _ A110.out).mono ?_); rintro e w121 ⟨rfl, hb⟩; have n0_ := Aside0.mk (blk_below (g := gb200) (o := .cells #[.string a0_0, .string a0_1, .string a0_2, .string a0_3, .int .i64 a0_4, .int .i64 a0_5, .bool false, .bool true, .bool a0_8] 53 (0, 0)) (by (with_reducible repeat (first | refine blk_drewN ?_ _ | refine blk_drew ?_ | refine blk_alloc ?_ _)); exact BK200.out) hb); have n1_ := Aside0.mk (below_step (by repeat (first | (with_reducible first | exact HB.out | apply below_alloc | apply pw_below_drewN | apply below_drew1 | refine below_set ?_ GE200.out) | exact HB.out)) hb); clear BK200; clear HB; have BK200 := n0_; have HB := n1_; clear n0_ n1_; (try clear hb); (try clear hb2); (try clear hk); (try clear hi)) | (go_at_call 26; (with_reducible refine (laws_stands.calls kj5 t212 ((⟨#[59, 32, 100, 111, 109, 97, 105, 110, 61]⟩ : ByteArray) ++ t219) true _ A112.out).mono ?_); rintro e w' ⟨rfl, ⟨nd, rfl⟩⟩; have hcz122_0 : w121.cell? ⟨gb200, 0, none⟩ = some (.string a0_0) := (blk_cell BK200.out 0).trans rfl; have hcz122_1 : w121.cell? ⟨gb200, 1, none⟩ = some (.string a0_1) := (blk_cell BK200.out 1).trans rfl; have hcz122_2 : w121.cell? ⟨gb200, 2, none⟩ = some (.string a0_2) := (blk_cell BK200.out 2).trans rfl; have hcz122_3 : w121.cell? ⟨gb200, 3, none⟩ = some (.string a0_3) := (blk_cell BK200.out 3).trans rfl; have hcz122_4 : w121.cell? ⟨gb200, 4, none⟩ = some (.int .i64 a0_4) := (blk_cell BK200.out 4).trans rfl; have hcz122_5 : w121.cell? ⟨gb200, 5, none⟩ = some (.int .i64 a0_5) := (blk_cell BK200.out 5).trans rfl; have hcz122_6 : w121.cell? ⟨gb200, 6, none⟩ = some (.bool false) := (blk_cell BK200.out 6).trans rfl; have hcz122_7 : w121.cell? ⟨gb200, 7, none⟩ = some (.bool true) := (blk_cell BK200.out 7).trans rfl; have hcz122_8 : w121.cell? ⟨gb200, 8, none⟩ = some (.bool a0_8) := (blk_cell BK200.out 8).trans rfl; have hfz122_0 := blk_frozen BK200.out 0; have hfz122_1 := blk_frozen BK200.out 1; have hfz122_2 := blk_frozen BK200.out 2; have hfz122_3 := blk_frozen BK200.out 3; have hfz122_4 := blk_frozen BK200.out 4; have hfz122_5 := blk_frozen BK200.out 5; have hfz122_6 := blk_frozen BK200.out 6; have hfz122_7 := blk_frozen BK200.out 7; have hfz122_8 := blk_frozen BK200.out 8) | (go_at_call 26; (with_reducible refine (laws_stands.calls kj5 t212 (⟨#[59, 32, 115, 101, 99, 117, 114, 101]⟩ : ByteArray) t221 _ A115.out).mono ?_); rintro e w' ⟨rfl, ⟨nd, rfl⟩⟩))
                                any_goals (try (exfalso; have zc43b1 := of_decide_eq_true c43b1; have zc44b1 := of_decide_eq_true c44b1; have zc47b1 := of_decide_eq_true c47b1; have zc48b1 := of_decide_eq_true c48b1; have zc111b1 := of_decide_eq_true c111b1; omega))
                                go_ret
                                exact ⟨by first | rfl | (simp [errW_none, errW_some] <;> rfl) | (simp [*, errW_none, errW_some] <;> rfl), by repeat (first | (with_reducible first | exact HB.out | apply below_alloc | apply pw_below_drewN | apply below_drew1 | refine below_set ?_ GE200.out) | exact HB.out)⟩
                              · replace c114 := Bool.eq_false_iff.mpr c114
                                subst c114
                                have H1 : (some true) = some r := by rw [if_neg (show ¬ (false = true) by decide)] at H; exact H
                                clear H
                                have H := H1
                                clear H1
                                obtain rfl := Option.some.inj H
                                have hcz123_0 : wc.cell? ⟨gb200, 0, none⟩ = some (.string a0_0) := (blk_cell BK200.out 0).trans rfl
                                have hcz123_1 : wc.cell? ⟨gb200, 1, none⟩ = some (.string a0_1) := (blk_cell BK200.out 1).trans rfl
                                have hcz123_2 : wc.cell? ⟨gb200, 2, none⟩ = some (.string a0_2) := (blk_cell BK200.out 2).trans rfl
                                have hcz123_3 : wc.cell? ⟨gb200, 3, none⟩ = some (.string a0_3) := (blk_cell BK200.out 3).trans rfl
                                have hcz123_4 : wc.cell? ⟨gb200, 4, none⟩ = some (.int .i64 a0_4) := (blk_cell BK200.out 4).trans rfl
                                have hcz123_5 : wc.cell? ⟨gb200, 5, none⟩ = some (.int .i64 a0_5) := (blk_cell BK200.out 5).trans rfl
                                have hcz123_6 : wc.cell? ⟨gb200, 6, none⟩ = some (.bool false) := (blk_cell BK200.out 6).trans rfl
                                have hcz123_7 : wc.cell? ⟨gb200, 7, none⟩ = some (.bool false) := (blk_cell BK200.out 7).trans rfl
                                have hcz123_8 : wc.cell? ⟨gb200, 8, none⟩ = some (.bool a0_8) := (blk_cell BK200.out 8).trans rfl
                                have hfz123_0 := blk_frozen BK200.out 0
                                have hfz123_1 := blk_frozen BK200.out 1
                                have hfz123_2 := blk_frozen BK200.out 2
                                have hfz123_3 := blk_frozen BK200.out 3
                                have hfz123_4 := blk_frozen BK200.out 4
                                have hfz123_5 := blk_frozen BK200.out 5
                                have hfz123_6 := blk_frozen BK200.out 6
                                have hfz123_7 := blk_frozen BK200.out 7
                                have hfz123_8 := blk_frozen BK200.out 8
                                go_wp2_with (first | ((with_reducible refine gate_callee (f := 21) rfl ?_); refine goesL_ (some 51) rfl rfl Try.func21 (by kernel_rfl) rfl #[.agg #[.string a0_0, .string a0_1, .string a0_2, .string a0_3, .int .i64 a0_4, .int .i64 a0_5, .bool false, .bool false, .bool a0_8]] rfl (by (try simp only [List.map_toArray, List.map_cons, List.map_nil]); first | done | rfl | (simp only [List.length_drop, List.length_take]; rfl)) ?_; (with_reducible refine (impl_CookieText.calls a0_0 a0_1 a0_2 a0_3 a0_4 a0_5 false false a0_8 t210 _ A42.out).mono ?_); rintro e w124 ⟨rfl, hb⟩; refine ⟨_, rfl, ?_⟩; have n0_ := Aside0.mk (blk_below (g := gb200) (o := .cells #[.string a0_0, .string a0_1, .string a0_2, .string a0_3, .int .i64 a0_4, .int .i64 a0_5, .bool false, .bool false, .bool a0_8] 53 (0, 0)) (by (with_reducible repeat (first | refine blk_drewN ?_ _ | refine blk_drew ?_ | refine blk_alloc ?_ _)); exact BK200.out) hb); have n1_ := Aside0.mk (below_step (by repeat (first | (with_reducible first | exact HB.out | apply below_alloc | apply pw_below_drewN | apply below_drew1 | refine below_set ?_ GE200.out) | exact HB.out)) hb); clear BK200; clear HB; have BK200 := n0_; have HB := n1_; clear n0_ n1_; (try clear hb); (try clear hb2); (try clear hk); (try clear hi); have hcz125_0 : w124.cell? ⟨gb200, 0, none⟩ = some (.string a0_0) := (blk_cell BK200.out 0).trans rfl; have hcz125_1 : w124.cell? ⟨gb200, 1, none⟩ = some (.string a0_1) := (blk_cell BK200.out 1).trans rfl; have hcz125_2 : w124.cell? ⟨gb200, 2, none⟩ = some (.string a0_2) := (blk_cell BK200.out 2).trans rfl; have hcz125_3 : w124.cell? ⟨gb200, 3, none⟩ = some (.string a0_3) := (blk_cell BK200.out 3).trans rfl; have hcz125_4 : w124.cell? ⟨gb200, 4, none⟩ = some (.int .i64 a0_4) := (blk_cell BK200.out 4).trans rfl; have hcz125_5 : w124.cell? ⟨gb200, 5, none⟩ = some (.int .i64 a0_5) := (blk_cell BK200.out 5).trans rfl; have hcz125_6 : w124.cell? ⟨gb200, 6, none⟩ = some (.bool false) := (blk_cell BK200.out 6).trans rfl; have hcz125_7 : w124.cell? ⟨gb200, 7, none⟩ = some (.bool false) := (blk_cell BK200.out 7).trans rfl; have hcz125_8 : w124.cell? ⟨gb200, 8, none⟩ = some (.bool a0_8) := (blk_cell BK200.out 8).trans rfl; have hfz125_0 := blk_frozen BK200.out 0; have hfz125_1 := blk_frozen BK200.out 1; have hfz125_2 := blk_frozen BK200.out 2; have hfz125_3 := blk_frozen BK200.out 3; have hfz125_4 := blk_frozen BK200.out 4; have hfz125_5 := blk_frozen BK200.out 5; have hfz125_6 := blk_frozen BK200.out 6; have hfz125_7 := blk_frozen BK200.out 7; have hfz125_8 := blk_frozen BK200.out 8) | ((with_reducible refine gate_callee (f := 24) rfl ?_); refine goesL_ (some 59) rfl rfl Try.func24 (by kernel_rfl) rfl #[.string t210, .string ((a0_0 ++ (⟨#[61]⟩ : ByteArray)) ++ a0_1)] rfl (by (try simp only [List.map_toArray, List.map_cons, List.map_nil]); first | done | rfl | (simp only [List.length_drop, List.length_take]; rfl)) ?_; (with_reducible refine (laws_begins.calls t210 ((a0_0 ++ (⟨#[61]⟩ : ByteArray)) ++ a0_1) true _ A45.out).mono ?_); rintro e w' ⟨rfl, ⟨nd, rfl⟩⟩; refine ⟨_, rfl, ?_⟩) | ((with_reducible refine gate_callee (f := 25) rfl ?_); refine goesL_ (some 70) rfl rfl Try.func25 (by kernel_rfl) rfl #[.string (t210.extract (a0_0.size + 1 + a0_1.size) t210.size)] rfl (by (try simp only [List.map_toArray, List.map_cons, List.map_nil]); first | done | rfl | (simp only [List.length_drop, List.length_take]; rfl)) ?_; (with_reducible refine (laws_low.calls (t210.extract (a0_0.size + 1 + a0_1.size) t210.size) t212 _ A49.out).mono ?_); rintro e w126 ⟨rfl, hb⟩; refine ⟨_, rfl, ?_⟩; have n0_ := Aside0.mk (blk_below (g := gb200) (o := .cells #[.string a0_0, .string a0_1, .string a0_2, .string a0_3, .int .i64 a0_4, .int .i64 a0_5, .bool false, .bool false, .bool a0_8] 53 (0, 0)) (by (with_reducible repeat (first | refine blk_drewN ?_ _ | refine blk_drew ?_ | refine blk_alloc ?_ _)); exact BK200.out) hb); have n1_ := Aside0.mk (below_step (by repeat (first | (with_reducible first | exact HB.out | apply below_alloc | apply pw_below_drewN | apply below_drew1 | refine below_set ?_ GE200.out) | exact HB.out)) hb); clear BK200; clear HB; have BK200 := n0_; have HB := n1_; clear n0_ n1_; (try clear hb); (try clear hb2); (try clear hk); (try clear hi); have hcz127_0 : w126.cell? ⟨gb200, 0, none⟩ = some (.string a0_0) := (blk_cell BK200.out 0).trans rfl; have hcz127_1 : w126.cell? ⟨gb200, 1, none⟩ = some (.string a0_1) := (blk_cell BK200.out 1).trans rfl; have hcz127_2 : w126.cell? ⟨gb200, 2, none⟩ = some (.string a0_2) := (blk_cell BK200.out 2).trans rfl; have hcz127_3 : w126.cell? ⟨gb200, 3, none⟩ = some (.string a0_3) := (blk_cell BK200.out 3).trans rfl; have hcz127_4 : w126.cell? ⟨gb200, 4, none⟩ = some (.int .i64 a0_4) := (blk_cell BK200.out 4).trans rfl; have hcz127_5 : w126.cell? ⟨gb200, 5, none⟩ = some (.int .i64 a0_5) := (blk_cell BK200.out 5).trans rfl; have hcz127_6 : w126.cell? ⟨gb200, 6, none⟩ = some (.bool false) := (blk_cell BK200.out 6).trans rfl; have hcz127_7 : w126.cell? ⟨gb200, 7, none⟩ = some (.bool false) := (blk_cell BK200.out 7).trans rfl; have hcz127_8 : w126.cell? ⟨gb200, 8, none⟩ = some (.bool a0_8) := (blk_cell BK200.out 8).trans rfl; have hfz127_0 := blk_frozen BK200.out 0; have hfz127_1 := blk_frozen BK200.out 1; have hfz127_2 := blk_frozen BK200.out 2; have hfz127_3 := blk_frozen BK200.out 3; have hfz127_4 := blk_frozen BK200.out 4; have hfz127_5 := blk_frozen BK200.out 5; have hfz127_6 := blk_frozen BK200.out 6; have hfz127_7 := blk_frozen BK200.out 7; have hfz127_8 := blk_frozen BK200.out 8) | (go_at_call 25; (with_reducible refine (laws_low.calls a0_2 t219 _ A110.out).mono ?_); rintro e w128 ⟨rfl, hb⟩; have n0_ := Aside0.mk (blk_below (g := gb200) (o := .cells #[.string a0_0, .string a0_1, .string a0_2, .string a0_3, .int .i64 a0_4, .int .i64 a0_5, .bool false, .bool false, .bool a0_8] 53 (0, 0)) (by (with_reducible repeat (first | refine blk_drewN ?_ _ | refine blk_drew ?_ | refine blk_alloc ?_ _)); exact BK200.out) hb); have n1_ := Aside0.mk (below_step (by repeat (first | (with_reducible first | exact HB.out | apply below_alloc | apply pw_below_drewN | apply below_drew1 | refine below_set ?_ GE200.out) | exact HB.out)) hb); clear BK200; clear HB; have BK200 := n0_; have HB := n1_; clear n0_ n1_; (try clear hb); (try clear hb2); (try clear hk); (try clear hi)) | (go_at_call 26; (with_reducible refine (laws_stands.calls kj5 t212 ((⟨#[59, 32, 100, 111, 109, 97, 105, 110, 61]⟩ : ByteArray) ++ t219) true _ A112.out).mono ?_); rintro e w' ⟨rfl, ⟨nd, rfl⟩⟩; have hcz129_0 : w128.cell? ⟨gb200, 0, none⟩ = some (.string a0_0) := (blk_cell BK200.out 0).trans rfl; have hcz129_1 : w128.cell? ⟨gb200, 1, none⟩ = some (.string a0_1) := (blk_cell BK200.out 1).trans rfl; have hcz129_2 : w128.cell? ⟨gb200, 2, none⟩ = some (.string a0_2) := (blk_cell BK200.out 2).trans rfl; have hcz129_3 : w128.cell? ⟨gb200, 3, none⟩ = some (.string a0_3) := (blk_cell BK200.out 3).trans rfl; have hcz129_4 : w128.cell? ⟨gb200, 4, none⟩ = some (.int .i64 a0_4) := (blk_cell BK200.out 4).trans rfl; have hcz129_5 : w128.cell? ⟨gb200, 5, none⟩ = some (.int .i64 a0_5) := (blk_cell BK200.out 5).trans rfl; have hcz129_6 : w128.cell? ⟨gb200, 6, none⟩ = some (.bool false) := (blk_cell BK200.out 6).trans rfl; have hcz129_7 : w128.cell? ⟨gb200, 7, none⟩ = some (.bool false) := (blk_cell BK200.out 7).trans rfl; have hcz129_8 : w128.cell? ⟨gb200, 8, none⟩ = some (.bool a0_8) := (blk_cell BK200.out 8).trans rfl; have hfz129_0 := blk_frozen BK200.out 0; have hfz129_1 := blk_frozen BK200.out 1; have hfz129_2 := blk_frozen BK200.out 2; have hfz129_3 := blk_frozen BK200.out 3; have hfz129_4 := blk_frozen BK200.out 4; have hfz129_5 := blk_frozen BK200.out 5; have hfz129_6 := blk_frozen BK200.out 6; have hfz129_7 := blk_frozen BK200.out 7; have hfz129_8 := blk_frozen BK200.out 8))
                                any_goals (try (exfalso; have zc43b1 := of_decide_eq_true c43b1; have zc44b1 := of_decide_eq_true c44b1; have zc47b1 := of_decide_eq_true c47b1; have zc48b1 := of_decide_eq_true c48b1; have zc111b1 := of_decide_eq_true c111b1; omega))
                                go_ret
                                exact ⟨by first | rfl | (simp [errW_none, errW_some] <;> rfl) | (simp [*, errW_none, errW_some] <;> rfl), by repeat (first | (with_reducible first | exact HB.out | apply below_alloc | apply pw_below_drewN | apply below_drew1 | refine below_set ?_ GE200.out) | exact HB.out)⟩
                            · replace c113 := Bool.eq_false_iff.mpr c113
                              subst c113
                              have H1 : (some false) = some r := by rw [if_neg (show ¬ (false = true) by decide)] at H; exact H
                              clear H
                              have H := H1
                              clear H1
                              obtain rfl := Option.some.inj H
                              have hcz130_0 : wc.cell? ⟨gb200, 0, none⟩ = some (.string a0_0) := (blk_cell BK200.out 0).trans rfl
                              have hcz130_1 : wc.cell? ⟨gb200, 1, none⟩ = some (.string a0_1) := (blk_cell BK200.out 1).trans rfl
                              have hcz130_2 : wc.cell? ⟨gb200, 2, none⟩ = some (.string a0_2) := (blk_cell BK200.out 2).trans rfl
                              have hcz130_3 : wc.cell? ⟨gb200, 3, none⟩ = some (.string a0_3) := (blk_cell BK200.out 3).trans rfl
                              have hcz130_4 : wc.cell? ⟨gb200, 4, none⟩ = some (.int .i64 a0_4) := (blk_cell BK200.out 4).trans rfl
                              have hcz130_5 : wc.cell? ⟨gb200, 5, none⟩ = some (.int .i64 a0_5) := (blk_cell BK200.out 5).trans rfl
                              have hcz130_6 : wc.cell? ⟨gb200, 6, none⟩ = some (.bool false) := (blk_cell BK200.out 6).trans rfl
                              have hcz130_7 : wc.cell? ⟨gb200, 7, none⟩ = some (.bool a0_7) := (blk_cell BK200.out 7).trans rfl
                              have hcz130_8 : wc.cell? ⟨gb200, 8, none⟩ = some (.bool a0_8) := (blk_cell BK200.out 8).trans rfl
                              have hfz130_0 := blk_frozen BK200.out 0
                              have hfz130_1 := blk_frozen BK200.out 1
                              have hfz130_2 := blk_frozen BK200.out 2
                              have hfz130_3 := blk_frozen BK200.out 3
                              have hfz130_4 := blk_frozen BK200.out 4
                              have hfz130_5 := blk_frozen BK200.out 5
                              have hfz130_6 := blk_frozen BK200.out 6
                              have hfz130_7 := blk_frozen BK200.out 7
                              have hfz130_8 := blk_frozen BK200.out 8
                              go_wp2_with (first | ((with_reducible refine gate_callee (f := 21) rfl ?_); refine goesL_ (some 51) rfl rfl Try.func21 (by kernel_rfl) rfl #[.agg #[.string a0_0, .string a0_1, .string a0_2, .string a0_3, .int .i64 a0_4, .int .i64 a0_5, .bool false, .bool a0_7, .bool a0_8]] rfl (by (try simp only [List.map_toArray, List.map_cons, List.map_nil]); first | done | rfl | (simp only [List.length_drop, List.length_take]; rfl)) ?_; (with_reducible refine (impl_CookieText.calls a0_0 a0_1 a0_2 a0_3 a0_4 a0_5 false a0_7 a0_8 t210 _ A42.out).mono ?_); rintro e w131 ⟨rfl, hb⟩; refine ⟨_, rfl, ?_⟩; have n0_ := Aside0.mk (blk_below (g := gb200) (o := .cells #[.string a0_0, .string a0_1, .string a0_2, .string a0_3, .int .i64 a0_4, .int .i64 a0_5, .bool false, .bool a0_7, .bool a0_8] 53 (0, 0)) (by (with_reducible repeat (first | refine blk_drewN ?_ _ | refine blk_drew ?_ | refine blk_alloc ?_ _)); exact BK200.out) hb); have n1_ := Aside0.mk (below_step (by repeat (first | (with_reducible first | exact HB.out | apply below_alloc | apply pw_below_drewN | apply below_drew1 | refine below_set ?_ GE200.out) | exact HB.out)) hb); clear BK200; clear HB; have BK200 := n0_; have HB := n1_; clear n0_ n1_; (try clear hb); (try clear hb2); (try clear hk); (try clear hi); have hcz132_0 : w131.cell? ⟨gb200, 0, none⟩ = some (.string a0_0) := (blk_cell BK200.out 0).trans rfl; have hcz132_1 : w131.cell? ⟨gb200, 1, none⟩ = some (.string a0_1) := (blk_cell BK200.out 1).trans rfl; have hcz132_2 : w131.cell? ⟨gb200, 2, none⟩ = some (.string a0_2) := (blk_cell BK200.out 2).trans rfl; have hcz132_3 : w131.cell? ⟨gb200, 3, none⟩ = some (.string a0_3) := (blk_cell BK200.out 3).trans rfl; have hcz132_4 : w131.cell? ⟨gb200, 4, none⟩ = some (.int .i64 a0_4) := (blk_cell BK200.out 4).trans rfl; have hcz132_5 : w131.cell? ⟨gb200, 5, none⟩ = some (.int .i64 a0_5) := (blk_cell BK200.out 5).trans rfl; have hcz132_6 : w131.cell? ⟨gb200, 6, none⟩ = some (.bool false) := (blk_cell BK200.out 6).trans rfl; have hcz132_7 : w131.cell? ⟨gb200, 7, none⟩ = some (.bool a0_7) := (blk_cell BK200.out 7).trans rfl; have hcz132_8 : w131.cell? ⟨gb200, 8, none⟩ = some (.bool a0_8) := (blk_cell BK200.out 8).trans rfl; have hfz132_0 := blk_frozen BK200.out 0; have hfz132_1 := blk_frozen BK200.out 1; have hfz132_2 := blk_frozen BK200.out 2; have hfz132_3 := blk_frozen BK200.out 3; have hfz132_4 := blk_frozen BK200.out 4; have hfz132_5 := blk_frozen BK200.out 5; have hfz132_6 := blk_frozen BK200.out 6; have hfz132_7 := blk_frozen BK200.out 7; have hfz132_8 := blk_frozen BK200.out 8) | ((with_reducible refine gate_callee (f := 24) rfl ?_); refine goesL_ (some 59) rfl rfl Try.func24 (by kernel_rfl) rfl #[.string t210, .string ((a0_0 ++ (⟨#[61]⟩ : ByteArray)) ++ a0_1)] rfl (by (try simp only [List.map_toArray, List.map_cons, List.map_nil]); first | done | rfl | (simp only [List.length_drop, List.length_take]; rfl)) ?_; (with_reducible refine (laws_begins.calls t210 ((a0_0 ++ (⟨#[61]⟩ : ByteArray)) ++ a0_1) true _ A45.out).mono ?_); rintro e w' ⟨rfl, ⟨nd, rfl⟩⟩; refine ⟨_, rfl, ?_⟩) | ((with_reducible refine gate_callee (f := 25) rfl ?_); refine goesL_ (some 70) rfl rfl Try.func25 (by kernel_rfl) rfl #[.string (t210.extract (a0_0.size + 1 + a0_1.size) t210.size)] rfl (by (try simp only [List.map_toArray, List.map_cons, List.map_nil]); first | done | rfl | (simp only [List.length_drop, List.length_take]; rfl)) ?_; (with_reducible refine (laws_low.calls (t210.extract (a0_0.size + 1 + a0_1.size) t210.size) t212 _ A49.out).mono ?_); rintro e w133 ⟨rfl, hb⟩; refine ⟨_, rfl, ?_⟩; have n0_ := Aside0.mk (blk_below (g := gb200) (o := .cells #[.string a0_0, .string a0_1, .string a0_2, .string a0_3, .int .i64 a0_4, .int .i64 a0_5, .bool false, .bool a0_7, .bool a0_8] 53 (0, 0)) (by (with_reducible repeat (first | refine blk_drewN ?_ _ | refine blk_drew ?_ | refine blk_alloc ?_ _)); exact BK200.out) hb); have n1_ := Aside0.mk (below_step (by repeat (first | (with_reducible first | exact HB.out | apply below_alloc | apply pw_below_drewN | apply below_drew1 | refine below_set ?_ GE200.out) | exact HB.out)) hb); clear BK200; clear HB; have BK200 := n0_; have HB := n1_; clear n0_ n1_; (try clear hb); (try clear hb2); (try clear hk); (try clear hi); have hcz134_0 : w133.cell? ⟨gb200, 0, none⟩ = some (.string a0_0) := (blk_cell BK200.out 0).trans rfl; have hcz134_1 : w133.cell? ⟨gb200, 1, none⟩ = some (.string a0_1) := (blk_cell BK200.out 1).trans rfl; have hcz134_2 : w133.cell? ⟨gb200, 2, none⟩ = some (.string a0_2) := (blk_cell BK200.out 2).trans rfl; have hcz134_3 : w133.cell? ⟨gb200, 3, none⟩ = some (.string a0_3) := (blk_cell BK200.out 3).trans rfl; have hcz134_4 : w133.cell? ⟨gb200, 4, none⟩ = some (.int .i64 a0_4) := (blk_cell BK200.out 4).trans rfl; have hcz134_5 : w133.cell? ⟨gb200, 5, none⟩ = some (.int .i64 a0_5) := (blk_cell BK200.out 5).trans rfl; have hcz134_6 : w133.cell? ⟨gb200, 6, none⟩ = some (.bool false) := (blk_cell BK200.out 6).trans rfl; have hcz134_7 : w133.cell? ⟨gb200, 7, none⟩ = some (.bool a0_7) := (blk_cell BK200.out 7).trans rfl; have hcz134_8 : w133.cell? ⟨gb200, 8, none⟩ = some (.bool a0_8) := (blk_cell BK200.out 8).trans rfl; have hfz134_0 := blk_frozen BK200.out 0; have hfz134_1 := blk_frozen BK200.out 1; have hfz134_2 := blk_frozen BK200.out 2; have hfz134_3 := blk_frozen BK200.out 3; have hfz134_4 := blk_frozen BK200.out 4; have hfz134_5 := blk_frozen BK200.out 5; have hfz134_6 := blk_frozen BK200.out 6; have hfz134_7 := blk_frozen BK200.out 7; have hfz134_8 := blk_frozen BK200.out 8) | (go_at_call 25; (with_reducible refine (laws_low.calls a0_2 t219 _ A110.out).mono ?_); rintro e w135 ⟨rfl, hb⟩; have n0_ := Aside0.mk (blk_below (g := gb200) (o := .cells #[.string a0_0, .string a0_1, .string a0_2, .string a0_3, .int .i64 a0_4, .int .i64 a0_5, .bool false, .bool a0_7, .bool a0_8] 53 (0, 0)) (by (with_reducible repeat (first | refine blk_drewN ?_ _ | refine blk_drew ?_ | refine blk_alloc ?_ _)); exact BK200.out) hb); have n1_ := Aside0.mk (below_step (by repeat (first | (with_reducible first | exact HB.out | apply below_alloc | apply pw_below_drewN | apply below_drew1 | refine below_set ?_ GE200.out) | exact HB.out)) hb); clear BK200; clear HB; have BK200 := n0_; have HB := n1_; clear n0_ n1_; (try clear hb); (try clear hb2); (try clear hk); (try clear hi)) | (go_at_call 26; (with_reducible refine (laws_stands.calls kj5 t212 ((⟨#[59, 32, 100, 111, 109, 97, 105, 110, 61]⟩ : ByteArray) ++ t219) false _ A112.out).mono ?_); rintro e w' ⟨rfl, ⟨nd, rfl⟩⟩))
                              any_goals (try (exfalso; have zc43b1 := of_decide_eq_true c43b1; have zc44b1 := of_decide_eq_true c44b1; have zc47b1 := of_decide_eq_true c47b1; have zc48b1 := of_decide_eq_true c48b1; have zc111b1 := of_decide_eq_true c111b1; omega))
                              go_ret
                              exact ⟨by first | rfl | (simp [errW_none, errW_some] <;> rfl) | (simp [*, errW_none, errW_some] <;> rfl), by repeat (first | (with_reducible first | exact HB.out | apply below_alloc | apply pw_below_drewN | apply below_drew1 | refine below_set ?_ GE200.out) | exact HB.out)⟩
                          · rw [if_neg c111] at H
                            exact absurd H (by simp)
                    · rw [if_neg c48] at H
                      exact absurd H (by simp)
                  · rw [if_neg c47] at H
                    exact absurd H (by simp)
                · replace c46 := Bool.eq_false_iff.mpr c46
                  subst c46
                  have H1 : (some false) = some r := by rw [if_neg (show ¬ (false = true) by decide)] at H; exact H
                  clear H
                  have H := H1
                  clear H1
                  obtain rfl := Option.some.inj H
                  have hcz136_0 : wc.cell? ⟨gb200, 0, none⟩ = some (.string a0_0) := (blk_cell BK200.out 0).trans rfl
                  have hcz136_1 : wc.cell? ⟨gb200, 1, none⟩ = some (.string a0_1) := (blk_cell BK200.out 1).trans rfl
                  have hcz136_2 : wc.cell? ⟨gb200, 2, none⟩ = some (.string a0_2) := (blk_cell BK200.out 2).trans rfl
                  have hcz136_3 : wc.cell? ⟨gb200, 3, none⟩ = some (.string a0_3) := (blk_cell BK200.out 3).trans rfl
                  have hcz136_4 : wc.cell? ⟨gb200, 4, none⟩ = some (.int .i64 a0_4) := (blk_cell BK200.out 4).trans rfl
                  have hcz136_5 : wc.cell? ⟨gb200, 5, none⟩ = some (.int .i64 a0_5) := (blk_cell BK200.out 5).trans rfl
                  have hcz136_6 : wc.cell? ⟨gb200, 6, none⟩ = some (.bool a0_6) := (blk_cell BK200.out 6).trans rfl
                  have hcz136_7 : wc.cell? ⟨gb200, 7, none⟩ = some (.bool a0_7) := (blk_cell BK200.out 7).trans rfl
                  have hcz136_8 : wc.cell? ⟨gb200, 8, none⟩ = some (.bool a0_8) := (blk_cell BK200.out 8).trans rfl
                  have hfz136_0 := blk_frozen BK200.out 0
                  have hfz136_1 := blk_frozen BK200.out 1
                  have hfz136_2 := blk_frozen BK200.out 2
                  have hfz136_3 := blk_frozen BK200.out 3
                  have hfz136_4 := blk_frozen BK200.out 4
                  have hfz136_5 := blk_frozen BK200.out 5
                  have hfz136_6 := blk_frozen BK200.out 6
                  have hfz136_7 := blk_frozen BK200.out 7
                  have hfz136_8 := blk_frozen BK200.out 8
                  go_wp2_with (first | ((with_reducible refine gate_callee (f := 21) rfl ?_); refine goesL_ (some 51) rfl rfl Try.func21 (by kernel_rfl) rfl #[.agg #[.string a0_0, .string a0_1, .string a0_2, .string a0_3, .int .i64 a0_4, .int .i64 a0_5, .bool a0_6, .bool a0_7, .bool a0_8]] rfl (by (try simp only [List.map_toArray, List.map_cons, List.map_nil]); first | done | rfl | (simp only [List.length_drop, List.length_take]; rfl)) ?_; (with_reducible refine (impl_CookieText.calls a0_0 a0_1 a0_2 a0_3 a0_4 a0_5 a0_6 a0_7 a0_8 t210 _ A42.out).mono ?_); rintro e w137 ⟨rfl, hb⟩; refine ⟨_, rfl, ?_⟩; have n0_ := Aside0.mk (blk_below (g := gb200) (o := .cells #[.string a0_0, .string a0_1, .string a0_2, .string a0_3, .int .i64 a0_4, .int .i64 a0_5, .bool a0_6, .bool a0_7, .bool a0_8] 53 (0, 0)) (by (with_reducible repeat (first | refine blk_drewN ?_ _ | refine blk_drew ?_ | refine blk_alloc ?_ _)); exact BK200.out) hb); have n1_ := Aside0.mk (below_step (by repeat (first | (with_reducible first | exact HB.out | apply below_alloc | apply pw_below_drewN | apply below_drew1 | refine below_set ?_ GE200.out) | exact HB.out)) hb); clear BK200; clear HB; have BK200 := n0_; have HB := n1_; clear n0_ n1_; (try clear hb); (try clear hb2); (try clear hk); (try clear hi); have hcz138_0 : w137.cell? ⟨gb200, 0, none⟩ = some (.string a0_0) := (blk_cell BK200.out 0).trans rfl; have hcz138_1 : w137.cell? ⟨gb200, 1, none⟩ = some (.string a0_1) := (blk_cell BK200.out 1).trans rfl; have hcz138_2 : w137.cell? ⟨gb200, 2, none⟩ = some (.string a0_2) := (blk_cell BK200.out 2).trans rfl; have hcz138_3 : w137.cell? ⟨gb200, 3, none⟩ = some (.string a0_3) := (blk_cell BK200.out 3).trans rfl; have hcz138_4 : w137.cell? ⟨gb200, 4, none⟩ = some (.int .i64 a0_4) := (blk_cell BK200.out 4).trans rfl; have hcz138_5 : w137.cell? ⟨gb200, 5, none⟩ = some (.int .i64 a0_5) := (blk_cell BK200.out 5).trans rfl; have hcz138_6 : w137.cell? ⟨gb200, 6, none⟩ = some (.bool a0_6) := (blk_cell BK200.out 6).trans rfl; have hcz138_7 : w137.cell? ⟨gb200, 7, none⟩ = some (.bool a0_7) := (blk_cell BK200.out 7).trans rfl; have hcz138_8 : w137.cell? ⟨gb200, 8, none⟩ = some (.bool a0_8) := (blk_cell BK200.out 8).trans rfl; have hfz138_0 := blk_frozen BK200.out 0; have hfz138_1 := blk_frozen BK200.out 1; have hfz138_2 := blk_frozen BK200.out 2; have hfz138_3 := blk_frozen BK200.out 3; have hfz138_4 := blk_frozen BK200.out 4; have hfz138_5 := blk_frozen BK200.out 5; have hfz138_6 := blk_frozen BK200.out 6; have hfz138_7 := blk_frozen BK200.out 7; have hfz138_8 := blk_frozen BK200.out 8) | ((with_reducible refine gate_callee (f := 24) rfl ?_); refine goesL_ (some 59) rfl rfl Try.func24 (by kernel_rfl) rfl #[.string t210, .string ((a0_0 ++ (⟨#[61]⟩ : ByteArray)) ++ a0_1)] rfl (by (try simp only [List.map_toArray, List.map_cons, List.map_nil]); first | done | rfl | (simp only [List.length_drop, List.length_take]; rfl)) ?_; (with_reducible refine (laws_begins.calls t210 ((a0_0 ++ (⟨#[61]⟩ : ByteArray)) ++ a0_1) false _ A45.out).mono ?_); rintro e w' ⟨rfl, ⟨nd, rfl⟩⟩; refine ⟨_, rfl, ?_⟩))
                  any_goals (try (exfalso; have zc43b1 := of_decide_eq_true c43b1; have zc44b1 := of_decide_eq_true c44b1; omega))
                  go_ret
                  exact ⟨by first | rfl | (simp [errW_none, errW_some] <;> rfl) | (simp [*, errW_none, errW_some] <;> rfl), by repeat (first | (with_reducible first | exact HB.out | apply below_alloc | apply pw_below_drewN | apply below_drew1 | refine below_set ?_ GE200.out) | exact HB.out)⟩
              · rw [if_neg c44] at H
                exact absurd H (by simp)
            · rw [if_neg c43] at H
              exact absurd H (by simp)
    · rw [if_neg c5] at H
      have c5b0 : (t202.toList == ([97, 61, 98] : List UInt8)) = false := beq_eq_false_iff_ne.mpr c5
      have c5b1 : (t202.toList != ([97, 61, 98] : List UInt8)) = true := bne_iff_ne.mpr c5
      obtain rfl := Option.some.inj H
      go_enter Try.func6, Try.ntmps6
      go_wp2_with (first | ((with_reducible refine gate_dst (N := 1) rfl ?_); (try (refine gate_guard (by rfl) ?_; dsimp only)); refine box_event ?hg (N := 1) ?hd (cs := #[.string a0_0, .string a0_1, .string a0_2, .string a0_3, .int .i64 a0_4, .int .i64 a0_5, .bool a0_6, .bool a0_7, .bool a0_8]) (t := 53) ?hr ?_; (case hd => rfl); (case hg => rfl); (case hr => first | (go_simp; done) | (go_simp; rfl)); intro gb200 hg w139 hbox hb; have n0_ := Aside0.mk (below_step (by repeat (first | (with_reducible first | exact HB.out | apply below_alloc | apply pw_below_drewN | apply below_drew1) | exact HB.out)) hb); have n1_ := Aside0.mk (hbox); have n2_ := Aside0.mk ((by rw [hg]; exact (below_size (by repeat (first | (with_reducible first | exact HB.out | apply below_alloc | apply pw_below_drewN | apply below_drew1) | exact HB.out))) : w.heap.size ≤ gb200)); have n3_ := Aside0.mk ((by rw [hg]; exact (below_size (by repeat (first | (with_reducible first | exact HB.out | apply below_alloc | apply pw_below_drewN | apply below_drew1) | exact HB.out))) : w.heap.size ≤ gb200)); clear HB; have HB := n0_; have BK200 := n1_; have GW200 := n2_; have GE200 := n3_; clear n0_ n1_ n2_ n3_; clear hb hbox hg; have hcz140_0 : w139.cell? ⟨gb200, 0, none⟩ = some (.string a0_0) := (blk_cell BK200.out 0).trans rfl; have hcz140_1 : w139.cell? ⟨gb200, 1, none⟩ = some (.string a0_1) := (blk_cell BK200.out 1).trans rfl; have hcz140_2 : w139.cell? ⟨gb200, 2, none⟩ = some (.string a0_2) := (blk_cell BK200.out 2).trans rfl; have hcz140_3 : w139.cell? ⟨gb200, 3, none⟩ = some (.string a0_3) := (blk_cell BK200.out 3).trans rfl; have hcz140_4 : w139.cell? ⟨gb200, 4, none⟩ = some (.int .i64 a0_4) := (blk_cell BK200.out 4).trans rfl; have hcz140_5 : w139.cell? ⟨gb200, 5, none⟩ = some (.int .i64 a0_5) := (blk_cell BK200.out 5).trans rfl; have hcz140_6 : w139.cell? ⟨gb200, 6, none⟩ = some (.bool a0_6) := (blk_cell BK200.out 6).trans rfl; have hcz140_7 : w139.cell? ⟨gb200, 7, none⟩ = some (.bool a0_7) := (blk_cell BK200.out 7).trans rfl; have hcz140_8 : w139.cell? ⟨gb200, 8, none⟩ = some (.bool a0_8) := (blk_cell BK200.out 8).trans rfl; have hfz140_0 := blk_frozen BK200.out 0; have hfz140_1 := blk_frozen BK200.out 1; have hfz140_2 := blk_frozen BK200.out 2; have hfz140_3 := blk_frozen BK200.out 3; have hfz140_4 := blk_frozen BK200.out 4; have hfz140_5 := blk_frozen BK200.out 5; have hfz140_6 := blk_frozen BK200.out 6; have hfz140_7 := blk_frozen BK200.out 7; have hfz140_8 := blk_frozen BK200.out 8) | ((with_reducible refine gate_callee (f := 20) rfl ?_); refine goesL_ (some 6) rfl rfl Try.func20 (by kernel_rfl) rfl #[.agg #[.string a0_0, .string a0_1, .string a0_2, .string a0_3, .int .i64 a0_4, .int .i64 a0_5, .bool a0_6, .bool a0_7, .bool a0_8]] rfl (by (try simp only [List.map_toArray, List.map_cons, List.map_nil]); first | done | rfl | (simp only [List.length_drop, List.length_take]; rfl)) ?_; (with_reducible refine (laws_zzFits11.calls a0_0 a0_1 a0_2 a0_3 a0_4 a0_5 a0_6 a0_7 a0_8 true _ A2.out).mono ?_); rintro e w141 ⟨rfl, hb⟩; refine ⟨_, rfl, ?_⟩; have n0_ := Aside0.mk (blk_below (g := gb200) (o := .cells #[.string a0_0, .string a0_1, .string a0_2, .string a0_3, .int .i64 a0_4, .int .i64 a0_5, .bool a0_6, .bool a0_7, .bool a0_8] 53 (0, 0)) (by (with_reducible repeat (first | refine blk_drewN ?_ _ | refine blk_drew ?_ | refine blk_alloc ?_ _)); exact BK200.out) hb); have n1_ := Aside0.mk (below_step (by repeat (first | (with_reducible first | exact HB.out | apply below_alloc | apply pw_below_drewN | apply below_drew1 | refine below_set ?_ GE200.out) | exact HB.out)) hb); clear BK200; clear HB; have BK200 := n0_; have HB := n1_; clear n0_ n1_; (try clear hb); (try clear hb2); (try clear hk); (try clear hi)) | ((with_reducible refine gate_callee (f := 21) rfl ?_); refine goesL_ (some 9) rfl rfl Try.func21 (by kernel_rfl) rfl #[.agg #[.string (⟨#[97]⟩ : ByteArray), .string (⟨#[98]⟩ : ByteArray), .string (⟨#[]⟩ : ByteArray), .string (⟨#[]⟩ : ByteArray), .int .i64 0, .int .i64 0, .bool false, .bool false, .bool false]] rfl (by (try simp only [List.map_toArray, List.map_cons, List.map_nil]); first | done | rfl | (simp only [List.length_drop, List.length_take]; rfl)) ?_; (with_reducible refine (impl_CookieText.calls (⟨#[97]⟩ : ByteArray) (⟨#[98]⟩ : ByteArray) (⟨#[]⟩ : ByteArray) (⟨#[]⟩ : ByteArray) 0 0 false false false t202 _ A4.out).mono ?_); rintro e w142 ⟨rfl, hb⟩; refine ⟨_, rfl, ?_⟩; have n0_ := Aside0.mk (blk_below (g := gb200) (o := .cells #[.string a0_0, .string a0_1, .string a0_2, .string a0_3, .int .i64 a0_4, .int .i64 a0_5, .bool a0_6, .bool a0_7, .bool a0_8] 53 (0, 0)) (by (with_reducible repeat (first | refine blk_drewN ?_ _ | refine blk_drew ?_ | refine blk_alloc ?_ _)); exact BK200.out) hb); have n1_ := Aside0.mk (below_step (by repeat (first | (with_reducible first | exact HB.out | apply below_alloc | apply pw_below_drewN | apply below_drew1 | refine below_set ?_ GE200.out) | exact HB.out)) hb); clear BK200; clear HB; have BK200 := n0_; have HB := n1_; clear n0_ n1_; (try clear hb); (try clear hb2); (try clear hk); (try clear hi)))
      go_ret
      exact ⟨by first | rfl | (simp [errW_none, errW_some] <;> rfl) | (simp [*, errW_none, errW_some] <;> rfl), by repeat (first | (with_reducible first | exact HB.out | apply below_alloc | apply pw_below_drewN | apply below_drew1 | refine below_set ?_ GE200.out) | exact HB.out)⟩
  · replace c3 := Bool.eq_false_iff.mpr c3
    subst c3
    have H1 : (some true) = some r := by rw [if_neg (show ¬ (false = true) by decide)] at H; exact H
    clear H
    have H := H1
    clear H1
    obtain rfl := Option.some.inj H
    go_enter Try.func6, Try.ntmps6
    go_wp2_with (first | ((with_reducible refine gate_dst (N := 1) rfl ?_); (try (refine gate_guard (by rfl) ?_; dsimp only)); refine box_event ?hg (N := 1) ?hd (cs := #[.string a0_0, .string a0_1, .string a0_2, .string a0_3, .int .i64 a0_4, .int .i64 a0_5, .bool a0_6, .bool a0_7, .bool a0_8]) (t := 53) ?hr ?_; (case hd => rfl); (case hg => rfl); (case hr => first | (go_simp; done) | (go_simp; rfl)); intro gb200 hg w143 hbox hb; have n0_ := Aside0.mk (below_step (by repeat (first | (with_reducible first | exact HB.out | apply below_alloc | apply pw_below_drewN | apply below_drew1) | exact HB.out)) hb); have n1_ := Aside0.mk (hbox); have n2_ := Aside0.mk ((by rw [hg]; exact (below_size (by repeat (first | (with_reducible first | exact HB.out | apply below_alloc | apply pw_below_drewN | apply below_drew1) | exact HB.out))) : w.heap.size ≤ gb200)); have n3_ := Aside0.mk ((by rw [hg]; exact (below_size (by repeat (first | (with_reducible first | exact HB.out | apply below_alloc | apply pw_below_drewN | apply below_drew1) | exact HB.out))) : w.heap.size ≤ gb200)); clear HB; have HB := n0_; have BK200 := n1_; have GW200 := n2_; have GE200 := n3_; clear n0_ n1_ n2_ n3_; clear hb hbox hg; have hcz144_0 : w143.cell? ⟨gb200, 0, none⟩ = some (.string a0_0) := (blk_cell BK200.out 0).trans rfl; have hcz144_1 : w143.cell? ⟨gb200, 1, none⟩ = some (.string a0_1) := (blk_cell BK200.out 1).trans rfl; have hcz144_2 : w143.cell? ⟨gb200, 2, none⟩ = some (.string a0_2) := (blk_cell BK200.out 2).trans rfl; have hcz144_3 : w143.cell? ⟨gb200, 3, none⟩ = some (.string a0_3) := (blk_cell BK200.out 3).trans rfl; have hcz144_4 : w143.cell? ⟨gb200, 4, none⟩ = some (.int .i64 a0_4) := (blk_cell BK200.out 4).trans rfl; have hcz144_5 : w143.cell? ⟨gb200, 5, none⟩ = some (.int .i64 a0_5) := (blk_cell BK200.out 5).trans rfl; have hcz144_6 : w143.cell? ⟨gb200, 6, none⟩ = some (.bool a0_6) := (blk_cell BK200.out 6).trans rfl; have hcz144_7 : w143.cell? ⟨gb200, 7, none⟩ = some (.bool a0_7) := (blk_cell BK200.out 7).trans rfl; have hcz144_8 : w143.cell? ⟨gb200, 8, none⟩ = some (.bool a0_8) := (blk_cell BK200.out 8).trans rfl; have hfz144_0 := blk_frozen BK200.out 0; have hfz144_1 := blk_frozen BK200.out 1; have hfz144_2 := blk_frozen BK200.out 2; have hfz144_3 := blk_frozen BK200.out 3; have hfz144_4 := blk_frozen BK200.out 4; have hfz144_5 := blk_frozen BK200.out 5; have hfz144_6 := blk_frozen BK200.out 6; have hfz144_7 := blk_frozen BK200.out 7; have hfz144_8 := blk_frozen BK200.out 8) | ((with_reducible refine gate_callee (f := 20) rfl ?_); refine goesL_ (some 6) rfl rfl Try.func20 (by kernel_rfl) rfl #[.agg #[.string a0_0, .string a0_1, .string a0_2, .string a0_3, .int .i64 a0_4, .int .i64 a0_5, .bool a0_6, .bool a0_7, .bool a0_8]] rfl (by (try simp only [List.map_toArray, List.map_cons, List.map_nil]); first | done | rfl | (simp only [List.length_drop, List.length_take]; rfl)) ?_; (with_reducible refine (laws_zzFits11.calls a0_0 a0_1 a0_2 a0_3 a0_4 a0_5 a0_6 a0_7 a0_8 false _ A2.out).mono ?_); rintro e w145 ⟨rfl, hb⟩; refine ⟨_, rfl, ?_⟩; have n0_ := Aside0.mk (blk_below (g := gb200) (o := .cells #[.string a0_0, .string a0_1, .string a0_2, .string a0_3, .int .i64 a0_4, .int .i64 a0_5, .bool a0_6, .bool a0_7, .bool a0_8] 53 (0, 0)) (by (with_reducible repeat (first | refine blk_drewN ?_ _ | refine blk_drew ?_ | refine blk_alloc ?_ _)); exact BK200.out) hb); have n1_ := Aside0.mk (below_step (by repeat (first | (with_reducible first | exact HB.out | apply below_alloc | apply pw_below_drewN | apply below_drew1 | refine below_set ?_ GE200.out) | exact HB.out)) hb); clear BK200; clear HB; have BK200 := n0_; have HB := n1_; clear n0_ n1_; (try clear hb); (try clear hb2); (try clear hk); (try clear hi)))
    go_ret
    exact ⟨by first | rfl | (simp [errW_none, errW_some] <;> rfl) | (simp [*, errW_none, errW_some] <;> rfl), by repeat (first | (with_reducible first | exact HB.out | apply below_alloc | apply pw_below_drewN | apply below_drew1 | refine below_set ?_ GE200.out) | exact HB.out)⟩
end Go.Proofs.Ytfbllodbcmcndaa.Q
end
